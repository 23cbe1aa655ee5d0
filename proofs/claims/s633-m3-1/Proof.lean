import JvmDerived
import JvmDerived.Pilot.@@N@@Statement
import JvmDerived.Pilot.@@N@@Code
set_option linter.unusedVariables false
set_option linter.unusedSimpArgs false
set_option maxRecDepth 65536
set_option maxHeartbeats 40000000
namespace Jvm.Pilot.@@N@@
open Jvm Jvm.ClassFile Sem Op Lib Jvm.Free Jvm.Stand Jvm.LawKit Jvm.RoadKit Bundle Jvm.Pilot.@@N@@.Jvm.D
section OwnKit
variable {p : Program} {l : Launch} {e : Env} {R : Room} {s : State} {m : MethodId} {A : Array Value} {below : List Frame} {meth : Method} {c : Code} {T : State} {cells slots : Nat} {Z : State} {a0 : Array Value} {h : Heap} {own nm : String} {bytes : ByteArray} {maxL : Nat} {ret : Option FieldType} {W : Outcome → State → Prop} {pc pc' tgt : Nat} {Ls : Array Slot} {st : List Value}
/-- the run from the frame g over T comes to an end at which W holds -/
def Goes (p : Program) (e : Env) (below : List Frame) (W : Outcome → State → Prop) (T : State) (g : JFrame) : Prop :=
  ∃ s₂ o, Steps p.tables e below (T.setTop g) s₂ ∧ s₂.status = .running ∧ Ended s₂ below o ∧ W o s₂
theorem Goes.via {T' : State} {g g' : JFrame} (h : ∀ t, Steps p.tables e below (T'.setTop g') t → Steps p.tables e below (T.setTop g) t) (k : Goes p e below W T' g') : Goes p e below W T g := by
  obtain ⟨s₂, o, h1, h2⟩ := k; exact ⟨s₂, o, h _ h1, h2⟩
/-- what stays the same through a body -/
def Cx (p : Program) (s : State) (m : MethodId) (meth : Method) (c : Code) (Z : State) (own nm : String) (bytes : ByteArray) (maxL : Nat) (ret : Option FieldType) : Prop :=
  p.tables.exec = Jvm.exec ∧ Z.Warmed39 s.vm ∧ s.vm.findClass own = some m.cls ∧ c.code = bytes ∧ c.maxLocals = maxL ∧ meth.sig.returnType = ret ∧ meth.locks = false ∧ meth.name = nm
theorem Cx.hx (C : Cx p s m meth c Z own nm bytes maxL ret) : p.tables.exec = Jvm.exec := C.1
theorem Cx.hZ (C : Cx p s m meth c Z own nm bytes maxL ret) : Z.Warmed39 s.vm := C.2.1
theorem Cx.hown (C : Cx p s m meth c Z own nm bytes maxL ret) : s.vm.findClass own = some m.cls := C.2.2.1
theorem Cx.hby (C : Cx p s m meth c Z own nm bytes maxL ret) : c.code = bytes := C.2.2.2.1
theorem Cx.hml (C : Cx p s m meth c Z own nm bytes maxL ret) : c.maxLocals = maxL := C.2.2.2.2.1
theorem Cx.hret (C : Cx p s m meth c Z own nm bytes maxL ret) : meth.sig.returnType = ret := C.2.2.2.2.2.1
theorem Cx.hlk (C : Cx p s m meth c Z own nm bytes maxL ret) : meth.locks = false := C.2.2.2.2.2.2.1
theorem Cx.hnm (C : Cx p s m meth c Z own nm bytes maxL ret) : meth.name = nm := C.2.2.2.2.2.2.2
/-- where the walk stands: the heap is h; nothing that stood at Z was written; at most so many cells and slots were made -/
def St (p : Program) (l : Launch) (e : Env) (R : Room) (s : State) (m : MethodId) (A : Array Value) (below : List Frame) (meth : Method) (c : Code) (Z : State) (T : State) (h : Heap) (cells slots : Nat) : Prop :=
  ∃ locs, Stand p l e R s m A below meth c T locs cells slots ∧ T.heap = h ∧ Fr Z.heap.size locs ∧ Ext Z.heap h
theorem St.here (X : St p l e R s m A below meth c Z T h cells slots) : At T m c below := by obtain ⟨_, Y, _⟩ := X; exact Y.here
theorem St.ext (X : St p l e R s m A below meth c Z T h cells slots) : Ext Z.heap h := by obtain ⟨_, _, _, _, E⟩ := X; exact E
theorem St.more {cells' slots' : Nat} (X : St p l e R s m A below meth c Z T h cells slots) (h1 : cells ≤ cells') (h2 : slots ≤ slots') : St p l e R s m A below meth c Z T h cells' slots' := by
  obtain ⟨L, Y, r⟩ := X; exact ⟨L, Y.more h1 h2, r⟩
/-- the end of a body: Q of what it returned and of the heap -/
def EndW (Z s : State) (k n : Nat) (Q : Option Value → Heap → Prop) (o : Outcome) (u : State) : Prop :=
  ∃ v L, o = .returned v ∧ (Fr Z.heap.size L ∧ Ext Z.heap u.heap ∧ Q v u.heap) ∧ FrameEnd s o u L k n
/-- a body's contract: called with A at the heap h0, over tables warmer than Z's, it returns and leaves Q -/
def Con (l : Launch) (y : MethodName) (bytes : ByteArray) (maxL : Nat) (ret : Option FieldType) (ws : List Jvm.Cond) (rm : Room) (Z : State) (A : Array Value) (h0 : Heap) (Q : Option Value → Heap → Prop) : Prop :=
  MetFree l y (head1 (Jvm.Cond.code y bytes maxL ret :: ws) rm) (fun a U => a = A ∧ Z.Warmed39 U.vm ∧ U.heap = h0) (fun _ _ _ _ _ => True) (fun _ U o U' => EndW Z U rm.cells rm.slots Q o U')
theorem con_of {y : MethodName} {ws : List Jvm.Cond} {rm : Room} {h0 : Heap} {Q : Option Value → Heap → Prop} {Ls : Array Slot} (hp : plainFor y = true) (hE : Ext Z.heap h0) (hef : ∀ m, entryFrame m A maxL = mkF m 0 Ls [])
    (body : ∀ p e s m below meth c s₁, Cx p s m meth c Z y.cls y.name bytes maxL ret → St p l e rm s m A below meth c Z s₁ h0 0 0 → Goes p e below (EndW Z s rm.cells rm.slots Q) s₁ (mkF m 0 Ls [])) :
    Con l y bytes maxL ret ws rm Z A h0 Q := by
  refine MetFree.of_bodySF hp hisR ?_
  intro p e s m args below meth c s₁ Bd hml0 hP hK
  obtain ⟨rfl, hZ, hh⟩ := hP
  have X0 := Stand.of_body Bd
  have e0 : s₁.heap = h0 := by rw [← hh, Bd.state]; rfl
  have := body p e s m below meth c s₁ ⟨Bd.exec, hZ, findClass_of_methodNamed Bd.named, Bd.bytes, hml0, Bd.returns, Bd.notSynchronized, (name_of_methodNamed Bd.named Bd.method).1⟩ ⟨[], X0, e0, Fr.nil _, hE⟩
  rw [← hef m] at this
  exact this
/-- the instruction at pc, its length, the pc behind it -/
def Dc (b : ByteArray) (pc : Nat) (i : Instr) (n pc' : Nat) : Prop := decode b pc = .ok (i, n) ∧ pc + n = pc'
/-- a jump: besides, its target -/
def Dj (b : ByteArray) (pc : Nat) (i : Instr) (o : Int) (n pc' tgt : Nat) : Prop := decode b pc = .ok (i, n) ∧ pc + n = pc' ∧ 0 ≤ (pc : Int) + o ∧ ((pc : Int) + o).toNat = tgt
theorem g_goto {o : Int} (C : Cx p s m meth c Z own nm bytes maxL ret) (X : St p l e R s m A below meth c Z T h cells slots) (d : Dj bytes pc (.goto o) o 3 pc' tgt) (K : Goes p e below W T (mkF m tgt Ls st)) : Goes p e below W T (mkF m pc Ls st) :=
  Goes.via (fun _ k => XS.goto X.here C.hx rfl rfl (hb C.hby d.1) d.2.2.1 d.2.2.2 k) K
theorem g_if {cd : ClassFile.Cond} {o : Int} {x : Int32} {P : Prop} [Decidable P] (hP : ifCond.holds cd x = decide P) (C : Cx p s m meth c Z own nm bytes maxL ret) (X : St p l e R s m A below meth c Z T h cells slots) (d : Dj bytes pc (.ifCond cd o) o 3 pc' tgt) (K1 : P → Goes p e below W T (mkF m tgt Ls st)) (K2 : ¬ P → Goes p e below W T (mkF m pc' Ls st)) : Goes p e below W T (mkF m pc Ls (.int x :: st)) := by
  obtain ⟨d1, rfl, d3, d4⟩ := d
  by_cases q : P
  · exact Goes.via (fun _ k => XS.ifYes X.here C.hx rfl rfl (hb C.hby d1) rfl (hP.trans (decide_eq_true q)) d3 d4 k) (K1 q)
  · exact Goes.via (fun _ k => XS.ifNo X.here C.hx rfl (hb C.hby d1) rfl (hP.trans (decide_eq_false q)) k) (K2 q)
theorem g_icmp {cd : ClassFile.Cond} {o : Int} {x y : Int32} {P : Prop} [Decidable P] (hP : if_icmp.holds cd x y = decide P) (C : Cx p s m meth c Z own nm bytes maxL ret) (X : St p l e R s m A below meth c Z T h cells slots) (d : Dj bytes pc (.if_icmp cd o) o 3 pc' tgt) (K1 : P → Goes p e below W T (mkF m tgt Ls st)) (K2 : ¬ P → Goes p e below W T (mkF m pc' Ls st)) : Goes p e below W T (mkF m pc Ls (.int y :: .int x :: st)) := by
  obtain ⟨d1, rfl, d3, d4⟩ := d
  by_cases q : P
  · exact Goes.via (fun _ k => XS.icmpYes X.here C.hx rfl rfl (hb C.hby d1) rfl (hP.trans (decide_eq_true q)) d3 d4 k) (K1 q)
  · exact Goes.via (fun _ k => XS.icmpNo X.here C.hx rfl (hb C.hby d1) rfl (hP.trans (decide_eq_false q)) k) (K2 q)
theorem g_ifn {cd : ClassFile.Cond} {o : Int} {x : Int32} {P : Prop} [Decidable P] (hP : ifCond.holds cd x = !decide P) (C : Cx p s m meth c Z own nm bytes maxL ret) (X : St p l e R s m A below meth c Z T h cells slots) (d : Dj bytes pc (.ifCond cd o) o 3 pc' tgt) (K1 : ¬ P → Goes p e below W T (mkF m tgt Ls st)) (K2 : P → Goes p e below W T (mkF m pc' Ls st)) : Goes p e below W T (mkF m pc Ls (.int x :: st)) := by
  obtain ⟨d1, rfl, d3, d4⟩ := d
  by_cases q : P
  · exact Goes.via (fun _ k => XS.ifNo X.here C.hx rfl (hb C.hby d1) rfl (hP.trans (by simp [q])) k) (K2 q)
  · exact Goes.via (fun _ k => XS.ifYes X.here C.hx rfl rfl (hb C.hby d1) rfl (hP.trans (by simp [q])) d3 d4 k) (K1 q)
theorem g_icmpn {cd : ClassFile.Cond} {o : Int} {x y : Int32} {P : Prop} [Decidable P] (hP : if_icmp.holds cd x y = !decide P) (C : Cx p s m meth c Z own nm bytes maxL ret) (X : St p l e R s m A below meth c Z T h cells slots) (d : Dj bytes pc (.if_icmp cd o) o 3 pc' tgt) (K1 : ¬ P → Goes p e below W T (mkF m tgt Ls st)) (K2 : P → Goes p e below W T (mkF m pc' Ls st)) : Goes p e below W T (mkF m pc Ls (.int y :: .int x :: st)) := by
  obtain ⟨d1, rfl, d3, d4⟩ := d
  by_cases q : P
  · exact Goes.via (fun _ k => XS.icmpNo X.here C.hx rfl (hb C.hby d1) rfl (hP.trans (by simp [q])) k) (K2 q)
  · exact Goes.via (fun _ k => XS.icmpYes X.here C.hx rfl rfl (hb C.hby d1) rfl (hP.trans (by simp [q])) d3 d4 k) (K1 q)
theorem hI_eq (x y : Int32) : if_icmp.holds .eq x y = decide (x = y) := by
  by_cases q : x = y
  · rw [(teq q).1]; simp [q]
  · rw [(feq q).1]; simp [q]
theorem hI_ne (x y : Int32) : if_icmp.holds .ne x y = !decide (x = y) := by
  by_cases q : x = y
  · rw [(teq q).2]; simp [q]
  · rw [(feq q).2]; simp [q]
theorem hI_lt (x y : Int32) : if_icmp.holds .lt x y = decide (x < y) := by
  by_cases q : x < y
  · rw [(tlt q).1]; simp [q]
  · rw [(flt q).1]; simp [q]
theorem hI_ge (x y : Int32) : if_icmp.holds .ge x y = !decide (x < y) := by
  by_cases q : x < y
  · rw [(tlt q).2.1]; simp [q]
  · rw [(flt q).2.1]; simp [q]
theorem hI_gt (x y : Int32) : if_icmp.holds .gt x y = decide (y < x) := by
  by_cases q : y < x
  · rw [(tlt q).2.2.1]; simp [q]
  · rw [(flt q).2.2.1]; simp [q]
theorem hI_le (x y : Int32) : if_icmp.holds .le x y = !decide (y < x) := by
  by_cases q : y < x
  · rw [(tlt q).2.2.2]; simp [q]
  · rw [(flt q).2.2.2]; simp [q]
theorem h0_eq (x : Int32) : ifCond.holds .eq x = decide (x = 0) := (if0 _ _).trans (hI_eq x 0)
theorem h0_ne (x : Int32) : ifCond.holds .ne x = !decide (x = 0) := (if0 _ _).trans (hI_ne x 0)
theorem h0_lt (x : Int32) : ifCond.holds .lt x = decide (x < 0) := (if0 _ _).trans (hI_lt x 0)
theorem h0_ge (x : Int32) : ifCond.holds .ge x = !decide (x < 0) := (if0 _ _).trans (hI_ge x 0)
theorem h0_gt (x : Int32) : ifCond.holds .gt x = decide (0 < x) := (if0 _ _).trans (hI_gt x 0)
theorem h0_le (x : Int32) : ifCond.holds .le x = !decide (0 < x) := (if0 _ _).trans (hI_le x 0)
/-- a comparison of longs, then a branch on it: 'lcmp; if..' -/
theorem hL_eq (x y : Int64) : ifCond.holds .eq (lcmpW x y) = decide (x = y) := by rw [h0_eq]; exact decide_eq_decide.mpr (lw_eq x y)
theorem hL_ne (x y : Int64) : ifCond.holds .ne (lcmpW x y) = !decide (x = y) := by rw [h0_ne]; exact congrArg _ (decide_eq_decide.mpr (lw_eq x y))
theorem hL_lt (x y : Int64) : ifCond.holds .lt (lcmpW x y) = decide (x < y) := by rw [h0_lt]; exact decide_eq_decide.mpr (lw_lt x y)
theorem hL_ge (x y : Int64) : ifCond.holds .ge (lcmpW x y) = !decide (x < y) := by rw [h0_ge]; exact congrArg _ (decide_eq_decide.mpr (lw_lt x y))
theorem hL_gt (x y : Int64) : ifCond.holds .gt (lcmpW x y) = decide (y < x) := by rw [h0_gt]; exact decide_eq_decide.mpr (lw_gt x y)
theorem hL_le (x y : Int64) : ifCond.holds .le (lcmpW x y) = !decide (y < x) := by rw [h0_le]; exact congrArg _ (decide_eq_decide.mpr (lw_gt x y))
/-- two references compared; the values are references or null -/
theorem g_acmpeq {o : Int} {x y : Value} (C : Cx p s m meth c Z own nm bytes maxL ret) (X : St p l e R s m A below meth c Z T h cells slots) (d : Dj bytes pc (.if_acmp .eq o) o 3 pc' tgt) (h1 : x.isRef = true) (h2 : y.isRef = true) (K1 : x = y → Goes p e below W T (mkF m tgt Ls st)) (K2 : ¬ x = y → Goes p e below W T (mkF m pc' Ls st)) : Goes p e below W T (mkF m pc Ls (y :: x :: st)) := by
  obtain ⟨d1, rfl, d3, d4⟩ := d
  by_cases q : x = y
  · exact Goes.via (fun _ k => XT.acmpYes X.here C.hx rfl rfl (hb C.hby d1) rfl h1 h2 (XT.aa_eq_t q) d3 d4 k) (K1 q)
  · exact Goes.via (fun _ k => XT.acmpNo X.here C.hx rfl (hb C.hby d1) rfl h1 h2 (XT.aa_eq_f q) k) (K2 q)
theorem g_acmpne {o : Int} {x y : Value} (C : Cx p s m meth c Z own nm bytes maxL ret) (X : St p l e R s m A below meth c Z T h cells slots) (d : Dj bytes pc (.if_acmp .ne o) o 3 pc' tgt) (h1 : x.isRef = true) (h2 : y.isRef = true) (K1 : ¬ x = y → Goes p e below W T (mkF m tgt Ls st)) (K2 : x = y → Goes p e below W T (mkF m pc' Ls st)) : Goes p e below W T (mkF m pc Ls (y :: x :: st)) := by
  obtain ⟨d1, rfl, d3, d4⟩ := d
  by_cases q : x = y
  · exact Goes.via (fun _ k => XT.acmpNo X.here C.hx rfl (hb C.hby d1) rfl h1 h2 (XT.aa_ne_f q) k) (K2 q)
  · exact Goes.via (fun _ k => XT.acmpYes X.here C.hx rfl rfl (hb C.hby d1) rfl h1 h2 (XT.aa_ne_t q) d3 d4 k) (K1 q)
theorem g_ifnull {o : Int} {v : Value} (C : Cx p s m meth c Z own nm bytes maxL ret) (X : St p l e R s m A below meth c Z T h cells slots) (d : Dj bytes pc (.ifnull o) o 3 pc' tgt) (h1 : v.isRef = true) (K1 : v = .null → Goes p e below W T (mkF m tgt Ls st)) (K2 : ¬ v = .null → Goes p e below W T (mkF m pc' Ls st)) : Goes p e below W T (mkF m pc Ls (v :: st)) := by
  obtain ⟨d1, rfl, d3, d4⟩ := d
  by_cases q : v = .null
  · exact Goes.via (fun _ k => XT.nullYes X.here C.hx rfl rfl (hb C.hby d1) rfl q d3 d4 k) (K1 q)
  · exact Goes.via (fun _ k => XT.nullNo X.here C.hx rfl (hb C.hby d1) rfl h1 q k) (K2 q)
theorem g_ifnonnull {o : Int} {v : Value} (C : Cx p s m meth c Z own nm bytes maxL ret) (X : St p l e R s m A below meth c Z T h cells slots) (d : Dj bytes pc (.ifnonnull o) o 3 pc' tgt) (h1 : v.isRef = true) (K1 : ¬ v = .null → Goes p e below W T (mkF m tgt Ls st)) (K2 : v = .null → Goes p e below W T (mkF m pc' Ls st)) : Goes p e below W T (mkF m pc Ls (v :: st)) := by
  obtain ⟨d1, rfl, d3, d4⟩ := d
  by_cases q : v = .null
  · exact Goes.via (fun _ k => XT.nonnullNo X.here C.hx rfl (hb C.hby d1) rfl q k) (K2 q)
  · exact Goes.via (fun _ k => XT.nonnullYes X.here C.hx rfl rfl (hb C.hby d1) rfl h1 q d3 d4 k) (K1 q)
theorem g_iload {k : Nat} {v : Int32} (C : Cx p s m meth c Z own nm bytes maxL ret) (X : St p l e R s m A below meth c Z T h cells slots) (d : Dc bytes pc (.iload k) 2 pc') (hl : Ls[k]? = some (.val (.int v))) (K : Goes p e below W T (mkF m pc' Ls (.int v :: st))) : Goes p e below W T (mkF m pc Ls st) := by
  obtain ⟨d, rfl⟩ := d
  exact Goes.via (fun _ k => XS.iload X.here C.hx rfl (hb C.hby d) hl k) K
theorem g_iloadN {k : Fin 4} {v : Int32} (C : Cx p s m meth c Z own nm bytes maxL ret) (X : St p l e R s m A below meth c Z T h cells slots) (d : Dc bytes pc (.iload_n k) 1 pc') (hl : Ls[k.val]? = some (.val (.int v))) (K : Goes p e below W T (mkF m pc' Ls (.int v :: st))) : Goes p e below W T (mkF m pc Ls st) := by
  obtain ⟨d, rfl⟩ := d
  exact Goes.via (fun _ k => XS.iloadN X.here C.hx rfl (hb C.hby d) hl k) K
theorem g_lload {k : Nat} {v : Int64} (C : Cx p s m meth c Z own nm bytes maxL ret) (X : St p l e R s m A below meth c Z T h cells slots) (d : Dc bytes pc (.lload k) 2 pc') (hl : Ls[k]? = some (.val (.long v))) (K : Goes p e below W T (mkF m pc' Ls (.long v :: st))) : Goes p e below W T (mkF m pc Ls st) := by
  obtain ⟨d, rfl⟩ := d
  exact Goes.via (fun _ k => XT.lload X.here C.hx rfl (hb C.hby d) hl k) K
theorem g_lloadN {k : Fin 4} {v : Int64} (C : Cx p s m meth c Z own nm bytes maxL ret) (X : St p l e R s m A below meth c Z T h cells slots) (d : Dc bytes pc (.lload_n k) 1 pc') (hl : Ls[k.val]? = some (.val (.long v))) (K : Goes p e below W T (mkF m pc' Ls (.long v :: st))) : Goes p e below W T (mkF m pc Ls st) := by
  obtain ⟨d, rfl⟩ := d
  exact Goes.via (fun _ k => XT.lloadN X.here C.hx rfl (hb C.hby d) hl k) K
theorem g_aload {k : Nat} {v : Value} (C : Cx p s m meth c Z own nm bytes maxL ret) (X : St p l e R s m A below meth c Z T h cells slots) (d : Dc bytes pc (.aload k) 2 pc') (hl : Ls[k]? = some (.val v)) (hv : v.isRef = true) (K : Goes p e below W T (mkF m pc' Ls (v :: st))) : Goes p e below W T (mkF m pc Ls st) := by
  obtain ⟨d, rfl⟩ := d
  exact Goes.via (fun _ k => XS.aload X.here C.hx rfl (hb C.hby d) hl hv k) K
theorem g_aloadN {k : Fin 4} {v : Value} (C : Cx p s m meth c Z own nm bytes maxL ret) (X : St p l e R s m A below meth c Z T h cells slots) (d : Dc bytes pc (.aload_n k) 1 pc') (hl : Ls[k.val]? = some (.val v)) (hv : v.isRef = true) (K : Goes p e below W T (mkF m pc' Ls (v :: st))) : Goes p e below W T (mkF m pc Ls st) := by
  obtain ⟨d, rfl⟩ := d
  exact Goes.via (fun _ k => XS.aloadN X.here C.hx rfl (hb C.hby d) hl hv k) K
theorem g_istore {k : Nat} {x : Int32} {l' : Array Slot} (C : Cx p s m meth c Z own nm bytes maxL ret) (X : St p l e R s m A below meth c Z T h cells slots) (d : Dc bytes pc (.istore k) 2 pc') (hl : storeLocals Ls k (.int x) = some l') (K : Goes p e below W T (mkF m pc' l' st)) : Goes p e below W T (mkF m pc Ls (.int x :: st)) := by
  obtain ⟨d, rfl⟩ := d
  exact Goes.via (fun _ k => XS.istore X.here C.hx rfl (hb C.hby d) rfl hl k) K
theorem g_istoreN {k : Fin 4} {x : Int32} {l' : Array Slot} (C : Cx p s m meth c Z own nm bytes maxL ret) (X : St p l e R s m A below meth c Z T h cells slots) (d : Dc bytes pc (.istore_n k) 1 pc') (hl : storeLocals Ls k.val (.int x) = some l') (K : Goes p e below W T (mkF m pc' l' st)) : Goes p e below W T (mkF m pc Ls (.int x :: st)) := by
  obtain ⟨d, rfl⟩ := d
  exact Goes.via (fun _ k => XS.istoreN X.here C.hx rfl (hb C.hby d) rfl hl k) K
theorem g_lstore {k : Nat} {x : Int64} {l' : Array Slot} (C : Cx p s m meth c Z own nm bytes maxL ret) (X : St p l e R s m A below meth c Z T h cells slots) (d : Dc bytes pc (.lstore k) 2 pc') (hl : storeLocals Ls k (.long x) = some l') (K : Goes p e below W T (mkF m pc' l' st)) : Goes p e below W T (mkF m pc Ls (.long x :: st)) := by
  obtain ⟨d, rfl⟩ := d
  exact Goes.via (fun _ k => XT.lstore X.here C.hx rfl (hb C.hby d) rfl hl k) K
theorem g_lstoreN {k : Fin 4} {x : Int64} {l' : Array Slot} (C : Cx p s m meth c Z own nm bytes maxL ret) (X : St p l e R s m A below meth c Z T h cells slots) (d : Dc bytes pc (.lstore_n k) 1 pc') (hl : storeLocals Ls k.val (.long x) = some l') (K : Goes p e below W T (mkF m pc' l' st)) : Goes p e below W T (mkF m pc Ls (.long x :: st)) := by
  obtain ⟨d, rfl⟩ := d
  exact Goes.via (fun _ k => XT.lstoreN X.here C.hx rfl (hb C.hby d) rfl hl k) K
theorem g_astore {k : Nat} {x : Value} {l' : Array Slot} (C : Cx p s m meth c Z own nm bytes maxL ret) (X : St p l e R s m A below meth c Z T h cells slots) (d : Dc bytes pc (.astore k) 2 pc') (hv : x.isRef = true) (hl : storeLocals Ls k x = some l') (K : Goes p e below W T (mkF m pc' l' st)) : Goes p e below W T (mkF m pc Ls (x :: st)) := by
  obtain ⟨d, rfl⟩ := d
  exact Goes.via (fun _ k => XS.astore X.here C.hx rfl (hb C.hby d) rfl hv hl k) K
theorem g_astoreN {k : Fin 4} {x : Value} {l' : Array Slot} (C : Cx p s m meth c Z own nm bytes maxL ret) (X : St p l e R s m A below meth c Z T h cells slots) (d : Dc bytes pc (.astore_n k) 1 pc') (hv : x.isRef = true) (hl : storeLocals Ls k.val x = some l') (K : Goes p e below W T (mkF m pc' l' st)) : Goes p e below W T (mkF m pc Ls (x :: st)) := by
  obtain ⟨d, rfl⟩ := d
  exact Goes.via (fun _ k => XS.astoreN X.here C.hx rfl (hb C.hby d) rfl hv hl k) K
theorem g_iconst {i : Int} (v : Int32) (C : Cx p s m meth c Z own nm bytes maxL ret) (X : St p l e R s m A below meth c Z T h cells slots) (d : Dc bytes pc (.iconst i) 1 pc') (hv : Int32.ofInt i = v) (K : Goes p e below W T (mkF m pc' Ls (.int v :: st))) : Goes p e below W T (mkF m pc Ls st) := by
  obtain ⟨d, rfl⟩ := d
  exact Goes.via (fun _ k => XT.iconstV X.here C.hx rfl v (hb C.hby d) hv k) K
theorem g_bipush {i : Int} (v : Int32) (C : Cx p s m meth c Z own nm bytes maxL ret) (X : St p l e R s m A below meth c Z T h cells slots) (d : Dc bytes pc (.bipush i) 2 pc') (hv : (Int8.ofInt i).toInt32 = v) (K : Goes p e below W T (mkF m pc' Ls (.int v :: st))) : Goes p e below W T (mkF m pc Ls st) := by
  obtain ⟨d, rfl⟩ := d
  exact Goes.via (fun _ k => XT.bipushV X.here C.hx rfl v (hb C.hby d) hv k) K
theorem g_sipush {i : Int} (v : Int32) (C : Cx p s m meth c Z own nm bytes maxL ret) (X : St p l e R s m A below meth c Z T h cells slots) (d : Dc bytes pc (.sipush i) 3 pc') (hv : (Int16.ofInt i).toInt32 = v) (K : Goes p e below W T (mkF m pc' Ls (.int v :: st))) : Goes p e below W T (mkF m pc Ls st) := by
  obtain ⟨d, rfl⟩ := d
  exact Goes.via (fun _ k => XT.sipushV X.here C.hx rfl v (hb C.hby d) hv k) K
theorem g_lconst {k : Fin 2} (v : Int64) (C : Cx p s m meth c Z own nm bytes maxL ret) (X : St p l e R s m A below meth c Z T h cells slots) (d : Dc bytes pc (.lconst k) 1 pc') (hv : Int64.ofNat k = v) (K : Goes p e below W T (mkF m pc' Ls (.long v :: st))) : Goes p e below W T (mkF m pc Ls st) := by
  obtain ⟨d, rfl⟩ := d
  exact Goes.via (fun _ k => XT.lconstV X.here C.hx rfl v (hb C.hby d) hv k) K
theorem g_iinc {k : Nat} {i : Int} {x : Int32} {l' : Array Slot} (v : Int32) (C : Cx p s m meth c Z own nm bytes maxL ret) (X : St p l e R s m A below meth c Z T h cells slots) (d : Dc bytes pc (.iinc k i) 3 pc') (hv : Int32.ofInt i = v) (hl : Ls[k]? = some (.val (.int x))) (hl' : storeLocals Ls k (.int (x + v)) = some l') (K : Goes p e below W T (mkF m pc' l' st)) : Goes p e below W T (mkF m pc Ls st) := by
  obtain ⟨d, rfl⟩ := d
  exact Goes.via (fun _ k => XT.iincV X.here C.hx rfl v (hb C.hby d) hv hl hl' k) K
theorem g_aconst_null  (C : Cx p s m meth c Z own nm bytes maxL ret) (X : St p l e R s m A below meth c Z T h cells slots) (d : Dc bytes pc (.aconst_null) 1 pc')  (K : Goes p e below W T (mkF m pc' Ls (.null :: st))) : Goes p e below W T (mkF m pc Ls st) := by
  obtain ⟨d, rfl⟩ := d
  exact Goes.via (fun _ k => XS.aconstNull X.here C.hx rfl (hb C.hby d)  k) K
theorem g_iadd {x y : Int32} (C : Cx p s m meth c Z own nm bytes maxL ret) (X : St p l e R s m A below meth c Z T h cells slots) (d : Dc bytes pc (.iadd) 1 pc')  (K : Goes p e below W T (mkF m pc' Ls (.int (x + y) :: st))) : Goes p e below W T (mkF m pc Ls (.int y :: .int x :: st)) := by
  obtain ⟨d, rfl⟩ := d
  exact Goes.via (fun _ k => XS.iadd X.here C.hx rfl (hb C.hby d) rfl k) K
theorem g_ladd {x y : Int64} (C : Cx p s m meth c Z own nm bytes maxL ret) (X : St p l e R s m A below meth c Z T h cells slots) (d : Dc bytes pc (.ladd) 1 pc')  (K : Goes p e below W T (mkF m pc' Ls (.long (x + y) :: st))) : Goes p e below W T (mkF m pc Ls (.long y :: .long x :: st)) := by
  obtain ⟨d, rfl⟩ := d
  exact Goes.via (fun _ k => XT.ladd X.here C.hx rfl (hb C.hby d) rfl k) K
theorem g_isub {x y : Int32} (C : Cx p s m meth c Z own nm bytes maxL ret) (X : St p l e R s m A below meth c Z T h cells slots) (d : Dc bytes pc (.isub) 1 pc')  (K : Goes p e below W T (mkF m pc' Ls (.int (x - y) :: st))) : Goes p e below W T (mkF m pc Ls (.int y :: .int x :: st)) := by
  obtain ⟨d, rfl⟩ := d
  exact Goes.via (fun _ k => XS.isub X.here C.hx rfl (hb C.hby d) rfl k) K
theorem g_lsub {x y : Int64} (C : Cx p s m meth c Z own nm bytes maxL ret) (X : St p l e R s m A below meth c Z T h cells slots) (d : Dc bytes pc (.lsub) 1 pc')  (K : Goes p e below W T (mkF m pc' Ls (.long (x - y) :: st))) : Goes p e below W T (mkF m pc Ls (.long y :: .long x :: st)) := by
  obtain ⟨d, rfl⟩ := d
  exact Goes.via (fun _ k => XT.lsub X.here C.hx rfl (hb C.hby d) rfl k) K
theorem g_imul {x y : Int32} (C : Cx p s m meth c Z own nm bytes maxL ret) (X : St p l e R s m A below meth c Z T h cells slots) (d : Dc bytes pc (.imul) 1 pc')  (K : Goes p e below W T (mkF m pc' Ls (.int (x * y) :: st))) : Goes p e below W T (mkF m pc Ls (.int y :: .int x :: st)) := by
  obtain ⟨d, rfl⟩ := d
  exact Goes.via (fun _ k => XS.imul X.here C.hx rfl (hb C.hby d) rfl k) K
theorem g_lmul {x y : Int64} (C : Cx p s m meth c Z own nm bytes maxL ret) (X : St p l e R s m A below meth c Z T h cells slots) (d : Dc bytes pc (.lmul) 1 pc')  (K : Goes p e below W T (mkF m pc' Ls (.long (x * y) :: st))) : Goes p e below W T (mkF m pc Ls (.long y :: .long x :: st)) := by
  obtain ⟨d, rfl⟩ := d
  exact Goes.via (fun _ k => XT.lmul X.here C.hx rfl (hb C.hby d) rfl k) K
theorem g_iand {x y : Int32} (C : Cx p s m meth c Z own nm bytes maxL ret) (X : St p l e R s m A below meth c Z T h cells slots) (d : Dc bytes pc (.iand) 1 pc')  (K : Goes p e below W T (mkF m pc' Ls (.int (x &&& y) :: st))) : Goes p e below W T (mkF m pc Ls (.int y :: .int x :: st)) := by
  obtain ⟨d, rfl⟩ := d
  exact Goes.via (fun _ k => XS.iand X.here C.hx rfl (hb C.hby d) rfl k) K
theorem g_land {x y : Int64} (C : Cx p s m meth c Z own nm bytes maxL ret) (X : St p l e R s m A below meth c Z T h cells slots) (d : Dc bytes pc (.land) 1 pc')  (K : Goes p e below W T (mkF m pc' Ls (.long (x &&& y) :: st))) : Goes p e below W T (mkF m pc Ls (.long y :: .long x :: st)) := by
  obtain ⟨d, rfl⟩ := d
  exact Goes.via (fun _ k => XT.land X.here C.hx rfl (hb C.hby d) rfl k) K
theorem g_ior {x y : Int32} (C : Cx p s m meth c Z own nm bytes maxL ret) (X : St p l e R s m A below meth c Z T h cells slots) (d : Dc bytes pc (.ior) 1 pc')  (K : Goes p e below W T (mkF m pc' Ls (.int (x ||| y) :: st))) : Goes p e below W T (mkF m pc Ls (.int y :: .int x :: st)) := by
  obtain ⟨d, rfl⟩ := d
  exact Goes.via (fun _ k => XT.ior X.here C.hx rfl (hb C.hby d) rfl k) K
theorem g_lor {x y : Int64} (C : Cx p s m meth c Z own nm bytes maxL ret) (X : St p l e R s m A below meth c Z T h cells slots) (d : Dc bytes pc (.lor) 1 pc')  (K : Goes p e below W T (mkF m pc' Ls (.long (x ||| y) :: st))) : Goes p e below W T (mkF m pc Ls (.long y :: .long x :: st)) := by
  obtain ⟨d, rfl⟩ := d
  exact Goes.via (fun _ k => XT.lor X.here C.hx rfl (hb C.hby d) rfl k) K
theorem g_ixor {x y : Int32} (C : Cx p s m meth c Z own nm bytes maxL ret) (X : St p l e R s m A below meth c Z T h cells slots) (d : Dc bytes pc (.ixor) 1 pc')  (K : Goes p e below W T (mkF m pc' Ls (.int (x ^^^ y) :: st))) : Goes p e below W T (mkF m pc Ls (.int y :: .int x :: st)) := by
  obtain ⟨d, rfl⟩ := d
  exact Goes.via (fun _ k => XT.ixor X.here C.hx rfl (hb C.hby d) rfl k) K
theorem g_lxor {x y : Int64} (C : Cx p s m meth c Z own nm bytes maxL ret) (X : St p l e R s m A below meth c Z T h cells slots) (d : Dc bytes pc (.lxor) 1 pc')  (K : Goes p e below W T (mkF m pc' Ls (.long (x ^^^ y) :: st))) : Goes p e below W T (mkF m pc Ls (.long y :: .long x :: st)) := by
  obtain ⟨d, rfl⟩ := d
  exact Goes.via (fun _ k => XT.lxor X.here C.hx rfl (hb C.hby d) rfl k) K
theorem g_idiv {x y : Int32} (C : Cx p s m meth c Z own nm bytes maxL ret) (X : St p l e R s m A below meth c Z T h cells slots) (d : Dc bytes pc (.idiv) 1 pc') (hy : y ≠ 0) (K : Goes p e below W T (mkF m pc' Ls (.int (x / y) :: st))) : Goes p e below W T (mkF m pc Ls (.int y :: .int x :: st)) := by
  obtain ⟨d, rfl⟩ := d
  exact Goes.via (fun _ k => XS.idiv X.here C.hx rfl (hb C.hby d) rfl hy k) K
theorem g_ldiv {x y : Int64} (C : Cx p s m meth c Z own nm bytes maxL ret) (X : St p l e R s m A below meth c Z T h cells slots) (d : Dc bytes pc (.ldiv) 1 pc') (hy : y ≠ 0) (K : Goes p e below W T (mkF m pc' Ls (.long (x / y) :: st))) : Goes p e below W T (mkF m pc Ls (.long y :: .long x :: st)) := by
  obtain ⟨d, rfl⟩ := d
  exact Goes.via (fun _ k => XT.ldiv X.here C.hx rfl (hb C.hby d) rfl hy k) K
theorem g_ineg {x : Int32} (C : Cx p s m meth c Z own nm bytes maxL ret) (X : St p l e R s m A below meth c Z T h cells slots) (d : Dc bytes pc (.ineg) 1 pc')  (K : Goes p e below W T (mkF m pc' Ls (.int (-x) :: st))) : Goes p e below W T (mkF m pc Ls (.int x :: st)) := by
  obtain ⟨d, rfl⟩ := d
  exact Goes.via (fun _ k => XS.ineg X.here C.hx rfl (hb C.hby d) rfl k) K
theorem g_lneg {x : Int64} (C : Cx p s m meth c Z own nm bytes maxL ret) (X : St p l e R s m A below meth c Z T h cells slots) (d : Dc bytes pc (.lneg) 1 pc')  (K : Goes p e below W T (mkF m pc' Ls (.long (-x) :: st))) : Goes p e below W T (mkF m pc Ls (.long x :: st)) := by
  obtain ⟨d, rfl⟩ := d
  exact Goes.via (fun _ k => XT.lneg X.here C.hx rfl (hb C.hby d) rfl k) K
theorem g_ishl {x y : Int32} (C : Cx p s m meth c Z own nm bytes maxL ret) (X : St p l e R s m A below meth c Z T h cells slots) (d : Dc bytes pc (.ishl) 1 pc')  (K : Goes p e below W T (mkF m pc' Ls (.int (x <<< (y &&& 31)) :: st))) : Goes p e below W T (mkF m pc Ls (.int y :: .int x :: st)) := by
  obtain ⟨d, rfl⟩ := d
  exact Goes.via (fun _ k => XT.ishl X.here C.hx rfl (hb C.hby d) rfl k) K
theorem g_ishr {x y : Int32} (C : Cx p s m meth c Z own nm bytes maxL ret) (X : St p l e R s m A below meth c Z T h cells slots) (d : Dc bytes pc (.ishr) 1 pc')  (K : Goes p e below W T (mkF m pc' Ls (.int (x >>> (y &&& 31)) :: st))) : Goes p e below W T (mkF m pc Ls (.int y :: .int x :: st)) := by
  obtain ⟨d, rfl⟩ := d
  exact Goes.via (fun _ k => XT.ishr X.here C.hx rfl (hb C.hby d) rfl k) K
theorem g_iushr {x y : Int32} (C : Cx p s m meth c Z own nm bytes maxL ret) (X : St p l e R s m A below meth c Z T h cells slots) (d : Dc bytes pc (.iushr) 1 pc')  (K : Goes p e below W T (mkF m pc' Ls (.int ((x.toUInt32 >>> (y &&& 31).toUInt32).toInt32) :: st))) : Goes p e below W T (mkF m pc Ls (.int y :: .int x :: st)) := by
  obtain ⟨d, rfl⟩ := d
  exact Goes.via (fun _ k => XT.iushr X.here C.hx rfl (hb C.hby d) rfl k) K
theorem g_lshl {x : Int64} {y : Int32} (C : Cx p s m meth c Z own nm bytes maxL ret) (X : St p l e R s m A below meth c Z T h cells slots) (d : Dc bytes pc (.lshl) 1 pc')  (K : Goes p e below W T (mkF m pc' Ls (.long (x <<< (y &&& 0x3f).toInt64) :: st))) : Goes p e below W T (mkF m pc Ls (.int y :: .long x :: st)) := by
  obtain ⟨d, rfl⟩ := d
  exact Goes.via (fun _ k => XS.lshl X.here C.hx rfl (hb C.hby d) rfl k) K
theorem g_lshr {x : Int64} {y : Int32} (C : Cx p s m meth c Z own nm bytes maxL ret) (X : St p l e R s m A below meth c Z T h cells slots) (d : Dc bytes pc (.lshr) 1 pc')  (K : Goes p e below W T (mkF m pc' Ls (.long (x >>> (y &&& 0x3f).toInt64) :: st))) : Goes p e below W T (mkF m pc Ls (.int y :: .long x :: st)) := by
  obtain ⟨d, rfl⟩ := d
  exact Goes.via (fun _ k => XS.lshr X.here C.hx rfl (hb C.hby d) rfl k) K
theorem g_lushr {x : Int64} {y : Int32} (C : Cx p s m meth c Z own nm bytes maxL ret) (X : St p l e R s m A below meth c Z T h cells slots) (d : Dc bytes pc (.lushr) 1 pc')  (K : Goes p e below W T (mkF m pc' Ls (.long ((x.toUInt64 >>> (y &&& 0x3f).toInt64.toUInt64).toInt64) :: st))) : Goes p e below W T (mkF m pc Ls (.int y :: .long x :: st)) := by
  obtain ⟨d, rfl⟩ := d
  exact Goes.via (fun _ k => XS.lushr X.here C.hx rfl (hb C.hby d) rfl k) K
theorem g_i2l {x : Int32} (C : Cx p s m meth c Z own nm bytes maxL ret) (X : St p l e R s m A below meth c Z T h cells slots) (d : Dc bytes pc (.i2l) 1 pc')  (K : Goes p e below W T (mkF m pc' Ls (.long x.toInt64 :: st))) : Goes p e below W T (mkF m pc Ls (.int x :: st)) := by
  obtain ⟨d, rfl⟩ := d
  exact Goes.via (fun _ k => XT.i2l X.here C.hx rfl (hb C.hby d) rfl k) K
theorem g_l2i {x : Int64} (C : Cx p s m meth c Z own nm bytes maxL ret) (X : St p l e R s m A below meth c Z T h cells slots) (d : Dc bytes pc (.l2i) 1 pc')  (K : Goes p e below W T (mkF m pc' Ls (.int x.toInt32 :: st))) : Goes p e below W T (mkF m pc Ls (.long x :: st)) := by
  obtain ⟨d, rfl⟩ := d
  exact Goes.via (fun _ k => XT.l2i X.here C.hx rfl (hb C.hby d) rfl k) K
theorem g_i2b {x : Int32} (C : Cx p s m meth c Z own nm bytes maxL ret) (X : St p l e R s m A below meth c Z T h cells slots) (d : Dc bytes pc (.i2b) 1 pc')  (K : Goes p e below W T (mkF m pc' Ls (.int x.toInt8.toInt32 :: st))) : Goes p e below W T (mkF m pc Ls (.int x :: st)) := by
  obtain ⟨d, rfl⟩ := d
  exact Goes.via (fun _ k => XT.i2b X.here C.hx rfl (hb C.hby d) rfl k) K
theorem g_i2s {x : Int32} (C : Cx p s m meth c Z own nm bytes maxL ret) (X : St p l e R s m A below meth c Z T h cells slots) (d : Dc bytes pc (.i2s) 1 pc')  (K : Goes p e below W T (mkF m pc' Ls (.int x.toInt16.toInt32 :: st))) : Goes p e below W T (mkF m pc Ls (.int x :: st)) := by
  obtain ⟨d, rfl⟩ := d
  exact Goes.via (fun _ k => XT.i2s X.here C.hx rfl (hb C.hby d) rfl k) K
theorem g_i2c {x : Int32} (C : Cx p s m meth c Z own nm bytes maxL ret) (X : St p l e R s m A below meth c Z T h cells slots) (d : Dc bytes pc (.i2c) 1 pc')  (K : Goes p e below W T (mkF m pc' Ls (.int x.toUInt32.toUInt16.toUInt32.toInt32 :: st))) : Goes p e below W T (mkF m pc Ls (.int x :: st)) := by
  obtain ⟨d, rfl⟩ := d
  exact Goes.via (fun _ k => XT.i2c X.here C.hx rfl (hb C.hby d) rfl k) K
theorem g_lcmp {x y : Int64} (C : Cx p s m meth c Z own nm bytes maxL ret) (X : St p l e R s m A below meth c Z T h cells slots) (d : Dc bytes pc (.lcmp) 1 pc')  (K : Goes p e below W T (mkF m pc' Ls (.int (lcmpW x y) :: st))) : Goes p e below W T (mkF m pc Ls (.long y :: .long x :: st)) := by
  obtain ⟨d, rfl⟩ := d
  exact Goes.via (fun _ k => XT.lcmp X.here C.hx rfl (hb C.hby d) rfl k) K
theorem g_pop {x : Value} (C : Cx p s m meth c Z own nm bytes maxL ret) (X : St p l e R s m A below meth c Z T h cells slots) (d : Dc bytes pc (.pop) 1 pc') (hc : x.category = 1) (K : Goes p e below W T (mkF m pc' Ls st)) : Goes p e below W T (mkF m pc Ls (x :: st)) := by
  obtain ⟨d, rfl⟩ := d
  exact Goes.via (fun _ k => XT.pop X.here C.hx rfl (hb C.hby d) rfl hc k) K
theorem g_dup {x : Value} (C : Cx p s m meth c Z own nm bytes maxL ret) (X : St p l e R s m A below meth c Z T h cells slots) (d : Dc bytes pc (.dup) 1 pc') (hc : x.category = 1) (K : Goes p e below W T (mkF m pc' Ls (x :: x :: st))) : Goes p e below W T (mkF m pc Ls (x :: st)) := by
  obtain ⟨d, rfl⟩ := d
  exact Goes.via (fun _ k => XS.dup X.here C.hx rfl (hb C.hby d) rfl hc k) K
theorem g_dup_x1 {x y : Value} (C : Cx p s m meth c Z own nm bytes maxL ret) (X : St p l e R s m A below meth c Z T h cells slots) (d : Dc bytes pc (.dup_x1) 1 pc') (hc : x.category = 1) (hc' : y.category = 1) (K : Goes p e below W T (mkF m pc' Ls (x :: y :: x :: st))) : Goes p e below W T (mkF m pc Ls (x :: y :: st)) := by
  obtain ⟨d, rfl⟩ := d
  exact Goes.via (fun _ k => XT.dupX1 X.here C.hx rfl (hb C.hby d) rfl hc hc' k) K
theorem g_dup2 {x y : Value} (C : Cx p s m meth c Z own nm bytes maxL ret) (X : St p l e R s m A below meth c Z T h cells slots) (d : Dc bytes pc (.dup2) 1 pc') (hc : x.category = 1) (hc' : y.category = 1) (K : Goes p e below W T (mkF m pc' Ls (x :: y :: x :: y :: st))) : Goes p e below W T (mkF m pc Ls (x :: y :: st)) := by
  obtain ⟨d, rfl⟩ := d
  exact Goes.via (fun _ k => XT.dup2 X.here C.hx rfl (hb C.hby d) rfl hc hc' k) K
theorem g_dup2L {x : Int64} (C : Cx p s m meth c Z own nm bytes maxL ret) (X : St p l e R s m A below meth c Z T h cells slots) (d : Dc bytes pc (.dup2) 1 pc')  (K : Goes p e below W T (mkF m pc' Ls (.long x :: .long x :: st))) : Goes p e below W T (mkF m pc Ls (.long x :: st)) := by
  obtain ⟨d, rfl⟩ := d
  exact Goes.via (fun _ k => XT.dup2L X.here C.hx rfl (hb C.hby d) rfl k) K
theorem g_irem {x y : Int32} (C : Cx p s m meth c Z own nm bytes maxL ret) (X : St p l e R s m A below meth c Z T h cells slots) (d : Dc bytes pc .irem 1 pc') (hy : y ≠ 0) (K : Goes p e below W T (mkF m pc' Ls (.int (x % y) :: st))) : Goes p e below W T (mkF m pc Ls (.int y :: .int x :: st)) := by
  obtain ⟨d, rfl⟩ := d
  obtain ⟨_, Y, _⟩ := X
  exact Goes.via (fun _ k => iremM Y C.hx rfl (hb C.hby d) rfl hy k) K
theorem g_lrem {x y : Int64} (C : Cx p s m meth c Z own nm bytes maxL ret) (X : St p l e R s m A below meth c Z T h cells slots) (d : Dc bytes pc .lrem 1 pc') (hy : y ≠ 0) (K : Goes p e below W T (mkF m pc' Ls (.long (x % y) :: st))) : Goes p e below W T (mkF m pc Ls (.long y :: .long x :: st)) := by
  obtain ⟨d, rfl⟩ := d
  rw [← lrem_mod] at K
  exact Goes.via (fun _ k => XT.lrem X.here C.hx rfl (hb C.hby d) rfl hy k) K
theorem g_ldcI {index : Nat} {v : Int32} (C : Cx p s m meth c Z own nm bytes maxL ret) (X : St p l e R s m A below meth c Z T h cells slots) (w : (Jvm.Cond.constant own index v).before a0 Z = true) (d : Dc bytes pc (.ldc index) 2 pc') (K : Goes p e below W T (mkF m pc' Ls (.int v :: st))) : Goes p e below W T (mkF m pc Ls st) := by
  obtain ⟨d, rfl⟩ := d
  obtain ⟨_, Y, _⟩ := X
  exact Goes.via (fun t k => Y.ldcInt C.hx C.hown (mvT C.hZ w) (g := mkF m pc Ls st) rfl (hb C.hby d) t k) K
theorem g_ldcwI {index : Nat} {v : Int32} (C : Cx p s m meth c Z own nm bytes maxL ret) (X : St p l e R s m A below meth c Z T h cells slots) (w : (Jvm.Cond.constant own index v).before a0 Z = true) (d : Dc bytes pc (.ldc_w index) 3 pc') (K : Goes p e below W T (mkF m pc' Ls (.int v :: st))) : Goes p e below W T (mkF m pc Ls st) := by
  obtain ⟨d, rfl⟩ := d
  obtain ⟨_, Y, _⟩ := X
  exact Goes.via (fun t k => Y.ldcWI C.hx C.hown (mvT C.hZ w) (g := mkF m pc Ls st) rfl (hb C.hby d) k) K
theorem g_ldcJ {index : Nat} {v : Int64} (C : Cx p s m meth c Z own nm bytes maxL ret) (X : St p l e R s m A below meth c Z T h cells slots) (w : (Jvm.Cond.constantLong own index v).before a0 Z = true) (d : Dc bytes pc (.ldc2_w index) 3 pc') (K : Goes p e below W T (mkF m pc' Ls (.long v :: st))) : Goes p e below W T (mkF m pc Ls st) := by
  obtain ⟨d, rfl⟩ := d
  obtain ⟨_, Y, _⟩ := X
  exact Goes.via (fun t k => Y.ldc2Long C.hx C.hown (mvT C.hZ w) (g := mkF m pc Ls st) rfl (hb C.hby d) t k) K
theorem g_getstatic {R0 O n dd host : String} {index : Nat} {v : Value} (C : Cx p s m meth c Z own nm bytes maxL ret) (X : St p l e R s m A below meth c Z T h cells slots) (w : (Jvm.Cond.fieldLink own index R0 n dd).before a0 Z = true ∨ (Jvm.Cond.fieldLinkNest own index R0 n dd host).before a0 Z = true) (via : Via Z R0 O n dd) (F : Sta Z Z.heap O n dd v) (d : Dc bytes pc (.getstatic index) 3 pc')
    (K : ∀ T', St p l e R s m A below meth c Z T' h cells slots → Goes p e below W T' (mkF m pc' Ls (v :: st))) : Goes p e below W T (mkF m pc Ls st) := by
  obtain ⟨d, rfl⟩ := d
  obtain ⟨L, Y, eT, N, E⟩ := X
  obtain ⟨T', Y', e', q⟩ := getS2 Y C.hx C.hZ C.hown w via eT (F.ext E) (g := mkF m pc Ls st) rfl (hb C.hby d)
  exact Goes.via q (K T' ⟨L, Y', e', N, E⟩)
theorem g_getfield {R0 O n dd host : String} {index : Nat} {a : Addr} {v : Value} (C : Cx p s m meth c Z own nm bytes maxL ret) (X : St p l e R s m A below meth c Z T h cells slots) (w : (Jvm.Cond.fieldLink own index R0 n dd).before a0 Z = true ∨ (Jvm.Cond.fieldLinkNest own index R0 n dd host).before a0 Z = true) (via : Via Z R0 O n dd) (F : Fld Z h a O n dd v) (d : Dc bytes pc (.getfield index) 3 pc')
    (K : ∀ T', St p l e R s m A below meth c Z T' h cells slots → Goes p e below W T' (mkF m pc' Ls (v :: st))) : Goes p e below W T (mkF m pc Ls (.ref a :: st)) := by
  obtain ⟨d, rfl⟩ := d
  obtain ⟨L, Y, eT, N, E⟩ := X
  obtain ⟨T', Y', e', q⟩ := getF Y C.hx C.hZ C.hown w via eT F (g := mkF m pc Ls (.ref a :: st)) rfl rfl (hb C.hby d)
  exact Goes.via q (K T' ⟨L, Y', e', N, E⟩)
theorem ext_wr {h h' : Heap} {a : Addr} {sl : Nat} {v : Value} (E : Ext Z.heap h) (w : Wr h h' a sl v) (q : Z.heap.size ≤ a) : Ext Z.heap h' := (Old.wr (Z := Z) (n0 := Z.heap.size) (h := h) ⟨rfl, E⟩ w q).2
theorem ext_keep {h h' : Heap} {ws : List Addr} (E : Ext Z.heap h) (w : Keep h h' ws) (q : ∀ x ∈ ws, Z.heap.size ≤ x) : Ext Z.heap h' := (Old.keep (Z := Z) (n0 := Z.heap.size) (h := h) ⟨rfl, E⟩ w q).2
theorem ext_trans {h h' : Heap} (E : Ext Z.heap h) (E' : Ext h h') : Ext Z.heap h' := ⟨Nat.le_trans E.1 E'.1, fun x c q => E'.2 x c (E.2 x c q)⟩
theorem g_putfield {R0 O n dd host K0 : String} {index kk : Nat} {ty : FieldType} {a : Addr} {v old : Value} (C : Cx p s m meth c Z own nm bytes maxL ret) (X : St p l e R s m A below meth c Z T h cells slots) (w : (Jvm.Cond.fieldLink own index R0 n dd).before a0 Z = true ∨ (Jvm.Cond.fieldLinkNest own index R0 n dd host).before a0 Z = true) (via : Via Z R0 O n dd)
    (F : Fld Z h a O n dd old) (Ex : Exa Z h a K0) (L : (Jvm.Cond.lays K0 O n dd).before a0 Z = true ∨ ((Jvm.Cond.laysFinal K0 O n dd).before a0 Z = true ∧ own = O ∧ nm = "<init>")) (wi : (Jvm.Cond.instantiable K0 kk).before a0 Z = true) (hty : parseFieldDescriptor dd = some ty) (hn : narrow ty v = v) (hf : fits ty v = true) (hnew : Z.heap.size ≤ a) (d : Dc bytes pc (.putfield index) 3 pc')
    (K : ∀ T' h', St p l e R s m A below meth c Z T' h' cells slots → Wr h h' a (RoadKit.slotOf Z O n dd) v → Goes p e below W T' (mkF m pc' Ls st)) : Goes p e below W T (mkF m pc Ls (v :: .ref a :: st)) := by
  obtain ⟨d, rfl⟩ := d
  obtain ⟨L0, Y, eT, N, E⟩ := X
  obtain ⟨T', h', Y', e', W', q⟩ := putF Y C.hx C.hZ C.hown w via eT F Ex (L.imp id fun z => ⟨z.1, z.2.1, C.hnm.trans z.2.2⟩) wi hty hn hf (g := mkF m pc Ls (v :: .ref a :: st)) rfl rfl (hb C.hby d)
  exact Goes.via q (K T' h' ⟨_, Y', e', Fr.snoc Y' N hnew, ext_wr E W' hnew⟩ W')
theorem g_new {K0 : String} {index n : Nat} (C : Cx p s m meth c Z own nm bytes maxL ret) (X : St p l e R s m A below meth c Z T h cells slots) (w : (Jvm.Cond.classLink own index K0).before a0 Z = true) (wi : (Jvm.Cond.instantiable K0 n).before a0 Z = true) (wz : (Jvm.Cond.initialized K0).before a0 Z = true) (d : Dc bytes pc (.new index) 3 pc') (hc : cells + 1 ≤ R.cells) (hl : slots + n ≤ R.slots)
    (K : ∀ T' h' b, b = h.size → Z.heap.size ≤ b → St p l e R s m A below meth c Z T' h' (cells + 1) (slots + n) → Ext h h' → Exa Z h' b K0 → (∀ {O f dd : String} {ty : FieldType}, Laid Z a0 K0 O f dd → parseFieldDescriptor dd = some ty → Fld Z h' b O f dd (defaultValue ty)) → (∃ cell : Cell, h'[b]? = some cell ∧ cell.vm = .none ∧ cell.monitor = {}) → Goes p e below W T' (mkF m pc' Ls (.ref b :: st))) : Goes p e below W T (mkF m pc Ls st) := by
  obtain ⟨d, rfl⟩ := d
  obtain ⟨L0, Y, eT, N, E⟩ := X
  obtain ⟨T', h', Y', e', E', A', D', M', q⟩ := newO Y C.hx C.hZ C.hown w wi wz eT (g := mkF m pc Ls st) rfl (hb C.hby d) hc hl
  exact Goes.via q (K T' h' _ rfl E.1 ⟨_, Y', e', N, ext_trans E E'⟩ E' A' D' M')
theorem g_newarray {aty : ArrayType} {n : Int32} (C : Cx p s m meth c Z own nm bytes maxL ret) (X : St p l e R s m A below meth c Z T h cells slots) (w : (Jvm.Cond.arrayClass (newarray.typeOf aty)).before a0 Z = true) (d : Dc bytes pc (.newarray aty) 2 pc') (hn : ¬ n < 0) (len cap : Nat) (hcap : n.toNatClampNeg ≤ cap) (hb' : cap * 8 ≤ 536870912) (hc : cells + 1 ≤ R.cells) (hl : slots + cap ≤ R.slots)
    (K : ∀ T' h' b k, b = h.size → Z.heap.size ≤ b → St p l e R s m A below meth c Z T' h' (cells + 1) (slots + cap) → Ext h h' → Arv Z h' b k (newarray.typeOf aty) n (List.replicate len (defaultValue (newarray.typeOf aty))) (defaultValue (newarray.typeOf aty)) → Goes p e below W T' (mkF m pc' Ls (.ref b :: st))) : Goes p e below W T (mkF m pc Ls (.int n :: st)) := by
  obtain ⟨d, rfl⟩ := d
  obtain ⟨L0, Y, eT, N, E⟩ := X
  obtain ⟨T', h', k, Y', e', E', A', q⟩ := newP Y C.hx C.hZ w eT (g := mkF m pc Ls (.int n :: st)) rfl (hb C.hby d) rfl hn hcap hb' hc hl
  exact Goes.via q (K T' h' _ k rfl E.1 ⟨_, Y', e', N, ext_trans E E'⟩ E' ((Arv.new A' hn).pad (pad_rep [] _ len)))
theorem g_checkcast {K0 : String} {index : Nat} {a : Addr} (C : Cx p s m meth c Z own nm bytes maxL ret) (X : St p l e R s m A below meth c Z T h cells slots) (w : (Jvm.Cond.classLink own index K0).before a0 Z = true) (F : Ins Z h a K0 true) (d : Dc bytes pc (.checkcast index) 3 pc')
    (K : ∀ T', St p l e R s m A below meth c Z T' h cells slots → Goes p e below W T' (mkF m pc' Ls (.ref a :: st))) : Goes p e below W T (mkF m pc Ls (.ref a :: st)) := by
  obtain ⟨d, rfl⟩ := d
  obtain ⟨L, Y, eT, N, E⟩ := X
  obtain ⟨T', Y', e', q⟩ := castY Y C.hx C.hZ C.hown w eT F (g := mkF m pc Ls (.ref a :: st)) rfl rfl (hb C.hby d)
  exact Goes.via q (K T' ⟨L, Y', e', N, E⟩)
theorem g_checkcastN {index : Nat} (C : Cx p s m meth c Z own nm bytes maxL ret) (X : St p l e R s m A below meth c Z T h cells slots) (d : Dc bytes pc (.checkcast index) 3 pc') (K : Goes p e below W T (mkF m pc' Ls (.null :: st))) : Goes p e below W T (mkF m pc Ls (.null :: st)) := by
  obtain ⟨d, rfl⟩ := d
  obtain ⟨L, Y, eT, N, E⟩ := X
  exact Goes.via (Y.checkcastNull C.hx (g := mkF m pc Ls (.null :: st)) rfl rfl (hb C.hby d)) K
theorem g_instanceY {K0 : String} {index : Nat} {a : Addr} (C : Cx p s m meth c Z own nm bytes maxL ret) (X : St p l e R s m A below meth c Z T h cells slots) (w : (Jvm.Cond.classLink own index K0).before a0 Z = true) (F : Ins Z h a K0 true) (d : Dc bytes pc (.instanceof index) 3 pc')
    (K : ∀ T', St p l e R s m A below meth c Z T' h cells slots → Goes p e below W T' (mkF m pc' Ls (.int 1 :: st))) : Goes p e below W T (mkF m pc Ls (.ref a :: st)) := by
  obtain ⟨d, rfl⟩ := d
  obtain ⟨L, Y, eT, N, E⟩ := X
  obtain ⟨T', Y', e', q⟩ := instY Y C.hx C.hZ C.hown w eT F (g := mkF m pc Ls (.ref a :: st)) rfl rfl (hb C.hby d)
  exact Goes.via q (K T' ⟨L, Y', e', N, E⟩)
theorem g_instanceN {index : Nat} (C : Cx p s m meth c Z own nm bytes maxL ret) (X : St p l e R s m A below meth c Z T h cells slots) (d : Dc bytes pc (.instanceof index) 3 pc') (K : Goes p e below W T (mkF m pc' Ls (.int 0 :: st))) : Goes p e below W T (mkF m pc Ls (.null :: st)) := by
  obtain ⟨d, rfl⟩ := d
  obtain ⟨L, Y, eT, N, E⟩ := X
  exact Goes.via (Y.instanceofNull C.hx (g := mkF m pc Ls (.null :: st)) rfl rfl (hb C.hby d)) K
theorem keep_ext {h h' : Heap} (K : Keep h h' []) : Ext h h' := ⟨K.1, fun x c q => K.2.1 x c q nin0⟩
theorem ext_keep0 {h h' : Heap} (E : Ext h h') (ws : List Addr) : Keep h h' ws := (Keep.refl h ws).ext E
/-- a place of an array -/
theorem in_of {n j : Int32} {c : Cell} (S : c.slots.size = n.toNatClampNeg) (hj : ¬ j < 0) (hj' : j < n) : ¬ (j < 0 ∨ c.slots.size ≤ j.toNatClampNeg) := inb_of S ⟨hj, hj'⟩
theorem g_arraylength {a : Addr} {k : ClassId} {ty : FieldType} {n : Int32} {vs : List Value} {dv : Value} (C : Cx p s m meth c Z own nm bytes maxL ret) (X : St p l e R s m A below meth c Z T h cells slots) (F : Arv Z h a k ty n vs dv) (d : Dc bytes pc .arraylength 1 pc') (K : Goes p e below W T (mkF m pc' Ls (.int n :: st))) : Goes p e below W T (mkF m pc Ls (.ref a :: st)) := by
  obtain ⟨d, rfl⟩ := d
  obtain ⟨L0, Y, eT, N, E⟩ := X
  obtain ⟨cl, Ar, -, hS, hN, -, -⟩ := F
  rw [← len_of hS hN] at K
  exact Goes.via (Y.arraylength C.hx (by rw [eT]; exact Ar.1) (State.isArrayOf_alike C.hZ.alike Ar.2.1) (g := mkF m pc Ls (.ref a :: st)) rfl rfl (hb C.hby d)) K
theorem g_iaload {a : Addr} {k : ClassId} {n j : Int32} {vs : List Value} {dv : Value} {v : Int32} (C : Cx p s m meth c Z own nm bytes maxL ret) (X : St p l e R s m A below meth c Z T h cells slots) (F : Arv Z h a k .int n vs dv) (d : Dc bytes pc .iaload 1 pc') (hj : ¬ j < 0) (hj' : j < n) (hv : vs.getD j.toNatClampNeg dv = .int v) (K : Goes p e below W T (mkF m pc' Ls (.int v :: st))) : Goes p e below W T (mkF m pc Ls (.int j :: .ref a :: st)) := by
  obtain ⟨d, rfl⟩ := d
  obtain ⟨L0, Y, eT, N, E⟩ := X
  obtain ⟨cl, Ar, -, hS, hN, hH, -⟩ := F
  have hin := in_of hS hj hj'
  exact Goes.via (Y.iaload C.hx (j := j) (v := .int v) (by rw [eT]; exact Ar.1) (State.isArrayOf_alike C.hZ.alike Ar.2.1) Ar.2.2 hin (hH.at hin hv) (g := mkF m pc Ls (.int j :: .ref a :: st)) rfl rfl (hb C.hby d)) K
theorem g_caload {a : Addr} {k : ClassId} {n j : Int32} {vs : List Value} {dv : Value} {v : Int32} (C : Cx p s m meth c Z own nm bytes maxL ret) (X : St p l e R s m A below meth c Z T h cells slots) (F : Arv Z h a k .char n vs dv) (d : Dc bytes pc .caload 1 pc') (hj : ¬ j < 0) (hj' : j < n) (hv : vs.getD j.toNatClampNeg dv = .int v) (K : Goes p e below W T (mkF m pc' Ls (.int v :: st))) : Goes p e below W T (mkF m pc Ls (.int j :: .ref a :: st)) := by
  obtain ⟨d, rfl⟩ := d
  obtain ⟨L0, Y, eT, N, E⟩ := X
  obtain ⟨cl, Ar, -, hS, hN, hH, -⟩ := F
  have hin := in_of hS hj hj'
  exact Goes.via (Y.caload C.hx (j := j) (v := .int v) (by rw [eT]; exact Ar.1) (State.isArrayOf_alike C.hZ.alike Ar.2.1) Ar.2.2 hin (hH.at hin hv) (g := mkF m pc Ls (.int j :: .ref a :: st)) rfl rfl (hb C.hby d)) K
theorem g_saload {a : Addr} {k : ClassId} {n j : Int32} {vs : List Value} {dv : Value} {v : Int32} (C : Cx p s m meth c Z own nm bytes maxL ret) (X : St p l e R s m A below meth c Z T h cells slots) (F : Arv Z h a k .short n vs dv) (d : Dc bytes pc .saload 1 pc') (hj : ¬ j < 0) (hj' : j < n) (hv : vs.getD j.toNatClampNeg dv = .int v) (K : Goes p e below W T (mkF m pc' Ls (.int v :: st))) : Goes p e below W T (mkF m pc Ls (.int j :: .ref a :: st)) := by
  obtain ⟨d, rfl⟩ := d
  obtain ⟨L0, Y, eT, N, E⟩ := X
  obtain ⟨cl, Ar, -, hS, hN, hH, -⟩ := F
  have hin := in_of hS hj hj'
  exact Goes.via (Y.saload C.hx (j := j) (v := .int v) (by rw [eT]; exact Ar.1) (State.isArrayOf_alike C.hZ.alike Ar.2.1) Ar.2.2 hin (hH.at hin hv) (g := mkF m pc Ls (.int j :: .ref a :: st)) rfl rfl (hb C.hby d)) K
theorem g_baload {a : Addr} {k : ClassId} {n j : Int32} {vs : List Value} {dv : Value} {v : Int32} (C : Cx p s m meth c Z own nm bytes maxL ret) (X : St p l e R s m A below meth c Z T h cells slots) (F : Arv Z h a k .byte n vs dv) (d : Dc bytes pc .baload 1 pc') (hj : ¬ j < 0) (hj' : j < n) (hv : vs.getD j.toNatClampNeg dv = .int v) (K : Goes p e below W T (mkF m pc' Ls (.int v :: st))) : Goes p e below W T (mkF m pc Ls (.int j :: .ref a :: st)) := by
  obtain ⟨d, rfl⟩ := d
  obtain ⟨L0, Y, eT, N, E⟩ := X
  obtain ⟨cl, Ar, -, hS, hN, hH, -⟩ := F
  have hin := in_of hS hj hj'
  exact Goes.via (Y.baloadBytes C.hx (j := j) (v := .int v) (by rw [eT]; exact Ar.1) (State.isArrayOf_alike C.hZ.alike Ar.2.1) Ar.2.2 hin (hH.at hin hv) (g := mkF m pc Ls (.int j :: .ref a :: st)) rfl rfl (hb C.hby d)) K
theorem g_laload {a : Addr} {k : ClassId} {n j : Int32} {vs : List Value} {dv : Value} {v : Int64} (C : Cx p s m meth c Z own nm bytes maxL ret) (X : St p l e R s m A below meth c Z T h cells slots) (F : Arv Z h a k .long n vs dv) (d : Dc bytes pc .laload 1 pc') (hj : ¬ j < 0) (hj' : j < n) (hv : vs.getD j.toNatClampNeg dv = .long v) (K : Goes p e below W T (mkF m pc' Ls (.long v :: st))) : Goes p e below W T (mkF m pc Ls (.int j :: .ref a :: st)) := by
  obtain ⟨d, rfl⟩ := d
  obtain ⟨L0, Y, eT, N, E⟩ := X
  obtain ⟨cl, Ar, -, hS, hN, hH, -⟩ := F
  have hin := in_of hS hj hj'
  exact Goes.via (Y.laload C.hx (j := j) (v := .long v) (by rw [eT]; exact Ar.1) (State.isArrayOf_alike C.hZ.alike Ar.2.1) Ar.2.2 hin (hH.at hin hv) (g := mkF m pc Ls (.int j :: .ref a :: st)) rfl rfl (hb C.hby d)) K
theorem g_aaload {a : Addr} {k : ClassId} {ty : FieldType} {n j : Int32} {vs : List Value} {dv v : Value} (C : Cx p s m meth c Z own nm bytes maxL ret) (X : St p l e R s m A below meth c Z T h cells slots) (F : Arv Z h a k ty n vs dv) (hty : ty.isReference = true) (d : Dc bytes pc .aaload 1 pc') (hj : ¬ j < 0) (hj' : j < n) (hv : vs.getD j.toNatClampNeg dv = v) (K : Goes p e below W T (mkF m pc' Ls (v :: st))) : Goes p e below W T (mkF m pc Ls (.int j :: .ref a :: st)) := by
  obtain ⟨d, rfl⟩ := d
  obtain ⟨L0, Y, eT, N, E⟩ := X
  obtain ⟨cl, Ar, -, hS, hN, hH, -⟩ := F
  have hin := in_of hS hj hj'
  exact Goes.via (Y.aaload C.hx (j := j) (v := v) (by rw [eT]; exact Ar.1) (State.isArrayOf_alike C.hZ.alike Ar.2.1) hty Ar.2.2 hin (hH.at hin hv) (g := mkF m pc Ls (.int j :: .ref a :: st)) rfl rfl (hb C.hby d)) K
theorem g_iastore {a : Addr} {k : ClassId} {n j : Int32} {vs : List Value} {dv : Value} {x : Int32} (C : Cx p s m meth c Z own nm bytes maxL ret) (X : St p l e R s m A below meth c Z T h cells slots) (F : Arv Z h a k .int n vs dv) (hnew : Z.heap.size ≤ a) (d : Dc bytes pc .iastore 1 pc') (hj : ¬ j < 0) (hj' : j < n) (hi : j.toNatClampNeg < vs.length) (y : Value) (hy : .int x = y)
    (K : ∀ T' h', St p l e R s m A below meth c Z T' h' cells slots → Wr h h' a j.toNatClampNeg y → Arv Z h' a k .int n (vs.set j.toNatClampNeg y) dv → Goes p e below W T' (mkF m pc' Ls st)) : Goes p e below W T (mkF m pc Ls (.int x :: .int j :: .ref a :: st)) := by
  subst hy
  obtain ⟨d, rfl⟩ := d
  obtain ⟨L0, Y, eT, N, E⟩ := X
  obtain ⟨cl, Ar, q1, hS, hN, hH, hG⟩ := F
  have hin := in_of hS hj hj'
  obtain ⟨T', h', Y', e', W', q⟩ := stI Y C.hx C.hZ eT Ar hin (g := mkF m pc Ls (.int x :: .int j :: .ref a :: st)) rfl rfl (hb C.hby d)
  exact Goes.via q (K T' h' ⟨_, Y', e', Fr.snoc Y' N hnew, ext_wr E W' hnew⟩ W' (Arv.set Ar q1 hS hN hH hG rfl W' _ rfl hi))
theorem g_castore {a : Addr} {k : ClassId} {n j : Int32} {vs : List Value} {dv : Value} {x : Int32} (C : Cx p s m meth c Z own nm bytes maxL ret) (X : St p l e R s m A below meth c Z T h cells slots) (F : Arv Z h a k .char n vs dv) (hnew : Z.heap.size ≤ a) (d : Dc bytes pc .castore 1 pc') (hj : ¬ j < 0) (hj' : j < n) (hi : j.toNatClampNeg < vs.length) (y : Value) (hy : .int (nar .char x) = y)
    (K : ∀ T' h', St p l e R s m A below meth c Z T' h' cells slots → Wr h h' a j.toNatClampNeg y → Arv Z h' a k .char n (vs.set j.toNatClampNeg y) dv → Goes p e below W T' (mkF m pc' Ls st)) : Goes p e below W T (mkF m pc Ls (.int x :: .int j :: .ref a :: st)) := by
  subst hy
  obtain ⟨d, rfl⟩ := d
  obtain ⟨L0, Y, eT, N, E⟩ := X
  obtain ⟨cl, Ar, q1, hS, hN, hH, hG⟩ := F
  have hin := in_of hS hj hj'
  obtain ⟨T', h', Y', e', W', q⟩ := stC Y C.hx C.hZ eT Ar hin (g := mkF m pc Ls (.int x :: .int j :: .ref a :: st)) rfl rfl (hb C.hby d)
  exact Goes.via q (K T' h' ⟨_, Y', e', Fr.snoc Y' N hnew, ext_wr E W' hnew⟩ W' (Arv.set Ar q1 hS hN hH hG (fits_nar_char _) W' _ rfl hi))
theorem g_sastore {a : Addr} {k : ClassId} {n j : Int32} {vs : List Value} {dv : Value} {x : Int32} (C : Cx p s m meth c Z own nm bytes maxL ret) (X : St p l e R s m A below meth c Z T h cells slots) (F : Arv Z h a k .short n vs dv) (hnew : Z.heap.size ≤ a) (d : Dc bytes pc .sastore 1 pc') (hj : ¬ j < 0) (hj' : j < n) (hi : j.toNatClampNeg < vs.length) (y : Value) (hy : .int (nar .short x) = y)
    (K : ∀ T' h', St p l e R s m A below meth c Z T' h' cells slots → Wr h h' a j.toNatClampNeg y → Arv Z h' a k .short n (vs.set j.toNatClampNeg y) dv → Goes p e below W T' (mkF m pc' Ls st)) : Goes p e below W T (mkF m pc Ls (.int x :: .int j :: .ref a :: st)) := by
  subst hy
  obtain ⟨d, rfl⟩ := d
  obtain ⟨L0, Y, eT, N, E⟩ := X
  obtain ⟨cl, Ar, q1, hS, hN, hH, hG⟩ := F
  have hin := in_of hS hj hj'
  obtain ⟨T', h', Y', e', W', q⟩ := stS Y C.hx C.hZ eT Ar hin (g := mkF m pc Ls (.int x :: .int j :: .ref a :: st)) rfl rfl (hb C.hby d)
  exact Goes.via q (K T' h' ⟨_, Y', e', Fr.snoc Y' N hnew, ext_wr E W' hnew⟩ W' (Arv.set Ar q1 hS hN hH hG (fits_nar_short _) W' _ rfl hi))
theorem g_bastore {a : Addr} {k : ClassId} {n j : Int32} {vs : List Value} {dv : Value} {x : Int32} (C : Cx p s m meth c Z own nm bytes maxL ret) (X : St p l e R s m A below meth c Z T h cells slots) (F : Arv Z h a k .byte n vs dv) (hnew : Z.heap.size ≤ a) (d : Dc bytes pc .bastore 1 pc') (hj : ¬ j < 0) (hj' : j < n) (hi : j.toNatClampNeg < vs.length) (y : Value) (hy : .int (nar .byte x) = y)
    (K : ∀ T' h', St p l e R s m A below meth c Z T' h' cells slots → Wr h h' a j.toNatClampNeg y → Arv Z h' a k .byte n (vs.set j.toNatClampNeg y) dv → Goes p e below W T' (mkF m pc' Ls st)) : Goes p e below W T (mkF m pc Ls (.int x :: .int j :: .ref a :: st)) := by
  subst hy
  obtain ⟨d, rfl⟩ := d
  obtain ⟨L0, Y, eT, N, E⟩ := X
  obtain ⟨cl, Ar, q1, hS, hN, hH, hG⟩ := F
  have hin := in_of hS hj hj'
  obtain ⟨T', h', Y', e', W', q⟩ := stB Y C.hx C.hZ eT Ar hin (g := mkF m pc Ls (.int x :: .int j :: .ref a :: st)) rfl rfl (hb C.hby d)
  exact Goes.via q (K T' h' ⟨_, Y', e', Fr.snoc Y' N hnew, ext_wr E W' hnew⟩ W' (Arv.set Ar q1 hS hN hH hG (fits_nar_byte _) W' _ rfl hi))
theorem g_lastore {a : Addr} {k : ClassId} {n j : Int32} {vs : List Value} {dv : Value} {x : Int64} (C : Cx p s m meth c Z own nm bytes maxL ret) (X : St p l e R s m A below meth c Z T h cells slots) (F : Arv Z h a k .long n vs dv) (hnew : Z.heap.size ≤ a) (d : Dc bytes pc .lastore 1 pc') (hj : ¬ j < 0) (hj' : j < n) (hi : j.toNatClampNeg < vs.length) (y : Value) (hy : .long x = y)
    (K : ∀ T' h', St p l e R s m A below meth c Z T' h' cells slots → Wr h h' a j.toNatClampNeg y → Arv Z h' a k .long n (vs.set j.toNatClampNeg y) dv → Goes p e below W T' (mkF m pc' Ls st)) : Goes p e below W T (mkF m pc Ls (.long x :: .int j :: .ref a :: st)) := by
  subst hy
  obtain ⟨d, rfl⟩ := d
  obtain ⟨L0, Y, eT, N, E⟩ := X
  obtain ⟨cl, Ar, q1, hS, hN, hH, hG⟩ := F
  have hin := in_of hS hj hj'
  obtain ⟨T', h', Y', e', W', q⟩ := stJ Y C.hx C.hZ eT Ar hin (g := mkF m pc Ls (.long x :: .int j :: .ref a :: st)) rfl rfl (hb C.hby d)
  exact Goes.via q (K T' h' ⟨_, Y', e', Fr.snoc Y' N hnew, ext_wr E W' hnew⟩ W' (Arv.set Ar q1 hS hN hH hG rfl W' _ rfl hi))
theorem st_back {T' : State} {h' : Heap} {k n : Nat} {B : Pt} {locs L : List Loc} (Y' : Stand p l e R s m A below meth c B.U B.locs B.cells B.slots) (hB : B.locs = locs ++ L ∧ B.cells = cells + k ∧ B.slots = slots + n) (N : Fr Z.heap.size locs) (N' : Fr Z.heap.size L) (E : Ext Z.heap B.U.heap) : St p l e R s m A below meth c Z B.U B.U.heap (cells + k) (slots + n) := by
  obtain ⟨b1, b2, b3⟩ := hB
  rw [b1, b2, b3] at Y'
  exact ⟨_, Y', rfl, N.app N', E⟩
theorem g_arraycopy {index : Nat} {a b : Addr} {k k' : ClassId} {ty : FieldType} {z z' sp dp nn : Int32} {vs vd : List Value} {dv dd : Value} (C : Cx p s m meth c Z own nm bytes maxL ret) (X : St p l e R s m A below meth c Z T h cells slots)
    (w1 : (Jvm.Cond.methodLink own index Jvm.Stand.acN).before a0 Z = true) (w2 : (Jvm.Cond.native Jvm.Stand.acN).before a0 Z = true) (w3 : (Jvm.Cond.static Jvm.Stand.acN).before a0 Z = true) (w4 : (Jvm.Cond.initialized "java/lang/System").before a0 Z = true)
    (F : Arv Z h a k ty z vs dv) (G : Arv Z h b k' ty z' vd dd) (hty : refKind ty = false) (h1 : ¬ sp < 0) (h2 : ¬ dp < 0) (h3 : ¬ nn < 0) (h4 : sp.toNatClampNeg + nn.toNatClampNeg ≤ z.toNatClampNeg) (h5 : dp.toNatClampNeg + nn.toNatClampNeg ≤ z'.toNatClampNeg)
    (us : List Value) (hus : us = (List.range nn.toNatClampNeg).map fun i => vs.getD (sp.toNatClampNeg + i) dv) (hl : dp.toNatClampNeg + nn.toNatClampNeg ≤ vd.length) (hnew : Z.heap.size ≤ b) (hsz : Ls.size = maxL) (d : Dc bytes pc (.invokestatic index) 3 pc') (hf : 1 ≤ R.frames) (W' : Nat) (hW : (st.map fun v => v.category).sum ≤ W') (hlo : W' + (nativeFrameWords "java/lang/System" "arraycopy" 5 + 11) ≤ R.locals)
    (K : ∀ T' h', St p l e R s m A below meth c Z T' h' cells slots → Keep h h' [b] → Arv Z h' b k' ty z' (vd.take dp.toNatClampNeg ++ us ++ vd.drop (dp.toNatClampNeg + nn.toNatClampNeg)) dd → Goes p e below W T' (mkF m pc' Ls st)) : Goes p e below W T (mkF m pc Ls (.int nn :: .int dp :: .ref b :: .int sp :: .ref a :: st)) := by
  obtain ⟨d, rfl⟩ := d
  obtain ⟨L0, Y, eT, N, E⟩ := X
  obtain ⟨T', h', L', Y', e', N', K', A', q⟩ := cpA Y C.hx C.hZ C.hown w1 w2 w3 w4 eT F G (Or.inl ⟨rfl, hty⟩) h1 h2 h3 h4 h5 hus hl N hnew (g := mkF m pc Ls (.int nn :: .int dp :: .ref b :: .int sp :: .ref a :: st)) rfl (hsz.trans C.hml.symm) rfl (hb C.hby d) hf (W := W') (by show 2 * 0 + _ ≤ _; omega) hlo
  exact Goes.via q (K T' h' ⟨L', Y', e', N', ext_keep E K' (allS hnew all0)⟩ K' A')
/-- a Back that serves a call: what a contract pays -/
def Pay (l : Launch) (R : Room) (p : Program) (e : Env) (below : List Frame) (s : State) (A : Array Value) (y : MethodName) (len W k n : Nat) (Z : State) (as' : Array Value) (h : Heap) (Q : Option Value → Heap → Prop) : Prop :=
  Back l R p e below s A y len W (fun P a => a = as' ∧ P.U.heap = h ∧ P.cells + k ≤ R.cells ∧ P.slots + n ≤ R.slots)
    (fun P _ v B => ∃ L, (Fr Z.heap.size L ∧ Ext Z.heap B.U.heap ∧ Q v B.U.heap) ∧ B.locs = P.locs ++ L ∧ B.cells = P.cells + k ∧ B.slots = P.slots + n)
theorem pay_of {y : MethodName} {bytes' : ByteArray} {maxL' len W' : Nat} {ret' : Option FieldType} {rm : Room} {as' : Array Value} {Q : Option Value → Heap → Prop} (hM : Con l y bytes' maxL' ret' [] rm Z as' h Q) (hZ : Z.Warmed39 s.vm) (wc : (Jvm.Cond.code y bytes' maxL' ret').before a0 Z = true) (wz : (Jvm.Cond.initialized y.cls).before a0 Z = true) (hf : rm.frames + 1 ≤ R.frames) (hl : W' + (maxL' + 11) + rm.locals ≤ R.locals) :
    Pay l R p e below s A y len W' rm.cells rm.slots Z as' h Q := backOf (Q := fun v h' L => Fr Z.heap.size L ∧ Ext Z.heap h' ∧ Q v h') hM hZ wc wz hf hl
theorem g_static {index k n : Nat} {y : MethodName} {bytes' : ByteArray} {maxL' W' : Nat} {ret' : Option FieldType} {argsL : List Value} {Q : Option Value → Heap → Prop} {ps : List FieldType} {rt : Option FieldType} (C : Cx p s m meth c Z own nm bytes maxL ret) (X : St p l e R s m A below meth c Z T h cells slots)
    (w1 : (Jvm.Cond.methodLink own index y).before a0 Z = true) (w2 : (Jvm.Cond.static y).before a0 Z = true) (w3 : (Jvm.Cond.initialized y.cls).before a0 Z = true) (w4 : (Jvm.Cond.code y bytes' maxL' ret').before a0 Z = true) (hy : y.cls ≠ "java/lang/invoke/MethodHandle" ∧ y.cls ≠ "java/lang/invoke/VarHandle")
    (hK : Pay l R p e below s A y 3 W' k n Z argsL.toArray h Q) (pd : parseMethodDescriptor y.desc = some ⟨ps, rt⟩) (hlen : argsL.length = ps.length) (hsz : Ls.size = maxL) (stk : List Value) (hst : stk = argsL.reverse ++ st) (hW : (st.map fun v => v.category).sum ≤ W') (d : Dc bytes pc (.invokestatic index) 3 pc') (hc : cells + k ≤ R.cells) (hs : slots + n ≤ R.slots)
    (K : ∀ T' h' v, Q v h' → St p l e R s m A below meth c Z T' h' (cells + k) (slots + n) → Goes p e below W T' (mkF m pc' Ls (v.toList ++ st))) : Goes p e below W T (mkF m pc Ls stk) := by
  obtain ⟨d, rfl⟩ := d
  obtain ⟨L0, Y, eT, N, E⟩ := X
  obtain ⟨v, vm₁, B, -, Y', ⟨L, ⟨N', E', hQ⟩, hB⟩, q⟩ := Jvm.LawKit.callS Y C.hx C.hown (mvT C.hZ w1) (mvT C.hZ w2) (mvT C.hZ w3) (mvT C.hZ w4) hy hK (g := mkF m pc Ls stk) rfl (hsz.trans C.hml.symm) (argsL := argsL) (rest := st) (lenOf pd hlen) hst (by show 2 * 0 + _ ≤ _; omega) (hb C.hby d) (fun _ _ => ⟨rfl, eT, hc, hs⟩)
  exact Goes.via q (K _ _ v hQ (st_back (T' := T) (h' := h) Y' hB N N' E'))
theorem g_special {index k n : Nat} {y : MethodName} {bytes' : ByteArray} {maxL' W' : Nat} {argsL : List Value} {Q : Option Value → Heap → Prop} {ps : List FieldType} {rt : Option FieldType} {a : Addr} (C : Cx p s m meth c Z own nm bytes maxL ret) (X : St p l e R s m A below meth c Z T h cells slots) (hi : y.name = "<init>")
    (w1 : (Jvm.Cond.methodLink own index y).before a0 Z = true) (w2 : (Jvm.Cond.instanceMethod y).before a0 Z = true) (w4 : (Jvm.Cond.code y bytes' maxL' none).before a0 Z = true) (hy : y.cls ≠ "java/lang/invoke/MethodHandle" ∧ y.cls ≠ "java/lang/invoke/VarHandle")
    (hK : Pay l R p e below s A y 3 W' k n Z (.ref a :: argsL).toArray h Q) (pd : parseMethodDescriptor y.desc = some ⟨ps, rt⟩) (hlen : argsL.length = ps.length) (hsz : Ls.size = maxL) (stk : List Value) (hst : stk = argsL.reverse ++ .ref a :: st) (hW : (st.map fun v => v.category).sum ≤ W') (d : Dc bytes pc (.invokespecial index) 3 pc') (hc : cells + k ≤ R.cells) (hs : slots + n ≤ R.slots)
    (K : ∀ T' h' v, Q v h' → St p l e R s m A below meth c Z T' h' (cells + k) (slots + n) → Goes p e below W T' (mkF m pc' Ls (v.toList ++ st))) : Goes p e below W T (mkF m pc Ls stk) := by
  obtain ⟨d, rfl⟩ := d
  obtain ⟨L0, Y, eT, N, E⟩ := X
  obtain ⟨v, vm₁, B, -, Y', ⟨L, ⟨N', E', hQ⟩, hB⟩, q⟩ := Y.specialBack C.hx (y := y) hi C.hown (mvT C.hZ w1) (mvT C.hZ w2) (mvT C.hZ w4) hy hK (g := mkF m pc Ls stk) rfl (hsz.trans C.hml.symm) (Steps.refl _) (a := a) (argsL := argsL) (rest := st) (lenOf pd hlen) hst (by show 2 * 0 + _ ≤ _; omega) (hb C.hby d) (fun _ _ => ⟨rfl, eT, hc, hs⟩)
  exact Goes.via (fun _ k => q.trans k) (K _ _ v hQ (st_back (T' := T) (h' := h) Y' hB N N' E'))
theorem g_virtual {index k n : Nat} {y z : MethodName} {K0 : String} {W' : Nat} {argsL : List Value} {Q : Option Value → Heap → Prop} {ps : List FieldType} {rt : Option FieldType} {a : Addr} (C : Cx p s m meth c Z own nm bytes maxL ret) (X : St p l e R s m A below meth c Z T h cells slots)
    (w1 : (Jvm.Cond.methodLink own index y).before a0 Z = true) (w2 : (Jvm.Cond.declares y).before a0 Z = true) (nf : NotFace s y) (w3 : (Jvm.Cond.selects K0 y z).before a0 Z = true) (w4 : (Jvm.Cond.instanceMethod z).before a0 Z = true) (hy : y.cls ≠ "java/lang/invoke/MethodHandle" ∧ y.cls ≠ "java/lang/invoke/VarHandle") (Ex : Exa Z h a K0)
    (hK : Pay l R p e below s A z 3 W' k n Z (.ref a :: argsL).toArray h Q) (pd : parseMethodDescriptor y.desc = some ⟨ps, rt⟩) (hlen : argsL.length = ps.length) (hsz : Ls.size = maxL) (stk : List Value) (hst : stk = argsL.reverse ++ .ref a :: st) (hW : (st.map fun v => v.category).sum ≤ W') (d : Dc bytes pc (.invokevirtual index) 3 pc') (hc : cells + k ≤ R.cells) (hs : slots + n ≤ R.slots)
    (K : ∀ T' h' v, Q v h' → St p l e R s m A below meth c Z T' h' (cells + k) (slots + n) → Goes p e below W T' (mkF m pc' Ls (v.toList ++ st))) : Goes p e below W T (mkF m pc Ls stk) := by
  obtain ⟨d, rfl⟩ := d
  obtain ⟨L0, Y, eT, N, E⟩ := X
  obtain ⟨cq, kq, qa, qb, qc⟩ := isOf C.hZ eT Ex
  obtain ⟨v, vm₁, B, -, Y', ⟨L, ⟨N', E', hQ⟩, hB⟩, q⟩ := Y.virtualBack C.hx (y := y) (z := z) C.hown (mvT C.hZ w1) (mvT C.hZ w2) nf (mvT C.hZ w3) (mvT C.hZ w4) hy hK qa qc (g := mkF m pc Ls stk) rfl (hsz.trans C.hml.symm) (Steps.refl _) (argsL := argsL) (rest := st) (lenOf pd hlen) hst (by show 2 * 0 + _ ≤ _; omega) (hb C.hby d) (fun _ _ => ⟨rfl, eT, hc, hs⟩)
  exact Goes.via (fun _ k => q.trans k) (K _ _ v hQ (st_back (T' := T) (h' := h) Y' hB N N' E'))
theorem nf_of {K0 : String} {y z : MethodName} (C : Cx p s m meth c Z own nm bytes maxL ret) (w3 : (Jvm.Cond.selects K0 y z).before a0 Z = true) (e : K0 = y.cls) (e' : z = y) : NotFace s y := by
  subst e e'; exact notFace_of_selects (args := #[]) (mvT C.hZ w3)
theorem g_interface {index count k n : Nat} {y z : MethodName} {K0 : String} {W' : Nat} {argsL : List Value} {Q : Option Value → Heap → Prop} {ps : List FieldType} {rt : Option FieldType} {a : Addr} (C : Cx p s m meth c Z own nm bytes maxL ret) (X : St p l e R s m A below meth c Z T h cells slots)
    (w1 : (Jvm.Cond.methodLink own index y).before a0 Z = true) (w2 : (Jvm.Cond.declares y).before a0 Z = true) (w5 : (Jvm.Cond.interfaceMethod y.cls y.cls y.name y.desc).before A s = true) (w3 : (Jvm.Cond.selects K0 y z).before a0 Z = true) (w4 : (Jvm.Cond.instanceMethod z).before a0 Z = true) (w6 : (Jvm.Cond.publicMethod z).before a0 Z = true) (w7 : (Jvm.Cond.unhidden K0 y.name y.desc).before A s = true) (w8 : (Jvm.Cond.castable K0 y.cls).before a0 Z = true)
    (hy : y.cls ≠ "java/lang/invoke/MethodHandle" ∧ y.cls ≠ "java/lang/invoke/VarHandle") (Ex : Exa Z h a K0)
    (hK : Pay l R p e below s A z 5 W' k n Z (.ref a :: argsL).toArray h Q) (pd : parseMethodDescriptor y.desc = some ⟨ps, rt⟩) (hlen : argsL.length = ps.length) (hsz : Ls.size = maxL) (stk : List Value) (hst : stk = argsL.reverse ++ .ref a :: st) (hW : (st.map fun v => v.category).sum ≤ W') (d : Dc bytes pc (.invokeinterface index count) 5 pc') (hc : cells + k ≤ R.cells) (hs : slots + n ≤ R.slots)
    (K : ∀ T' h' v, Q v h' → St p l e R s m A below meth c Z T' h' (cells + k) (slots + n) → Goes p e below W T' (mkF m pc' Ls (v.toList ++ st))) : Goes p e below W T (mkF m pc Ls stk) := by
  obtain ⟨d, rfl⟩ := d
  obtain ⟨L0, Y, eT, N, E⟩ := X
  obtain ⟨cq, kq, qa, qb, qc⟩ := isOf C.hZ eT Ex
  obtain ⟨v, vm₁, B, -, Y', ⟨L, ⟨N', E', hQ⟩, hB⟩, q⟩ := Y.interfaceBack C.hx (xi := y) (y := z) C.hown (mvT C.hZ w1) (mvT C.hZ w2) w5 (mvT C.hZ w3) (mvT C.hZ w4) (mvT C.hZ w6) w7 (mvT C.hZ w8) hy hK qa qb qc (g := mkF m pc Ls stk) rfl (hsz.trans C.hml.symm) (Steps.refl _) (argsL := argsL) (rest := st) (lenOf pd hlen) hst (by show 2 * 0 + _ ≤ _; omega) (hb C.hby d) (fun _ _ => ⟨rfl, eT, hc, hs⟩)
  exact Goes.via (fun _ k => q.trans k) (K _ _ v hQ (st_back (T' := T) (h' := h) Y' hB N N' E'))
theorem g_staticP {index : Nat} {y : MethodName} {bytes' : ByteArray} {maxL' W' : Nat} {ret' : Option FieldType} {argsL : List Value} {v : Value} {ps : List FieldType} {rt : Option FieldType} (C : Cx p s m meth c Z own nm bytes maxL ret) (X : St p l e R s m A below meth c Z T h cells slots)
    (w1 : (Jvm.Cond.methodLink own index y).before a0 Z = true) (w2 : (Jvm.Cond.static y).before a0 Z = true) (w3 : (Jvm.Cond.initialized y.cls).before a0 Z = true) (w4 : (Jvm.Cond.code y bytes' maxL' ret').before a0 Z = true) (hy : y.cls ≠ "java/lang/invoke/MethodHandle" ∧ y.cls ≠ "java/lang/invoke/VarHandle")
    (hK : Pay l R p e below s A y 3 W' 0 0 Z argsL.toArray h (fun v' h' => v' = some v ∧ h' = h)) (pd : parseMethodDescriptor y.desc = some ⟨ps, rt⟩) (hlen : argsL.length = ps.length) (hsz : Ls.size = maxL) (stk : List Value) (hst : stk = argsL.reverse ++ st) (hW : (st.map fun v => v.category).sum ≤ W') (d : Dc bytes pc (.invokestatic index) 3 pc') (hc : cells ≤ R.cells) (hs : slots ≤ R.slots)
    (K : ∀ T', St p l e R s m A below meth c Z T' h cells slots → Goes p e below W T' (mkF m pc' Ls (v :: st))) : Goes p e below W T (mkF m pc Ls stk) :=
  g_static C X w1 w2 w3 w4 hy hK pd hlen hsz stk hst hW d hc hs fun T' h' v' hQ X' => by obtain ⟨rfl, rfl⟩ := hQ; exact K T' X'
theorem g_specialP {index : Nat} {y : MethodName} {bytes' : ByteArray} {maxL' W' : Nat} {argsL : List Value} {ps : List FieldType} {rt : Option FieldType} {a : Addr} (C : Cx p s m meth c Z own nm bytes maxL ret) (X : St p l e R s m A below meth c Z T h cells slots) (hi : y.name = "<init>")
    (w1 : (Jvm.Cond.methodLink own index y).before a0 Z = true) (w2 : (Jvm.Cond.instanceMethod y).before a0 Z = true) (w4 : (Jvm.Cond.code y bytes' maxL' none).before a0 Z = true) (hy : y.cls ≠ "java/lang/invoke/MethodHandle" ∧ y.cls ≠ "java/lang/invoke/VarHandle")
    (hK : Pay l R p e below s A y 3 W' 0 0 Z (.ref a :: argsL).toArray h (fun v' h' => v' = none ∧ h' = h)) (pd : parseMethodDescriptor y.desc = some ⟨ps, rt⟩) (hlen : argsL.length = ps.length) (hsz : Ls.size = maxL) (stk : List Value) (hst : stk = argsL.reverse ++ .ref a :: st) (hW : (st.map fun v => v.category).sum ≤ W') (d : Dc bytes pc (.invokespecial index) 3 pc') (hc : cells ≤ R.cells) (hs : slots ≤ R.slots)
    (K : ∀ T', St p l e R s m A below meth c Z T' h cells slots → Goes p e below W T' (mkF m pc' Ls st)) : Goes p e below W T (mkF m pc Ls stk) :=
  g_special C X hi w1 w2 w4 hy hK pd hlen hsz stk hst hW d hc hs fun T' h' v' hQ X' => by obtain ⟨rfl, rfl⟩ := hQ; exact K T' X'
theorem g_virtualP {index : Nat} {y z : MethodName} {K0 : String} {W' : Nat} {argsL : List Value} {v : Value} {ps : List FieldType} {rt : Option FieldType} {a : Addr} (C : Cx p s m meth c Z own nm bytes maxL ret) (X : St p l e R s m A below meth c Z T h cells slots)
    (w1 : (Jvm.Cond.methodLink own index y).before a0 Z = true) (w2 : (Jvm.Cond.declares y).before a0 Z = true) (nf : NotFace s y) (w3 : (Jvm.Cond.selects K0 y z).before a0 Z = true) (w4 : (Jvm.Cond.instanceMethod z).before a0 Z = true) (hy : y.cls ≠ "java/lang/invoke/MethodHandle" ∧ y.cls ≠ "java/lang/invoke/VarHandle") (Ex : Exa Z h a K0)
    (hK : Pay l R p e below s A z 3 W' 0 0 Z (.ref a :: argsL).toArray h (fun v' h' => v' = some v ∧ h' = h)) (pd : parseMethodDescriptor y.desc = some ⟨ps, rt⟩) (hlen : argsL.length = ps.length) (hsz : Ls.size = maxL) (stk : List Value) (hst : stk = argsL.reverse ++ .ref a :: st) (hW : (st.map fun v => v.category).sum ≤ W') (d : Dc bytes pc (.invokevirtual index) 3 pc') (hc : cells ≤ R.cells) (hs : slots ≤ R.slots)
    (K : ∀ T', St p l e R s m A below meth c Z T' h cells slots → Goes p e below W T' (mkF m pc' Ls (v :: st))) : Goes p e below W T (mkF m pc Ls stk) :=
  g_virtual C X w1 w2 nf w3 w4 hy Ex hK pd hlen hsz stk hst hW d hc hs fun T' h' v' hQ X' => by obtain ⟨rfl, rfl⟩ := hQ; exact K T' X'
theorem g_interfaceP {index count : Nat} {y z : MethodName} {K0 : String} {W' : Nat} {argsL : List Value} {v : Value} {ps : List FieldType} {rt : Option FieldType} {a : Addr} (C : Cx p s m meth c Z own nm bytes maxL ret) (X : St p l e R s m A below meth c Z T h cells slots)
    (w1 : (Jvm.Cond.methodLink own index y).before a0 Z = true) (w2 : (Jvm.Cond.declares y).before a0 Z = true) (w5 : (Jvm.Cond.interfaceMethod y.cls y.cls y.name y.desc).before A s = true) (w3 : (Jvm.Cond.selects K0 y z).before a0 Z = true) (w4 : (Jvm.Cond.instanceMethod z).before a0 Z = true) (w6 : (Jvm.Cond.publicMethod z).before a0 Z = true) (w7 : (Jvm.Cond.unhidden K0 y.name y.desc).before A s = true) (w8 : (Jvm.Cond.castable K0 y.cls).before a0 Z = true)
    (hy : y.cls ≠ "java/lang/invoke/MethodHandle" ∧ y.cls ≠ "java/lang/invoke/VarHandle") (Ex : Exa Z h a K0)
    (hK : Pay l R p e below s A z 5 W' 0 0 Z (.ref a :: argsL).toArray h (fun v' h' => v' = some v ∧ h' = h)) (pd : parseMethodDescriptor y.desc = some ⟨ps, rt⟩) (hlen : argsL.length = ps.length) (hsz : Ls.size = maxL) (stk : List Value) (hst : stk = argsL.reverse ++ .ref a :: st) (hW : (st.map fun v => v.category).sum ≤ W') (d : Dc bytes pc (.invokeinterface index count) 5 pc') (hc : cells ≤ R.cells) (hs : slots ≤ R.slots)
    (K : ∀ T', St p l e R s m A below meth c Z T' h cells slots → Goes p e below W T' (mkF m pc' Ls (v :: st))) : Goes p e below W T (mkF m pc Ls stk) :=
  g_interface C X w1 w2 w5 w3 w4 w6 w7 w8 hy Ex hK pd hlen hsz stk hst hW d hc hs fun T' h' v' hQ X' => by obtain ⟨rfl, rfl⟩ := hQ; exact K T' X'
theorem g_initO {index : Nat} {a : Addr} (C : Cx p s m meth c Z own nm bytes maxL ret) (X : St p l e R s m A below meth c Z T h cells slots) (w1 : (Jvm.Cond.methodLink own index Lib.objectInit).before a0 Z = true) (w2 : (Jvm.Cond.instanceMethod Lib.objectInit).before a0 Z = true) (w3 : (Jvm.Cond.code Lib.objectInit ⟨#[0xb1]⟩ 1 none).before a0 Z = true) (hsz : Ls.size = maxL) (d : Dc bytes pc (.invokespecial index) 3 pc') (hf : 1 ≤ R.frames) (W' : Nat) (hW : (st.map fun v => v.category).sum ≤ W') (hl : W' + 12 ≤ R.locals)
    (K : ∀ T', St p l e R s m A below meth c Z T' h cells slots → Goes p e below W T' (mkF m pc' Ls st)) : Goes p e below W T (mkF m pc Ls (.ref a :: st)) := by
  obtain ⟨d, rfl⟩ := d
  obtain ⟨L0, Y, eT, N, E⟩ := X
  obtain ⟨T', Y', e', q⟩ := initO Y C.hx C.hZ C.hown w1 w2 w3 eT (g := mkF m pc Ls (.ref a :: st)) rfl (hsz.trans C.hml.symm) rfl (hb C.hby d) hf (W := W') (by show 2 * 0 + _ ≤ _; omega) hl
  exact Goes.via q (K T' ⟨L0, Y', e', N, E⟩)
theorem end_of {k n : Nat} {Q : Option Value → Heap → Prop} {v : Option Value} {L : List Loc} {fs : List Frame} (N : Fr Z.heap.size L) (E : Ext Z.heap T.heap) (hW : s.WarmedH (T.setFrames fs).vm) (hS : s.sameButNew ({ T.setFrames fs with vm := s.vm } : State) L cells slots) (hc : cells ≤ k) (hs : slots ≤ n) (hQ : Q v T.heap) : EndW Z s k n Q (.returned v) (T.setFrames fs) :=
  ⟨v, L, rfl, ⟨N, E, hQ⟩, ⟨_, rfl⟩, hW, hS.mono hc hs⟩
theorem g_retI {k n : Nat} {Q : Option Value → Heap → Prop} {z : Int32} (C : Cx p s m meth c Z own nm bytes maxL (some .int)) (X : St p l e R s m A below meth c Z T h cells slots) (d : Dc bytes pc .ireturn 1 pc') (hc : cells ≤ k) (hs : slots ≤ n) (hQ : Q (some (.int z)) h) : Goes p e below (EndW Z s k n Q) T (mkF m pc Ls (.int z :: st)) := by
  obtain ⟨L0, Y, rfl, N, E⟩ := X
  have hlk := C.hlk
  obtain ⟨fs, hr, hrun, hended, hW, hS⟩ := Y.leave (v := some (.int z)) (fun h => by rw [C.hret] at h; cases h) hlk
  exact ⟨_, _, retOut Y C.hx C.hret rfl (Or.inl ⟨rfl, Or.inl rfl, z, rfl⟩) (hb C.hby d.1) hr, hrun, hended, end_of N E hW hS hc hs hQ⟩
theorem g_retN {k n : Nat} {Q : Option Value → Heap → Prop} {z : Int32} {t : FieldType} (C : Cx p s m meth c Z own nm bytes maxL (some t)) (X : St p l e R s m A below meth c Z T h cells slots) (ht : t = .boolean ∨ t = .byte ∨ t = .char ∨ t = .short) (d : Dc bytes pc .ireturn 1 pc') (z' : Int32) (hz : nar t z = z') (hc : cells ≤ k) (hs : slots ≤ n) (hQ : Q (some (.int z')) h) : Goes p e below (EndW Z s k n Q) T (mkF m pc Ls (.int z :: st)) := by
  obtain ⟨L0, Y, rfl, N, E⟩ := X
  have hlk := C.hlk
  obtain ⟨fs, hr, hrun, hended, hW, hS⟩ := Y.leave (v := some (.int z')) (fun h => by rw [C.hret] at h; cases h) hlk
  rw [← hz] at hr
  exact ⟨_, _, retN Y C.hx C.hret ht (hb C.hby d.1) hr, hrun, hended, end_of N E hW hS hc hs hQ⟩
theorem g_retJ {k n : Nat} {Q : Option Value → Heap → Prop} {z : Int64} (C : Cx p s m meth c Z own nm bytes maxL (some .long)) (X : St p l e R s m A below meth c Z T h cells slots) (d : Dc bytes pc .lreturn 1 pc') (hc : cells ≤ k) (hs : slots ≤ n) (hQ : Q (some (.long z)) h) : Goes p e below (EndW Z s k n Q) T (mkF m pc Ls (.long z :: st)) := by
  obtain ⟨L0, Y, rfl, N, E⟩ := X
  have hlk := C.hlk
  obtain ⟨fs, hr, hrun, hended, hW, hS⟩ := Y.leave (v := some (.long z)) (fun h => by rw [C.hret] at h; cases h) hlk
  exact ⟨_, _, retOut Y C.hx C.hret rfl (Or.inr (Or.inl ⟨rfl, rfl, z, rfl⟩)) (hb C.hby d.1) hr, hrun, hended, end_of N E hW hS hc hs hQ⟩
theorem g_retA {k n : Nat} {Q : Option Value → Heap → Prop} {z : Value} {t : FieldType} (C : Cx p s m meth c Z own nm bytes maxL (some t)) (X : St p l e R s m A below meth c Z T h cells slots) (ht : t.isReference = true) (hz : z.isRef = true) (d : Dc bytes pc .areturn 1 pc') (hc : cells ≤ k) (hs : slots ≤ n) (hQ : Q (some z) h) : Goes p e below (EndW Z s k n Q) T (mkF m pc Ls (z :: st)) := by
  obtain ⟨L0, Y, rfl, N, E⟩ := X
  have hlk := C.hlk
  have hn : narrow t z = z := by cases t <;> first | rfl | (simp [FieldType.isReference] at ht; done) | (cases z <;> simp [Value.isRef] at hz <;> rfl)
  obtain ⟨fs, hr, hrun, hended, hW, hS⟩ := Y.leave (v := some z) (fun h => by rw [C.hret] at h; cases h) hlk
  exact ⟨_, _, retOut Y C.hx C.hret hn (Or.inr (Or.inr (Or.inr (Or.inr ⟨rfl, ht, hz⟩)))) (hb C.hby d.1) hr, hrun, hended, end_of N E hW hS hc hs hQ⟩
theorem g_retV {k n : Nat} {Q : Option Value → Heap → Prop} (C : Cx p s m meth c Z own nm bytes maxL none) (X : St p l e R s m A below meth c Z T h cells slots) (d : Dc bytes pc .return_ 1 pc') (hc : cells ≤ k) (hs : slots ≤ n) (hQ : Q none h) : Goes p e below (EndW Z s k n Q) T (mkF m pc Ls []) := by
  obtain ⟨L0, Y, rfl, N, E⟩ := X
  have hlk := C.hlk
  obtain ⟨fs, hr, hrun, hended, hW, hS⟩ := Y.leave (v := none) (fun _ => rfl) hlk
  exact ⟨_, _, Y.returnOut C.hx C.hret (hb C.hby d.1) hr, hrun, hended, end_of N E hW hS hc hs hQ⟩
end OwnKit
/-! from the case's words -/
theorem wd {a0 : Array Value} {Z : State} (hw : ∀ d ∈ tables_1, d.before a0 Z = true) (i : Nat) {d : Jvm.Cond} (h : tables_1[i]? = some d) : d.before a0 Z = true := hw d (List.mem_of_getElem? h)
theorem eqI_v {args : Array Value} {first s : State} {o : Option Outcome} {idx : List Nat} {t : Term} {k : Int32} (h : (Jvm.Cond.eq t (.int k)).value args first o s idx = some true) : t.eval args first o idx s = some (.int k) := by
  simp only [Cond.value, Term.eval] at h
  cases ht : t.eval args first o idx s with
  | none => simp [ht] at h
  | some x => cases x <;> simp [ht] at h ⊢; exact h
theorem eqJ_v {args : Array Value} {first s : State} {o : Option Outcome} {idx : List Nat} {t : Term} {k : Int64} (h : (Jvm.Cond.eq t (.long k)).value args first o s idx = some true) : t.eval args first o idx s = some (.long k) := by
  simp only [Cond.value, Term.eval] at h
  cases ht : t.eval args first o idx s with
  | none => simp [ht] at h
  | some x => cases x <;> simp [ht] at h ⊢; exact h
theorem eqR_v {args : Array Value} {first s : State} {o : Option Outcome} {idx : List Nat} {t u : Term} {a : Addr} (h : (Jvm.Cond.eq t u).value args first o s idx = some true) (hu : u.eval args first o idx s = some (.ref a)) : t.eval args first o idx s = some (.ref a) := by
  simp only [Cond.value, hu] at h
  cases ht : t.eval args first o idx s with
  | none => simp [ht] at h
  | some x => cases x <;> simp [ht] at h ⊢; exact h
theorem arr_start {args : Array Value} {Z : State} {t : Term} {a : Addr} {cl : Cell} {ty : FieldType} {n : Int32} {vs : List Value} (dv : Value) (hf : Fit Z) (A : Arr Z Z.heap a cl ty) (ev : t.eval args Z none [] Z = some (.ref a)) (hl : (Term.length t).eval args Z none [] Z = some (.int n)) (hn : ¬ n < 0) (hv : n.toNatClampNeg = vs.length)
    (H : HasL cl 0 vs) : Arv Z Z.heap a cl.cls ty n vs dv := by
  obtain ⟨a', c', e1, e2, e4⟩ := Term.length_spec hl
  cases ev.symm.trans e1
  cases A.1.symm.trans (State.arrayAt?_spec e2).1
  have e3 : cl.slots.size < 2 ^ 31 := by
    by_cases q : cl.slots.size < 2147483648
    · exact q
    · exfalso; simp [Term.eval, ev, e2, q] at hl
  exact Arv.start hf A e3 (Value.int.inj e4.symm) hn hv H
theorem elem_start {args : Array Value} {Z : State} {t : Term} {a : Addr} {cl : Cell} {ty : FieldType} {j : Int32} {v : Value} (A : Arr Z Z.heap a cl ty) (ev : t.eval args Z none [] Z = some (.ref a)) (h : (Term.elem t (.int j)).eval args Z none [] Z = some v) : cl.slots[j.toNatClampNeg]? = some v := (elem_in h ev (Term.int_eval j) A.1).2
theorem own_ch (x : Int32) : Value.int (nar .char ((x &&& (255 : Int32)).toUInt32.toUInt16.toUInt32.toInt32)) = .int (x &&& (255 : Int32)) := by
  show Value.int (((x &&& (255 : Int32)).toUInt32.toUInt16.toUInt32.toInt32).toUInt32.toUInt16.toUInt32.toInt32) = _
  rw [i2c_mask, i2c_mask]
theorem nz_v {args : Array Value} {Z : State} {t : Term} {z : Int32} (ev : t.eval args Z none [] Z = some (.int z)) (h : (Jvm.Cond.not (.eq t (.int 0))).value args Z none Z [] = some true) : ¬ z = 0 := by
  intro e; subst e
  have q := not_v h
  simp [Cond.value, ev, Term.eval] at q
theorem fld_of {args : Array Value} {Z : State} {t : Term} {a : Addr} {C n d : String} {v : Value} (ht : t.eval args Z none [] Z = some (.ref a)) (h : (Term.field t C n d).eval args Z none [] Z = some v) : Fld Z Z.heap a C n d v := Fld.start (by rw [← fld_at (args := args) (first := Z) (o := none) (idx := []) ht]; exact h)

section OwnLit
variable {p : Program} {l : Launch} {e : Env} {R : Room} {s : State} {m : MethodId} {A : Array Value} {below : List Frame} {meth : Method} {c : Code} {T : State} {cells slots : Nat} {Z : State} {a0 : Array Value} {h : Heap} {own nm : String} {bytes : ByteArray} {maxL : Nat} {ret : Option FieldType} {W : Outcome → State → Prop} {pc pc' tgt : Nat} {Ls : Array Slot} {st : List Value} {EL : List (String × Nat)} {vm0 : Vm}
/-- what is known of the String constants: from the body's start s to the tables and the heap at hand -/
def Lits (Z : State) (EL : List (String × Nat)) (s : State) (vm0 : Vm) (h : Heap) : Prop := (∃ k0, s.Since vm0 k0 ∧ k0 ≤ h.size) ∧ CHr Z EL s.vm s.heap vm0 h
theorem Lits.keep {h' : Heap} {ws : List Addr} (I : Lits Z EL s vm0 h) (K : Keep h h' ws) (hs : ∀ x ∈ ws, Safe Z EL vm0 h x) : Lits Z EL s vm0 h' := by
  obtain ⟨⟨k0, a, b⟩, c⟩ := I
  exact ⟨⟨k0, a, Nat.le_trans b K.1⟩, c.trans (CHr.keep K hs c.1)⟩
theorem Lits.safe {h' : Heap} {ws : List Addr} {x : Addr} (I : Lits Z EL s vm0 h) (K : Keep h h' ws) (hs : ∀ x ∈ ws, Safe Z EL vm0 h x) (S : Safe Z EL vm0 h x) : Safe Z EL vm0 h' x := Safe.keep K hs I.2.1 S
theorem g_ldcs {index : Nat} {text : String} {vs : List Value} {z : Int32} (n : Nat) (C : Cx p (s.setVm vm0) m meth c Z own nm bytes maxL ret) (X : St p l e R (s.setVm vm0) m A below meth c Z T h cells slots) (I : Lits Z EL s vm0 h) (wS : ∀ a ∈ Bundle.stringAtoms, a.before a0 Z = true) (hEL : EW Z a0 EL) (hmem : (own, index) ∈ EL) (w : (Jvm.Cond.stringLink own index text).before a0 Z = true)
    (ht : (∀ c ∈ text.toList, c.toNat < 256) ∧ text.toList.map (fun c => Value.int (Jvm.Lit.byteI c.toNat.toUInt16)) = vs) (hz : ¬ z < 0) (hl : z.toNatClampNeg = vs.length) (hn : 4 * text.toList.length ≤ n) (hbig : n ≤ 536870912) (d : Dc bytes pc (.ldc index) 2 pc') (hc : cells + 2 ≤ R.cells) (hs : slots + (n + 4) ≤ R.slots)
    (K : ∀ a T' h' b k, Cx p (s.setVm T'.vm) m meth c Z own nm bytes maxL ret → St p l e R (s.setVm T'.vm) m A below meth c Z T' h' (cells + 2) (slots + (n + 4)) → Lits Z EL s T'.vm h' → CHr Z EL vm0 h T'.vm h' → Ext h h' → Exa Z h' a "java/lang/String" → Fld Z h' a "java/lang/String" "coder" "B" (.int 0) → Fld Z h' a "java/lang/String" "value" "[B" (.ref b) → Arv Z h' b k .byte z vs (.int 0) → (∀ x, Safe Z EL T'.vm h' x → x ≠ a ∧ x ≠ b) → Goes p e below W T' (mkF m pc' Ls (.ref a :: st))) : Goes p e below W T (mkF m pc Ls st) := by
  obtain ⟨d, rfl⟩ := d
  obtain ⟨L0, Y, eT, N, E⟩ := X
  obtain ⟨⟨k0, hS, hk⟩, hC⟩ := I
  obtain ⟨a, T', h', k1, b, k, Y', e', E', hS', hk', hZ', ho', r1, r2, r3, r4, -, -, hR, -, hne, q⟩ := ldcCH Y C.hx C.hZ C.hown w wS eT hS hk hEL hmem hC.1 ht hz hl (g := mkF m pc Ls st) rfl (hb C.hby d) hn hbig hc hs
  exact Goes.via q (K a T' h' b k ⟨C.1, hZ', ho', C.2.2.2⟩ ⟨L0, Y', e', N, ext_trans E E'⟩ ⟨⟨k1, hS', hk'⟩, hC.trans hR⟩ hR E' r1 r2 r3 r4 hne)
/-- the end of a body that may load String constants -/
def EndL (Z : State) (EL : List (String × Nat)) (s : State) (k n : Nat) (Q : Option Value → Heap → Prop) (o : Outcome) (u : State) : Prop :=
  ∃ v L, o = .returned v ∧ (Fr Z.heap.size L ∧ Ext Z.heap u.heap ∧ Q v u.heap) ∧ CHr Z EL s.vm s.heap u.vm u.heap ∧ ReturnedEndW s o u L k n
theorem goes_L {k n : Nat} {Q : Option Value → Heap → Prop} {g : JFrame} (I : Lits Z EL s vm0 h) (hEL : EW Z a0 EL) (hZ : Z.Warmed39 vm0) (G : Goes p e below (EndW Z (s.setVm vm0) k n (fun v h' => Q v h' ∧ h' = h)) T g) : Goes p e below (EndL Z EL s k n Q) T g := by
  obtain ⟨s₂, o, g1, g2, g3, v, L, rfl, ⟨N, E, hQ, hh⟩, hv, hW, hs⟩ := G
  obtain ⟨⟨k0, hS, hk⟩, hC⟩ := I
  obtain ⟨a, b, c'⟩ := hS.ended (U := s₂) hW (by rw [hh]; exact hk) hs
  refine ⟨s₂, _, g1, g2, g3, v, L, rfl, ⟨N, E, hQ⟩, ?_, ⟨v, rfl⟩, a, b, c'⟩
  have q := CHv.later (h' := h) hZ (hW := (show (Wst Z vm0 h).Warmed39 s₂.vm from hW.wide)) hEL ⟨Nat.le_refl _, fun _ _ q => q⟩ (Or.inl hW.interned_eq) hC.1
  rw [hh]; exact hC.trans ⟨q.1, Nat.le_refl _, q.2⟩
def ConL (l : Launch) (y : MethodName) (bytes : ByteArray) (maxL : Nat) (ret : Option FieldType) (ws : List Jvm.Cond) (rm : Room) (Z : State) (EL : List (String × Nat)) (sf : List Addr) (A : Array Value) (h0 : Heap) (Q : Option Value → Heap → Prop) : Prop :=
  MetFree l y (head1 (Jvm.Cond.code y bytes maxL ret :: ws) rm) (fun a U => a = A ∧ Z.Warmed39 U.vm ∧ U.heap = h0 ∧ CHv Z EL U.vm h0 ∧ ∀ x ∈ sf, Safe Z EL U.vm h0 x) (fun _ _ _ _ _ => True) (fun _ U o U' => EndL Z EL U rm.cells rm.slots Q o U')
theorem con_ofL {y : MethodName} {ws : List Jvm.Cond} {rm : Room} {h0 : Heap} {Q : Option Value → Heap → Prop} {Ls : Array Slot} {sf : List Addr} (hp : plainFor y = true) (hE : Ext Z.heap h0) (hef : ∀ m, entryFrame m A maxL = mkF m 0 Ls [])
    (body : ∀ p e s m below meth c s₁, Cx p (s.setVm s.vm) m meth c Z y.cls y.name bytes maxL ret → St p l e rm (s.setVm s.vm) m A below meth c Z s₁ h0 0 0 → Lits Z EL s s.vm h0 → (∀ x ∈ sf, Safe Z EL s.vm h0 x) → Goes p e below (EndL Z EL s rm.cells rm.slots Q) s₁ (mkF m 0 Ls [])) :
    ConL l y bytes maxL ret ws rm Z EL sf A h0 Q := by
  refine MetFree.of_bodySF hp hisR ?_
  intro p e s m args below meth c s₁ Bd hml0 hP hK
  obtain ⟨rfl, hZ, hh, hV, hsf⟩ := hP
  have X0 := Stand.of_body Bd
  have e0 : s₁.heap = h0 := by rw [← hh, Bd.state]; rfl
  have := body p e s m below meth c s₁ ⟨Bd.exec, hZ, findClass_of_methodNamed Bd.named, Bd.bytes, hml0, Bd.returns, Bd.notSynchronized, (name_of_methodNamed Bd.named Bd.method).1⟩ ⟨[], X0, e0, Fr.nil _, hE⟩ ⟨⟨0, (State.WarmedH.refl s).since 0, Nat.zero_le _⟩, by rw [hh]; exact CHr.refl hV⟩ hsf
  rw [← hef m] at this
  exact this
def PayL (l : Launch) (R : Room) (p : Program) (e : Env) (below : List Frame) (s : State) (vm0 : Vm) (A : Array Value) (y : MethodName) (len W k n : Nat) (Z : State) (EL : List (String × Nat)) (as' : Array Value) (h : Heap) (Q : Option Value → Heap → Prop) : Prop :=
  BackS l R p e below (s.setVm vm0) A y len W (fun P a => a = as' ∧ P.U.heap = h ∧ P.cells + k ≤ R.cells ∧ P.slots + n ≤ R.slots)
    (fun P _ v B => ∃ L, (Fr Z.heap.size L ∧ Ext Z.heap B.U.heap ∧ Q v B.U.heap) ∧ (B.locs = P.locs ++ L ∧ B.cells = P.cells + k ∧ B.slots = P.slots + n) ∧ CHr Z EL vm0 h B.U.vm B.U.heap)
theorem payL_of {y : MethodName} {bytes' : ByteArray} {maxL' len W' : Nat} {ret' : Option FieldType} {rm : Room} {sf : List Addr} {as' : Array Value} {Q : Option Value → Heap → Prop} (hM : ConL l y bytes' maxL' ret' [] rm Z EL sf as' h Q) (hZ : Z.Warmed39 vm0) (wc : (Jvm.Cond.code y bytes' maxL' ret').before a0 Z = true) (wz : (Jvm.Cond.initialized y.cls).before a0 Z = true) (hf : rm.frames + 1 ≤ R.frames) (hl : W' + (maxL' + 11) + rm.locals ≤ R.locals) (hEL : EW Z a0 EL) (I : Lits Z EL s vm0 h) (hsf : ∀ x ∈ sf, x < h.size ∧ Safe Z EL vm0 h x) :
    PayL l R p e below s vm0 A y len W' rm.cells rm.slots Z EL as' h Q :=
  BackS.of_freeW (bytes := bytes') (maxL := maxL') (ret := ret') (E := fun _ first o t L k n => k = rm.cells ∧ n = rm.slots ∧ (∃ v, o = .returned v ∧ Fr Z.heap.size L ∧ Ext Z.heap t.heap ∧ Q v t.heap) ∧ CHr Z EL first.vm first.heap t.vm t.heap) hM hf hl
    (fun m meth c A a Y hp => have hU : Z.Warmed39 A.U.vm := wtrans (s := s.setVm vm0) hZ Y.warmed
      ⟨by show (Jvm.Cond.and _ .tt).before a A.U = true; rw [Jvm.Cond.before_and, mv hU wc]; rfl, mv hU wc, mv hU wz, hp.2.2.1, hp.2.2.2⟩)
    (fun m meth c A a g mk Y hp => ⟨hp.1, wtrans (s := s.setVm vm0) hZ Y.warmed, hp.2.1, (CHv.at Y hZ hEL I.2.1).1, fun x hx => (CHv.at Y hZ hEL I.2.1).safe (hsf x hx).1 (hsf x hx).2⟩) (fun _ _ _ _ _ _ _ _ _ => trivial)
    (fun _ _ _ _ ⟨v, L, h1, h2, h3, h4⟩ => ⟨L, _, _, h4, rfl, rfl, ⟨v, h1, h2⟩, h3⟩)
    (fun m meth c A a g mk v t L k n Y hp _ _ ⟨e1, e2, ⟨v', e3, e4⟩, e5⟩ => by
      cases e3; subst e1 e2
      refine ⟨L, e4, ⟨rfl, rfl, rfl⟩, (CHv.at Y hZ hEL I.2.1).trans ?_⟩
      rw [← hp.2.1]; exact e5)
theorem g_staticL {index k n : Nat} {y : MethodName} {bytes' : ByteArray} {maxL' W' : Nat} {ret' : Option FieldType} {argsL : List Value} {Q : Option Value → Heap → Prop} {ps : List FieldType} {rt : Option FieldType} (C : Cx p (s.setVm vm0) m meth c Z own nm bytes maxL ret) (X : St p l e R (s.setVm vm0) m A below meth c Z T h cells slots) (I : Lits Z EL s vm0 h)
    (w1 : (Jvm.Cond.methodLink own index y).before a0 Z = true) (w2 : (Jvm.Cond.static y).before a0 Z = true) (w3 : (Jvm.Cond.initialized y.cls).before a0 Z = true) (w4 : (Jvm.Cond.code y bytes' maxL' ret').before a0 Z = true) (hy : y.cls ≠ "java/lang/invoke/MethodHandle" ∧ y.cls ≠ "java/lang/invoke/VarHandle")
    (hK : PayL l R p e below s vm0 A y 3 W' k n Z EL argsL.toArray h Q) (pd : parseMethodDescriptor y.desc = some ⟨ps, rt⟩) (hlen : argsL.length = ps.length) (hsz : Ls.size = maxL) (stk : List Value) (hst : stk = argsL.reverse ++ st) (hW : (st.map fun v => v.category).sum ≤ W') (d : Dc bytes pc (.invokestatic index) 3 pc') (hc : cells + k ≤ R.cells) (hs : slots + n ≤ R.slots)
    (K : ∀ T' h' v, Q v h' → Cx p (s.setVm T'.vm) m meth c Z own nm bytes maxL ret → St p l e R (s.setVm T'.vm) m A below meth c Z T' h' (cells + k) (slots + n) → Lits Z EL s T'.vm h' → CHr Z EL vm0 h T'.vm h' → Goes p e below W T' (mkF m pc' Ls (v.toList ++ st))) : Goes p e below W T (mkF m pc Ls stk) := by
  obtain ⟨d, rfl⟩ := d
  obtain ⟨L0, Y, eT, N, E⟩ := X
  obtain ⟨⟨k0, hS, hk⟩, hC⟩ := I
  obtain ⟨v, vm₁, B, -, Y', hS', hg', ⟨L, ⟨N', E', hQ⟩, ⟨b1, b2, b3⟩, hR⟩, q⟩ := callSS Y C.hx C.hown (mvT C.hZ w1) (mvT C.hZ w2) (mvT C.hZ w3) (mvT C.hZ w4) hy hK (g := mkF m pc Ls stk) rfl (hsz.trans C.hml.symm) (argsL := argsL) (rest := st) (lenOf pd hlen) hst (by show 2 * 0 + _ ≤ _; omega) (hb C.hby d) (fun _ _ => ⟨rfl, eT, hc, hs⟩)
  have q1 : B.locs = L0 ++ L := b1
  have q2 : B.cells = cells + k := b2
  have q3 : B.slots = slots + n := b3
  rw [q1, q2, q3] at Y'
  subst eT
  exact Goes.via (fun _ k => q.trans k) (K B.U B.U.heap v hQ ⟨C.1, State.Warmed39.trans (t := s.setVm vm0) C.hZ hS'.1, by rw [show (s.setVm B.U.vm).vm = B.U.vm from rfl, hS'.1.alike.findClass]; exact C.hown, C.2.2.2⟩ ⟨_, Y', rfl, N.app N', E'⟩ ⟨⟨_, hS.trans hS' (Nat.le_trans hk hg'), Nat.le_refl _⟩, hC.trans hR⟩ hR)
theorem g_specialL {index k n : Nat} {y : MethodName} {bytes' : ByteArray} {maxL' W' : Nat} {argsL : List Value} {Q : Option Value → Heap → Prop} {ps : List FieldType} {rt : Option FieldType} {a : Addr} (C : Cx p (s.setVm vm0) m meth c Z own nm bytes maxL ret) (X : St p l e R (s.setVm vm0) m A below meth c Z T h cells slots) (I : Lits Z EL s vm0 h) (hi : y.name = "<init>")
    (w1 : (Jvm.Cond.methodLink own index y).before a0 Z = true) (w2 : (Jvm.Cond.instanceMethod y).before a0 Z = true) (w4 : (Jvm.Cond.code y bytes' maxL' none).before a0 Z = true) (hy : y.cls ≠ "java/lang/invoke/MethodHandle" ∧ y.cls ≠ "java/lang/invoke/VarHandle")
    (hK : PayL l R p e below s vm0 A y 3 W' k n Z EL (.ref a :: argsL).toArray h Q) (pd : parseMethodDescriptor y.desc = some ⟨ps, rt⟩) (hlen : argsL.length = ps.length) (hsz : Ls.size = maxL) (stk : List Value) (hst : stk = argsL.reverse ++ .ref a :: st) (hW : (st.map fun v => v.category).sum ≤ W') (d : Dc bytes pc (.invokespecial index) 3 pc') (hc : cells + k ≤ R.cells) (hs : slots + n ≤ R.slots)
    (K : ∀ T' h' v, Q v h' → Cx p (s.setVm T'.vm) m meth c Z own nm bytes maxL ret → St p l e R (s.setVm T'.vm) m A below meth c Z T' h' (cells + k) (slots + n) → Lits Z EL s T'.vm h' → CHr Z EL vm0 h T'.vm h' → Goes p e below W T' (mkF m pc' Ls (v.toList ++ st))) : Goes p e below W T (mkF m pc Ls stk) := by
  obtain ⟨d, rfl⟩ := d
  obtain ⟨L0, Y, eT, N, E⟩ := X
  obtain ⟨⟨k0, hS, hk⟩, hC⟩ := I
  obtain ⟨v, vm₁, B, -, Y', hS', hg', ⟨L, ⟨N', E', hQ⟩, ⟨b1, b2, b3⟩, hR⟩, q⟩ := Y.specialBackS C.hx (y := y) hi C.hown (mvT C.hZ w1) (mvT C.hZ w2) (mvT C.hZ w4) hy hK (g := mkF m pc Ls stk) rfl (hsz.trans C.hml.symm) (Steps.refl _) (a := a) (argsL := argsL) (rest := st) (lenOf pd hlen) hst (by show 2 * 0 + _ ≤ _; omega) (hb C.hby d) (fun _ _ => ⟨rfl, eT, hc, hs⟩)
  have q1 : B.locs = L0 ++ L := b1
  have q2 : B.cells = cells + k := b2
  have q3 : B.slots = slots + n := b3
  rw [q1, q2, q3] at Y'
  subst eT
  exact Goes.via (fun _ k => q.trans k) (K B.U B.U.heap v hQ ⟨C.1, State.Warmed39.trans (t := s.setVm vm0) C.hZ hS'.1, by rw [show (s.setVm B.U.vm).vm = B.U.vm from rfl, hS'.1.alike.findClass]; exact C.hown, C.2.2.2⟩ ⟨_, Y', rfl, N.app N', E'⟩ ⟨⟨_, hS.trans hS' (Nat.le_trans hk hg'), Nat.le_refl _⟩, hC.trans hR⟩ hR)
end OwnLit
section OwnClone
variable {p : Program} {l : Launch} {e : Env} {R : Room} {s : State} {m : MethodId} {A : Array Value} {below : List Frame} {meth : Method} {c : Code} {T : State} {cells slots : Nat} {Z : State} {a0 : Array Value} {h : Heap} {own nm : String} {bytes : ByteArray} {maxL : Nat} {ret : Option FieldType} {W : Outcome → State → Prop} {pc pc' tgt : Nat} {Ls : Array Slot} {st : List Value} {EL : List (String × Nat)} {vm0 : Vm}
theorem g_clone {ad : String} {index cap : Nat} {a : Addr} {k : ClassId} {ty : FieldType} {z : Int32} {vs : List Value} {dv : Value} (C : Cx p s m meth c Z own nm bytes maxL ret) (X : St p l e R s m A below meth c Z T h cells slots)
    (w1 : (Jvm.Cond.methodLink own index ⟨ad, "clone", "()Ljava/lang/Object;"⟩).before a0 Z = true) (w2 : (Jvm.Cond.sameMethod ad "java/lang/Object" "clone" "()Ljava/lang/Object;").before a0 Z = true) (w3 : (Jvm.Cond.native ⟨"java/lang/Object", "clone", "()Ljava/lang/Object;"⟩).before a0 Z = true)
    (w4 : (Jvm.Cond.instanceMethod ⟨"java/lang/Object", "clone", "()Ljava/lang/Object;"⟩).before a0 Z = true) (w5 : (Jvm.Cond.selects ad ⟨ad, "clone", "()Ljava/lang/Object;"⟩ ⟨"java/lang/Object", "clone", "()Ljava/lang/Object;"⟩).before a0 Z = true) (w6 : (Jvm.Cond.castable ad "java/lang/Cloneable").before a0 Z = true)
    (F : Arv Z h a k ty z vs dv) (E0 : Exa Z h a ad) (hsz : Ls.size = maxL) (d : Dc bytes pc (.invokevirtual index) 3 pc') (hf : 1 ≤ R.frames) (W' : Nat) (hW : (st.map fun v => v.category).sum ≤ W') (hl : W' + 14 ≤ R.locals) (hcap : z.toNatClampNeg ≤ cap) (hc : cells + 1 ≤ R.cells) (hs : slots + cap ≤ R.slots)
    (K : ∀ T' h' b, b = h.size → Z.heap.size ≤ b → St p l e R s m A below meth c Z T' h' (cells + 1) (slots + cap) → Ext h h' → Arv Z h' b k ty z vs dv → Exa Z h' b ad → Goes p e below W T' (mkF m pc' Ls (.ref b :: st))) : Goes p e below W T (mkF m pc Ls (.ref a :: st)) := by
  obtain ⟨d, rfl⟩ := d
  obtain ⟨L0, Y, eT, N, E⟩ := X
  obtain ⟨cl, Ar, q1, S, q3, H, G⟩ := F
  have FC : FitC Z cl := fitC_of Ar fun i hi v hv => by rw [H i hi] at hv; cases hv; exact G i hi
  obtain ⟨T', h', Y', e', ex, A', E', q⟩ := cloneA Y C.hx C.hZ C.hown w1 w2 w3 w4 w5 w6 eT Ar E0 FC (g := mkF m pc Ls (.ref a :: st)) rfl (hsz.trans C.hml.symm) rfl (hb C.hby d) hf (W := W') (by show 2 * 0 + _ ≤ _; omega) hl (by rw [S]; exact hcap) hc hs
  exact Goes.via q (K T' h' h.size rfl E.1 ⟨L0, Y', e', N, ext_trans E ex⟩ ex ⟨cloneOf cl, A', q1, S, q3, H, G⟩ E')
theorem g_staticPV {index : Nat} {y : MethodName} {bytes' : ByteArray} {maxL' W' : Nat} {ret' : Option FieldType} {argsL : List Value} {ps : List FieldType} {rt : Option FieldType} (C : Cx p s m meth c Z own nm bytes maxL ret) (X : St p l e R s m A below meth c Z T h cells slots)
    (w1 : (Jvm.Cond.methodLink own index y).before a0 Z = true) (w2 : (Jvm.Cond.static y).before a0 Z = true) (w3 : (Jvm.Cond.initialized y.cls).before a0 Z = true) (w4 : (Jvm.Cond.code y bytes' maxL' ret').before a0 Z = true) (hy : y.cls ≠ "java/lang/invoke/MethodHandle" ∧ y.cls ≠ "java/lang/invoke/VarHandle")
    (hK : Pay l R p e below s A y 3 W' 0 0 Z argsL.toArray h (fun v' h' => v' = none ∧ h' = h)) (pd : parseMethodDescriptor y.desc = some ⟨ps, rt⟩) (hlen : argsL.length = ps.length) (hsz : Ls.size = maxL) (stk : List Value) (hst : stk = argsL.reverse ++ st) (hW : (st.map fun v => v.category).sum ≤ W') (d : Dc bytes pc (.invokestatic index) 3 pc') (hc : cells ≤ R.cells) (hs : slots ≤ R.slots)
    (K : ∀ T', St p l e R s m A below meth c Z T' h cells slots → Goes p e below W T' (mkF m pc' Ls st)) : Goes p e below W T (mkF m pc Ls stk) :=
  g_static C X w1 w2 w3 w4 hy hK pd hlen hsz stk hst hW d hc hs fun T' h' v' hQ X' => by obtain ⟨rfl, rfl⟩ := hQ; exact K T' X'
theorem sel_private {y : MethodName} {K0 : String} {n : Nat} (hZ : Z.Warmed39 s.vm) (wi : (Jvm.Cond.instantiable K0 n).before a0 Z = true) (hK : K0 = y.cls) (wp : (Jvm.Cond.privateMethod y).before a0 Z = true) (w2 : (Jvm.Cond.instanceMethod y).before a0 Z = true) (hy : y.cls ≠ "java/lang/invoke/MethodHandle" ∧ y.cls ≠ "java/lang/invoke/VarHandle") : (Jvm.Cond.selects y.cls y y).before A s = true := by
  subst hK
  have w' : (Jvm.Cond.instantiable y.cls n).before A s = true := mvT hZ wi
  obtain ⟨c, k, h1, h2, -, h3, -⟩ := Cond.instantiable_spec w'
  have h4 : k.isInterface = false := by
    cases q : k.isInterface
    · rfl
    · rw [q] at h3; exact absurd h3 (by simp)
  exact selects_self_of_private h1 h2 h4 (Cond.privateMethod_at (args := A) (mvP hZ wp)) (mvT hZ w2) hy
theorem g_private {index k n : Nat} {y : MethodName} {bytes' : ByteArray} {maxL' W' : Nat} {ret' : Option FieldType} {argsL : List Value} {Q : Option Value → Heap → Prop} {ps : List FieldType} {rt : Option FieldType} {a : Addr} (C : Cx p s m meth c Z own nm bytes maxL ret) (X : St p l e R s m A below meth c Z T h cells slots)
    (w1 : (Jvm.Cond.methodLink own index y).before a0 Z = true) (w2 : (Jvm.Cond.instanceMethod y).before a0 Z = true) (hsel : (Jvm.Cond.selects y.cls y y).before A s = true) (wp : (Jvm.Cond.privateMethod y).before a0 Z = true) (w4 : (Jvm.Cond.code y bytes' maxL' ret').before a0 Z = true) (hy : y.cls ≠ "java/lang/invoke/MethodHandle" ∧ y.cls ≠ "java/lang/invoke/VarHandle") (Ex : Exa Z h a y.cls)
    (hK : Pay l R p e below s A y 3 W' k n Z (.ref a :: argsL).toArray h Q) (pd : parseMethodDescriptor y.desc = some ⟨ps, rt⟩) (hlen : argsL.length = ps.length) (hsz : Ls.size = maxL) (stk : List Value) (hst : stk = argsL.reverse ++ .ref a :: st) (hW : (st.map fun v => v.category).sum ≤ W') (d : Dc bytes pc (.invokevirtual index) 3 pc') (hc : cells + k ≤ R.cells) (hs : slots + n ≤ R.slots)
    (K : ∀ T' h' v, Q v h' → St p l e R s m A below meth c Z T' h' (cells + k) (slots + n) → Goes p e below W T' (mkF m pc' Ls (v.toList ++ st))) : Goes p e below W T (mkF m pc Ls stk) := by
  obtain ⟨d, rfl⟩ := d
  obtain ⟨L0, Y, eT, N, E⟩ := X
  obtain ⟨cell, kk, q1, -, -, q4, -⟩ := Ex
  obtain ⟨v, vm₁, B, -, Y', ⟨L, ⟨N', E', hQ⟩, hB⟩, q⟩ := Y.privateBack C.hx C.hown (mvT C.hZ w1) (mvT C.hZ w2) hsel (Cond.privateMethod_at (args := A) (mvP C.hZ wp)) (mvT C.hZ w4) hy hK (g := mkF m pc Ls stk) rfl (hsz.trans C.hml.symm) (Steps.refl _) (a := a) (cell := cell) (by rw [eT]; exact q1) (fun z hz => by rw [hz] at q4; cases q4) (argsL := argsL) (rest := st) (lenOf pd hlen) hst (by show 2 * 0 + _ ≤ _; omega) (hb C.hby d) (fun _ _ => ⟨rfl, eT, hc, hs⟩)
  exact Goes.via (fun _ k => q.trans k) (K _ _ v hQ (st_back (T' := T) (h' := h) Y' hB N N' E'))
theorem g_privateP {index : Nat} {y : MethodName} {bytes' : ByteArray} {maxL' W' : Nat} {ret' : Option FieldType} {argsL : List Value} {v : Value} {ps : List FieldType} {rt : Option FieldType} {a : Addr} (C : Cx p s m meth c Z own nm bytes maxL ret) (X : St p l e R s m A below meth c Z T h cells slots)
    (w1 : (Jvm.Cond.methodLink own index y).before a0 Z = true) (w2 : (Jvm.Cond.instanceMethod y).before a0 Z = true) (hsel : (Jvm.Cond.selects y.cls y y).before A s = true) (wp : (Jvm.Cond.privateMethod y).before a0 Z = true) (w4 : (Jvm.Cond.code y bytes' maxL' ret').before a0 Z = true) (hy : y.cls ≠ "java/lang/invoke/MethodHandle" ∧ y.cls ≠ "java/lang/invoke/VarHandle") (Ex : Exa Z h a y.cls)
    (hK : Pay l R p e below s A y 3 W' 0 0 Z (.ref a :: argsL).toArray h (fun v' h' => v' = some v ∧ h' = h)) (pd : parseMethodDescriptor y.desc = some ⟨ps, rt⟩) (hlen : argsL.length = ps.length) (hsz : Ls.size = maxL) (stk : List Value) (hst : stk = argsL.reverse ++ .ref a :: st) (hW : (st.map fun v => v.category).sum ≤ W') (d : Dc bytes pc (.invokevirtual index) 3 pc') (hc : cells ≤ R.cells) (hs : slots ≤ R.slots)
    (K : ∀ T', St p l e R s m A below meth c Z T' h cells slots → Goes p e below W T' (mkF m pc' Ls (v :: st))) : Goes p e below W T (mkF m pc Ls stk) :=
  g_private C X w1 w2 hsel wp w4 hy Ex hK pd hlen hsz stk hst hW d hc hs fun T' h' v' hQ X' => by obtain ⟨rfl, rfl⟩ := hQ; exact K T' X'
end OwnClone
def consts_1 : List (String × Nat) := []
theorem own_add (x y : Int32) (h1 : -2147483648 ≤ x.toInt + y.toInt) (h2 : x.toInt + y.toInt ≤ 2147483647) : (x + y).toInt = x.toInt + y.toInt := by
  rw [Int32.toInt_add]; exact Int.bmod_eq_of_le (by omega) (by omega)
theorem own_sub (x y : Int32) (h1 : -2147483648 ≤ x.toInt - y.toInt) (h2 : x.toInt - y.toInt ≤ 2147483647) : (x - y).toInt = x.toInt - y.toInt := by
  rw [Int32.toInt_sub]; exact Int.bmod_eq_of_le (by omega) (by omega)
theorem own_mul (x y : Int32) (h1 : -2147483648 ≤ x.toInt * y.toInt) (h2 : x.toInt * y.toInt ≤ 2147483647) : (x * y).toInt = x.toInt * y.toInt := by
  rw [Int32.toInt_mul]; exact Int.bmod_eq_of_le (by omega) (by omega)
theorem own_neg (x : Int32) (h1 : -2147483647 ≤ x.toInt) : (-x).toInt = - x.toInt := by
  have := Int32.toInt_lt x
  rw [Int32.toInt_neg]; exact Int.bmod_eq_of_le (by omega) (by omega)
theorem own_shr0 (x : Int32) : x >>> ((0 : Int32) &&& 31) = x := by simp
theorem own_shl0 (x : Int32) : x <<< ((0 : Int32) &&& 31) = x := by simp
theorem own_sub0 (x : Int32) : x - (0 : Int32) = x := by simp
theorem own_div (x : Int32) (h : x.toInt ≤ 0) : (x / 100).toInt = -((-x.toInt) / 100) := by
  have h1 := Int32.toInt_lt x
  have h2 := Int32.le_toInt x
  rw [Int32.toInt_div, show (100 : Int32).toInt = 100 from rfl]
  have e : x.toInt.tdiv 100 = -((-x.toInt) / 100) := by
    rw [← Int.tdiv_eq_ediv_of_nonneg (by omega), Int.neg_tdiv]; simp
  rw [e]; exact Int.bmod_eq_of_le (by omega) (by omega)
theorem own_nn {x : Int32} (h : 0 ≤ x.toInt) : ¬ x < 0 := by
  rw [Int32.lt_iff_toInt_lt, show (0 : Int32).toInt = 0 from rfl]; omega
theorem own_lt {x y : Int32} (h : x.toInt < y.toInt) : x < y := Int32.lt_iff_toInt_lt.mpr h
theorem own_nlt {x y : Int32} (h : y.toInt ≤ x.toInt) : ¬ x < y := fun q => by have := Int32.lt_iff_toInt_lt.mp q; omega
theorem own_ne {x y : Int32} (h : x.toInt ≠ y.toInt) : ¬ x = y := fun q => h (congrArg _ q)
theorem own_lt' {x y : Int32} (h : x < y) : x.toInt < y.toInt := Int32.lt_iff_toInt_lt.mp h
theorem own_nlt' {x y : Int32} (h : ¬ x < y) : y.toInt ≤ x.toInt := by
  rw [Int32.lt_iff_toInt_lt] at h; omega
theorem own_dec (x : Int32) (h : -2147483647 ≤ x.toInt) : (x + (-1 : Int32)).toInt = x.toInt - 1 := by
  have := Int32.toInt_lt x
  have e : (-1 : Int32).toInt = -1 := rfl
  rw [own_add x (-1) (by omega) (by omega), e]; omega
theorem own_tn {x : Int32} (h : 0 ≤ x.toInt) : (x.toNatClampNeg : Int) = x.toInt := by
  simp only [Int32.toNatClampNeg]; omega
theorem own_lenlt {j N : Int32} (hj : ¬ j < 0) (hj' : j < N) : j.toNatClampNeg < N.toNatClampNeg := by
  have h1 := own_nlt' hj
  have h2 := own_lt' hj'
  rw [show (0 : Int32).toInt = 0 from rfl] at h1
  have h3 := own_tn h1
  have h4 := own_tn (x := N) (by omega)
  omega
theorem own_ne' {x y : Int32} (h : ¬ x = y) : x.toInt ≠ y.toInt := fun q => h (Int32.toInt_inj.mp q)
theorem own_nat (x : Int32) (h : 0 ≤ x.toInt) : x.toInt = (x.toUInt32.toNat : Int) := by
  have h1 : x.toBitVec.toInt = x.toInt := Int32.toInt_toBitVec x
  have h2 : x.toBitVec.toNat = x.toUInt32.toNat := Int32.toNat_toBitVec x
  have h3 := BitVec.toInt_eq_toNat_cond x.toBitVec
  have h4 := x.toBitVec.isLt
  rw [h1] at h3
  split at h3 <;> omega
theorem own_ofnat (u : UInt32) (h : u.toNat < 2147483648) : u.toInt32.toInt = (u.toNat : Int) := by
  have h1 : u.toInt32.toBitVec.toInt = u.toInt32.toInt := Int32.toInt_toBitVec _
  have h3 := BitVec.toInt_eq_toNat_of_lt (x := u.toInt32.toBitVec) (by show 2 * u.toNat < 2 ^ 32; omega)
  rw [h1] at h3; exact h3
theorem own_ush (x : Int32) (h : 0 ≤ x.toInt) (w : UInt32) (hw : w.toNat < 32) : ((x.toUInt32 >>> w).toInt32).toInt = x.toInt / (2 ^ w.toNat : Nat) := by
  have hx := Int32.toInt_lt x
  have e1 := own_nat x h
  have e2 : (x.toUInt32 >>> w).toNat = x.toUInt32.toNat / 2 ^ w.toNat := by
    rw [UInt32.toNat_shiftRight, Nat.mod_eq_of_lt hw, Nat.shiftRight_eq_div_pow]
  have e3 : x.toUInt32.toNat / 2 ^ w.toNat ≤ x.toUInt32.toNat := Nat.div_le_self _ _
  rw [own_ofnat _ (by rw [e2]; omega), e2, e1]; rfl
theorem own_ush8 (x : Int32) (h : 0 ≤ x.toInt) : ((x.toUInt32 >>> ((8 : Int32) &&& 31).toUInt32).toInt32).toInt = x.toInt / 256 := own_ush x h _ (by decide)
theorem own_ush4 (x : Int32) (h : 0 ≤ x.toInt) : ((x.toUInt32 >>> ((4 : Int32) &&& 31).toUInt32).toInt32).toInt = x.toInt / 16 := own_ush x h _ (by decide)
theorem own_ush2 (x : Int32) (h : 0 ≤ x.toInt) : ((x.toUInt32 >>> ((2 : Int32) &&& 31).toUInt32).toInt32).toInt = x.toInt / 4 := own_ush x h _ (by decide)
theorem own_ush1 (x : Int32) (h : 0 ≤ x.toInt) : ((x.toUInt32 >>> ((1 : Int32) &&& 31).toUInt32).toInt32).toInt = x.toInt / 2 := own_ush x h _ (by decide)
theorem own_ush16 (x : Int32) (h : 0 ≤ x.toInt) : ((x.toUInt32 >>> ((16 : Int32) &&& 31).toUInt32).toInt32).toInt = x.toInt / 65536 := own_ush x h _ (by decide)
theorem own_ush5 (x : Int32) (h : 0 ≤ x.toInt) : ((x.toUInt32 >>> ((5 : Int32) &&& 31).toUInt32).toInt32).toInt = x.toInt / 32 := own_ush x h _ (by decide)
theorem own_and32 (x : Int32) : 0 ≤ (x &&& (32 : Int32)).toInt ∧ (x &&& (32 : Int32)).toInt ≤ 32 := by
  have e : (x &&& (32 : Int32)) = (x.toUInt32 &&& 32).toInt32 := rfl
  have h : (x.toUInt32 &&& 32).toNat ≤ 32 := by rw [UInt32.toNat_and]; exact Nat.and_le_right
  rw [e, own_ofnat _ (by omega)]; omega
theorem own_and63 (x : Int64) : 0 ≤ (x &&& (9223372036854775807 : Int64)).toInt := by
  have h1 : (x &&& (9223372036854775807 : Int64)).toBitVec.toInt = (x &&& (9223372036854775807 : Int64)).toInt := Int64.toInt_toBitVec _
  have h2 : (x &&& (9223372036854775807 : Int64)).toBitVec.toNat ≤ 9223372036854775807 := by
    show (x.toBitVec &&& 9223372036854775807#64).toNat ≤ _
    rw [BitVec.toNat_and]; exact Nat.and_le_right
  have h3 := BitVec.toInt_eq_toNat_of_lt (x := (x &&& (9223372036854775807 : Int64)).toBitVec) (by omega)
  rw [h1] at h3; omega
theorem own_rem {x y : Int64} (h : 0 ≤ x.toInt) (hy : 0 < y.toInt) : 0 ≤ (x % y).toInt ∧ (x % y).toInt < y.toInt := by
  rw [Int64.toInt_mod, Int.tmod_eq_emod_of_nonneg h]
  exact ⟨Int.emod_nonneg _ (by omega), Int.emod_lt_of_pos _ hy⟩
theorem own_sub64 (x y : Int64) (h0 : 0 ≤ y.toInt) (h : y.toInt ≤ x.toInt) : (x - y).toInt = x.toInt - y.toInt := by
  have := Int64.toInt_lt x
  rw [Int64.toInt_sub]; exact Int.bmod_eq_of_le (by omega) (by omega)
theorem own_l2i (x : Int64) (h0 : 0 ≤ x.toInt) (h : x.toInt ≤ 16) : x.toInt32.toInt = x.toInt := by
  rw [Int64.toInt_toInt32]; exact Int.bmod_eq_of_le (by omega) (by omega)
section OwnI
variable {p : Program} {l : Launch} {e : Env} {R : Room} {s : State} {m : MethodId} {A : Array Value} {below : List Frame} {meth : Method} {c : Code} {T : State} {cells slots : Nat} {Z : State} {a0 : Array Value} {h h' : Heap} {own nm : String} {bytes : ByteArray} {maxL : Nat} {ret : Option FieldType} {W : Outcome → State → Prop} {pc pc' tgt : Nat} {Ls : Array Slot} {st : List Value} {EL : List (String × Nat)} {vm0 : Vm}
/-- an int[] of N ints, whatever they are -/
def IaS (Z : State) (h : Heap) (a : Addr) (N : Int32) : Prop := ∃ (k : ClassId) (vs : List Value) (dv : Value), Arv Z h a k .int N vs dv
def Ia (Z : State) (h : Heap) (a : Addr) (N : Int32) : Prop := ∃ (k : ClassId) (vs : List Value), Arv Z h a k .int N vs (.int 0) ∧ vs.length = N.toNatClampNeg
theorem Ia.toS {a : Addr} {N : Int32} (F : Ia Z h a N) : IaS Z h a N := by obtain ⟨k, vs, A, _⟩ := F; exact ⟨k, vs, _, A⟩
theorem IaS.of {a : Addr} {k : ClassId} {N : Int32} {vs : List Value} {dv : Value} (F : Arv Z h a k .int N vs dv) : IaS Z h a N := ⟨k, vs, dv, F⟩
theorem IaS.ext {a : Addr} {N : Int32} (F : IaS Z h a N) (E : Ext h h') : IaS Z h' a N := by obtain ⟨k, vs, dv, A⟩ := F; exact ⟨k, vs, dv, A.ext E⟩
theorem IaS.other {a b : Addr} {N : Int32} {sl : Nat} {v : Value} (F : IaS Z h b N) (W : Wr h h' a sl v) (q : b ≠ a) : IaS Z h' b N := by obtain ⟨k, vs, dv, A⟩ := F; exact ⟨k, vs, dv, A.other W q⟩
theorem IaS.keep {a : Addr} {N : Int32} {ws : List Addr} (F : IaS Z h a N) (K : Keep h h' ws) (q : a ∉ ws) : IaS Z h' a N := by obtain ⟨k, vs, dv, A⟩ := F; exact ⟨k, vs, dv, A.keep K q⟩
theorem IaS.lt {a : Addr} {N : Int32} (F : IaS Z h a N) : a < h.size := by obtain ⟨k, vs, dv, A⟩ := F; exact A.lt
theorem Ia.ext {a : Addr} {N : Int32} (F : Ia Z h a N) (E : Ext h h') : Ia Z h' a N := by obtain ⟨k, vs, A, l⟩ := F; exact ⟨k, vs, A.ext E, l⟩
theorem Ia.other {a b : Addr} {N : Int32} {sl : Nat} {v : Value} (F : Ia Z h b N) (W : Wr h h' a sl v) (q : b ≠ a) : Ia Z h' b N := by obtain ⟨k, vs, A, l⟩ := F; exact ⟨k, vs, A.other W q, l⟩
theorem Ia.keep {a : Addr} {N : Int32} {ws : List Addr} (F : Ia Z h a N) (K : Keep h h' ws) (q : a ∉ ws) : Ia Z h' a N := by obtain ⟨k, vs, A, l⟩ := F; exact ⟨k, vs, A.keep K q, l⟩
theorem Ia.lt {a : Addr} {N : Int32} (F : Ia Z h a N) : a < h.size := F.toS.lt
theorem IaS.len {a : Addr} {N : Int32} (F : IaS Z h a N) : 0 ≤ N.toInt := by
  obtain ⟨k, vs, dv, cl, -, -, -, q, -⟩ := F
  have := own_nlt' q; rw [show (0 : Int32).toInt = 0 from rfl] at this; exact this
theorem own_neI {x b : Addr} {C0 : String} {n : Nat} {N : Int32} (E : Exa Z h x C0) (F : IaS Z h b N) (w : (Jvm.Cond.instantiable C0 n).before a0 Z = true) : x ≠ b := by obtain ⟨k, vs, dv, A⟩ := F; exact E.neArv A w
theorem g_arraylengthI {a : Addr} {N : Int32} (C : Cx p s m meth c Z own nm bytes maxL ret) (X : St p l e R s m A below meth c Z T h cells slots) (F : IaS Z h a N) (d : Dc bytes pc .arraylength 1 pc') (K : Goes p e below W T (mkF m pc' Ls (.int N :: st))) : Goes p e below W T (mkF m pc Ls (.ref a :: st)) := by
  obtain ⟨k, vs, dv, A⟩ := F; exact g_arraylength C X A d K
theorem g_ialoadI {a : Addr} {N j : Int32} (C : Cx p s m meth c Z own nm bytes maxL ret) (X : St p l e R s m A below meth c Z T h cells slots) (F : IaS Z h a N) (d : Dc bytes pc .iaload 1 pc') (hj : ¬ j < 0) (hj' : j < N) (K : ∀ v : Int32, Goes p e below W T (mkF m pc' Ls (.int v :: st))) : Goes p e below W T (mkF m pc Ls (.int j :: .ref a :: st)) := by
  obtain ⟨k, vs, dv, A⟩ := F
  have A0 := A
  obtain ⟨cl, Ar, q1, hS, hN, hH, hG⟩ := A0
  have q := hG j.toNatClampNeg (by rw [hS]; exact own_lenlt hj hj')
  cases hv : vs.getD j.toNatClampNeg dv with
  | int v => exact g_iaload C X A d hj hj' hv (K v)
  | _ => rw [hv] at q; simp [fits] at q
theorem g_iastoreI {a : Addr} {N j x : Int32} (C : Cx p s m meth c Z own nm bytes maxL ret) (X : St p l e R s m A below meth c Z T h cells slots) (F : Ia Z h a N) (hnew : Z.heap.size ≤ a) (d : Dc bytes pc .iastore 1 pc') (hj : ¬ j < 0) (hj' : j < N)
    (K : ∀ T' h', St p l e R s m A below meth c Z T' h' cells slots → Wr h h' a j.toNatClampNeg (.int x) → Ia Z h' a N → Goes p e below W T' (mkF m pc' Ls st)) : Goes p e below W T (mkF m pc Ls (.int x :: .int j :: .ref a :: st)) := by
  obtain ⟨k, vs, A, l⟩ := F
  exact g_iastore C X A hnew d hj hj' (by rw [l]; exact own_lenlt hj hj') _ rfl fun T' h' X' W' A' => K T' h' X' W' ⟨k, _, A', by rw [List.length_set]; exact l⟩
theorem g_newarrayI {n : Int32} (C : Cx p s m meth c Z own nm bytes maxL ret) (X : St p l e R s m A below meth c Z T h cells slots) (w : (Jvm.Cond.arrayClass .int).before a0 Z = true) (d : Dc bytes pc (.newarray .int) 2 pc') (hn : ¬ n < 0) (cap : Nat) (hcap : n.toNatClampNeg ≤ cap) (hb' : cap * 8 ≤ 536870912) (hc : cells + 1 ≤ R.cells) (hl : slots + cap ≤ R.slots)
    (K : ∀ T' h' b, b = h.size → Z.heap.size ≤ b → St p l e R s m A below meth c Z T' h' (cells + 1) (slots + cap) → Ext h h' → Ia Z h' b n → Goes p e below W T' (mkF m pc' Ls (.ref b :: st))) : Goes p e below W T (mkF m pc Ls (.int n :: st)) := by
  refine g_newarray (aty := .int) C X w d hn n.toNatClampNeg cap hcap hb' hc hl (fun T' h' b k g1 g2 X' E' A' => ?_)
  have A2 : Arv Z h' b k .int n (List.replicate n.toNatClampNeg (.int 0)) (.int 0) := A'
  exact K T' h' b g1 g2 X' E' ⟨k, _, A2, List.length_replicate⟩
theorem g_arraycopyI {index : Nat} {a b : Addr} {z z' sp dp nn : Int32} (C : Cx p s m meth c Z own nm bytes maxL ret) (X : St p l e R s m A below meth c Z T h cells slots)
    (w1 : (Jvm.Cond.methodLink own index Jvm.Stand.acN).before a0 Z = true) (w2 : (Jvm.Cond.native Jvm.Stand.acN).before a0 Z = true) (w3 : (Jvm.Cond.static Jvm.Stand.acN).before a0 Z = true) (w4 : (Jvm.Cond.initialized "java/lang/System").before a0 Z = true)
    (F : IaS Z h a z) (G : Ia Z h b z') (h1 : 0 ≤ sp.toInt) (h2 : 0 ≤ dp.toInt) (h3 : 0 ≤ nn.toInt) (h4 : sp.toInt + nn.toInt ≤ z.toInt) (h5 : dp.toInt + nn.toInt ≤ z'.toInt)
    (hnew : Z.heap.size ≤ b) (hsz : Ls.size = maxL) (d : Dc bytes pc (.invokestatic index) 3 pc') (hf : 1 ≤ R.frames) (W' : Nat) (hW : (st.map fun v => v.category).sum ≤ W') (hlo : W' + (nativeFrameWords "java/lang/System" "arraycopy" 5 + 11) ≤ R.locals)
    (K : ∀ T' h', St p l e R s m A below meth c Z T' h' cells slots → Keep h h' [b] → Ia Z h' b z' → Goes p e below W T' (mkF m pc' Ls st)) : Goes p e below W T (mkF m pc Ls (.int nn :: .int dp :: .ref b :: .int sp :: .ref a :: st)) := by
  obtain ⟨k, vs, dv, A0⟩ := F
  obtain ⟨k', vd, B0, l0⟩ := G
  have t1 := own_tn h1
  have t2 := own_tn h2
  have t3 := own_tn h3
  have t4 := own_tn (x := z) (by omega)
  have t5 := own_tn (x := z') (by omega)
  exact g_arraycopy C X w1 w2 w3 w4 A0 B0 rfl (own_nn h1) (own_nn h2) (own_nn h3) (by omega) (by omega) _ rfl (by rw [l0]; omega) hnew hsz d hf W' hW hlo fun T' h' X' K' A' => K T' h' X' K' ⟨k', _, A', by simp only [List.length_append, List.length_take, List.length_map, List.length_range, List.length_drop, l0]; omega⟩
theorem own_dupX2 {tb : Tables} [Ours tb] {e : Env} {below : List Frame} {T target : State} {m : MethodId} {c : Code} {g : JFrame} (h : At T m c below) (hx : tb.exec = Jvm.exec) (hg : g.method = m) {x y z : Value} {rest : List Value} (hd : decode c.code g.pc = .ok (.dup_x2, 1)) (hs : g.stack = x :: y :: z :: rest) (hc : x.category = 1) (hc' : y.category = 1) (hc2 : z.category = 1)
    (hr : Steps tb e below (T.setTop { g with pc := g.pc + 1, stack := x :: y :: z :: x :: rest }) target) : Steps tb e below (T.setTop g) target := by
  subst hg
  jvm_step h [h.top, hx, hd, hs, hc, hc', hc2, Op.dup_x2.wp_sem]
  exact hr
theorem g_dup_x2 {x y z : Value} (C : Cx p s m meth c Z own nm bytes maxL ret) (X : St p l e R s m A below meth c Z T h cells slots) (d : Dc bytes pc .dup_x2 1 pc') (hc : x.category = 1) (hc' : y.category = 1) (hc2 : z.category = 1) (K : Goes p e below W T (mkF m pc' Ls (x :: y :: z :: x :: st))) : Goes p e below W T (mkF m pc Ls (x :: y :: z :: st)) := by
  obtain ⟨d, rfl⟩ := d
  exact Goes.via (fun _ k => own_dupX2 X.here C.hx rfl (hb C.hby d) rfl hc hc' hc2 k) K
theorem own_safe0 {Z : State} {vm : Vm} {h : Heap} {x : Addr} : Safe Z [] vm h x := fun B => by obtain ⟨p, hp, _⟩ := B; cases hp
theorem g_ldcx {index : Nat} {text : String} (n : Nat) (C : Cx p (s.setVm vm0) m meth c Z own nm bytes maxL ret) (X : St p l e R (s.setVm vm0) m A below meth c Z T h cells slots) (I : Lits Z [] s vm0 h) (wS : ∀ a ∈ Bundle.stringAtoms, a.before a0 Z = true) (w : (Jvm.Cond.stringLink own index text).before a0 Z = true)
    (hn : 4 * text.toList.length ≤ n) (hbig : n ≤ 536870912) (d : Dc bytes pc (.ldc index) 2 pc') (hc : cells + 2 ≤ R.cells) (hs : slots + (n + 4) ≤ R.slots)
    (K : ∀ a T' h', Cx p (s.setVm T'.vm) m meth c Z own nm bytes maxL ret → St p l e R (s.setVm T'.vm) m A below meth c Z T' h' (cells + 2) (slots + (n + 4)) → Lits Z [] s T'.vm h' → Ext h h' → Goes p e below W T' (mkF m pc' Ls (.ref a :: st))) : Goes p e below W T (mkF m pc Ls st) := by
  obtain ⟨d, rfl⟩ := d
  obtain ⟨L0, Y, eT, N, E⟩ := X
  obtain ⟨⟨k0, hS, hk⟩, hC⟩ := I
  obtain ⟨a, T', h', k1, Y', e', E', hS', hk', hZ', ho', q⟩ := ldcS Y C.hx C.hZ C.hown w wS eT hS hk (g := mkF m pc Ls st) rfl (hb C.hby d) hn hbig hc hs
  have c1 : CHv Z [] T'.vm h' := by intro p hp; cases hp
  have c2 : ∀ y, Bk Z [] T'.vm h' y → Bk Z [] s.vm s.heap y ∨ s.heap.size ≤ y := by intro y B; obtain ⟨p, hp, _⟩ := B; cases hp
  have L' : Lits Z [] s T'.vm h' := ⟨⟨k1, hS', hk'⟩, c1, Nat.le_trans hC.2.1 E'.1, c2⟩
  exact Goes.via q (K a T' h' ⟨C.1, hZ', ho', C.2.2.2⟩ ⟨L0, Y', e', N, ext_trans E E'⟩ L' E')
end OwnI
theorem own_hasl {c : Cell} : ∀ (vs : List Value) (i : Nat), (∀ j, j < vs.length → c.slots[i + j]? = vs[j]?) → HasL c i vs
  | [], _, _ => trivial
  | v :: r, i, h => ⟨by have := h 0 (Nat.zero_lt_succ _); simpa using this, own_hasl r (i + 1) fun j hj => by have := h (j + 1) (Nat.succ_lt_succ hj); rw [show i + 1 + j = i + (j + 1) by omega]; simpa using this⟩
theorem own_arrx {args : Array Value} {Z : State} {t : Term} {a : Addr} {cl : Cell} {ty : FieldType} {n : Int32} (dv : Value) (hf : Fit Z) (A : Arr Z Z.heap a cl ty) (ev : t.eval args Z none [] Z = some (.ref a)) (hl : (Term.length t).eval args Z none [] Z = some (.int n)) (hn : ¬ n < 0) : Arv Z Z.heap a cl.cls ty n cl.slots.toList dv := by
  obtain ⟨a', c', e1, e2, e4⟩ := Term.length_spec hl
  cases ev.symm.trans e1
  cases A.1.symm.trans (State.arrayAt?_spec e2).1
  have e3 : cl.slots.size < 2 ^ 31 := by
    by_cases q : cl.slots.size < 2147483648
    · exact q
    · exfalso; simp [Term.eval, ev, e2, q] at hl
  have e5 : cl.slots.size.toInt32 = n := Value.int.inj e4.symm
  have S : cl.slots.size = n.toNatClampNeg := by rw [← e5]; simp only [Int32.toNatClampNeg, len_toInt e3]; rfl
  exact Arv.start hf A e3 e5 hn (by rw [← S]; simp) (own_hasl _ 0 fun j hj => by simp)
theorem own_hb {Z : State} {args : Array Value} {t : Term} {a : Addr} {c : Cell} (et : ∀ idx, t.eval args Z none idx Z = some (.ref a)) (A : Arr Z Z.heap a c (.object "java/lang/Integer")) (hl : (Term.length t).eval args Z none [] Z = some (.int 256))
    (h : (Jvm.Cond.all t (.and (.exactly (.elem t (.index 0)) "java/lang/Integer") (.eq (.field (.elem t (.index 0)) "java/lang/Integer" "value" "I") (.sub (.index 0) (.int 128))))).value args Z none Z [] = some true) :
    ∀ j : Int32, ¬ j < 0 → j < 256 → ∃ b : Addr, c.slots.toList.getD j.toNatClampNeg .null = .ref b ∧ Exa Z Z.heap b "java/lang/Integer" ∧ Fld Z Z.heap b "java/lang/Integer" "value" "I" (.int (j - 128)) := by
  obtain ⟨a', c', e1, e2, e4⟩ := Term.length_spec hl
  cases (et []).symm.trans e1
  cases A.1.symm.trans (State.arrayAt?_spec e2).1
  have e3 : c.slots.size < 2 ^ 31 := by
    by_cases q : c.slots.size < 2147483648
    · exact q
    · exfalso; simp [Term.eval, et, e2, q] at hl
  have e5 : c.slots.size.toInt32 = 256 := Value.int.inj e4.symm
  have B := Bxs.start (val := fun j => .int (j - 128)) et A e3 e5 (by decide) h fun X j nn hX => eqv_i (by simp [Term.eval]; exact (back32 nn).1) hX
  intro j h0 h1
  obtain ⟨b, q1, q2, q3⟩ := B.2.2.2 j (fun q => by
    rcases q with q | q
    · exact h0 q
    · rw [B.2.1] at q
      simp only [Int32.lt_iff_toInt_lt, Int32.toNatClampNeg, Int32.reduceToInt] at *
      omega)
  refine ⟨b, ?_, q2, q3⟩
  rw [List.getD_eq_getElem?_getD, Array.getElem?_toList, q1]
  rfl
theorem own_EW {Z : State} {a0 : Array Value} (hw : ∀ d ∈ tables_1, d.before a0 Z = true) : EW Z a0 consts_1 := fun p hp => by cases hp
theorem own_wS {Z : State} {a0 : Array Value} (hw : ∀ d ∈ tables_1, d.before a0 Z = true) : ∀ a ∈ Bundle.stringAtoms, a.before a0 Z = true := fun d hd => hw d ((show ∀ d ∈ Bundle.stringAtoms, d ∈ tables_1 by decide +kernel) d hd)
theorem pn_0 : plainName "java/lang/Integer" = true := by first | (simp [plainName, overriddenIn]; done) | decide +kernel
theorem ef_rBC (m : MethodId) (y : Int32) : entryFrame m #[(.int y)] 1 = mkF m 0 #[.val (.int y)] [] := by first | (simp [entryFrame, mkF, argsToLocals, Value.category]; done) | rfl
theorem d10_0 : Dc jdk_33_method_49_code 0 (.iload_n 0) 1 1 := ⟨by decide +kernel, rfl⟩
theorem d10_1 : Dc jdk_33_method_49_code 1 (.iload_n 0) 1 2 := ⟨by decide +kernel, rfl⟩
theorem d10_2 : Dc jdk_33_method_49_code 2 (.iconst 1) 1 3 := ⟨by decide +kernel, rfl⟩
theorem d10_3 : Dc jdk_33_method_49_code 3 (.iushr) 1 4 := ⟨by decide +kernel, rfl⟩
theorem d10_4 : Dc jdk_33_method_49_code 4 (.ldc_w 265) 3 7 := ⟨by decide +kernel, rfl⟩
theorem d10_7 : Dc jdk_33_method_49_code 7 (.iand) 1 8 := ⟨by decide +kernel, rfl⟩
theorem d10_8 : Dc jdk_33_method_49_code 8 (.isub) 1 9 := ⟨by decide +kernel, rfl⟩
theorem d10_9 : Dc jdk_33_method_49_code 9 (.istore_n 0) 1 10 := ⟨by decide +kernel, rfl⟩
theorem d10_10 : Dc jdk_33_method_49_code 10 (.iload_n 0) 1 11 := ⟨by decide +kernel, rfl⟩
theorem d10_11 : Dc jdk_33_method_49_code 11 (.ldc_w 266) 3 14 := ⟨by decide +kernel, rfl⟩
theorem d10_14 : Dc jdk_33_method_49_code 14 (.iand) 1 15 := ⟨by decide +kernel, rfl⟩
theorem d10_15 : Dc jdk_33_method_49_code 15 (.iload_n 0) 1 16 := ⟨by decide +kernel, rfl⟩
theorem d10_16 : Dc jdk_33_method_49_code 16 (.iconst 2) 1 17 := ⟨by decide +kernel, rfl⟩
theorem d10_17 : Dc jdk_33_method_49_code 17 (.iushr) 1 18 := ⟨by decide +kernel, rfl⟩
theorem d10_18 : Dc jdk_33_method_49_code 18 (.ldc_w 266) 3 21 := ⟨by decide +kernel, rfl⟩
theorem d10_21 : Dc jdk_33_method_49_code 21 (.iand) 1 22 := ⟨by decide +kernel, rfl⟩
theorem d10_22 : Dc jdk_33_method_49_code 22 (.iadd) 1 23 := ⟨by decide +kernel, rfl⟩
theorem d10_23 : Dc jdk_33_method_49_code 23 (.istore_n 0) 1 24 := ⟨by decide +kernel, rfl⟩
theorem d10_24 : Dc jdk_33_method_49_code 24 (.iload_n 0) 1 25 := ⟨by decide +kernel, rfl⟩
theorem d10_25 : Dc jdk_33_method_49_code 25 (.iload_n 0) 1 26 := ⟨by decide +kernel, rfl⟩
theorem d10_26 : Dc jdk_33_method_49_code 26 (.iconst 4) 1 27 := ⟨by decide +kernel, rfl⟩
theorem d10_27 : Dc jdk_33_method_49_code 27 (.iushr) 1 28 := ⟨by decide +kernel, rfl⟩
theorem d10_28 : Dc jdk_33_method_49_code 28 (.iadd) 1 29 := ⟨by decide +kernel, rfl⟩
theorem d10_29 : Dc jdk_33_method_49_code 29 (.ldc_w 267) 3 32 := ⟨by decide +kernel, rfl⟩
theorem d10_32 : Dc jdk_33_method_49_code 32 (.iand) 1 33 := ⟨by decide +kernel, rfl⟩
theorem d10_33 : Dc jdk_33_method_49_code 33 (.istore_n 0) 1 34 := ⟨by decide +kernel, rfl⟩
theorem d10_34 : Dc jdk_33_method_49_code 34 (.iload_n 0) 1 35 := ⟨by decide +kernel, rfl⟩
theorem d10_35 : Dc jdk_33_method_49_code 35 (.iload_n 0) 1 36 := ⟨by decide +kernel, rfl⟩
theorem d10_36 : Dc jdk_33_method_49_code 36 (.bipush 8) 2 38 := ⟨by decide +kernel, rfl⟩
theorem d10_38 : Dc jdk_33_method_49_code 38 (.iushr) 1 39 := ⟨by decide +kernel, rfl⟩
theorem d10_39 : Dc jdk_33_method_49_code 39 (.iadd) 1 40 := ⟨by decide +kernel, rfl⟩
theorem d10_40 : Dc jdk_33_method_49_code 40 (.istore_n 0) 1 41 := ⟨by decide +kernel, rfl⟩
theorem d10_41 : Dc jdk_33_method_49_code 41 (.iload_n 0) 1 42 := ⟨by decide +kernel, rfl⟩
theorem d10_42 : Dc jdk_33_method_49_code 42 (.iload_n 0) 1 43 := ⟨by decide +kernel, rfl⟩
theorem d10_43 : Dc jdk_33_method_49_code 43 (.bipush 16) 2 45 := ⟨by decide +kernel, rfl⟩
theorem d10_45 : Dc jdk_33_method_49_code 45 (.iushr) 1 46 := ⟨by decide +kernel, rfl⟩
theorem d10_46 : Dc jdk_33_method_49_code 46 (.iadd) 1 47 := ⟨by decide +kernel, rfl⟩
theorem d10_47 : Dc jdk_33_method_49_code 47 (.istore_n 0) 1 48 := ⟨by decide +kernel, rfl⟩
theorem d10_48 : Dc jdk_33_method_49_code 48 (.iload_n 0) 1 49 := ⟨by decide +kernel, rfl⟩
theorem d10_49 : Dc jdk_33_method_49_code 49 (.bipush 63) 2 51 := ⟨by decide +kernel, rfl⟩
theorem d10_51 : Dc jdk_33_method_49_code 51 (.iand) 1 52 := ⟨by decide +kernel, rfl⟩
theorem d10_52 : Dc jdk_33_method_49_code 52 (.ireturn) 1 53 := ⟨by decide +kernel, rfl⟩
theorem rBC (l : Launch) {Z : State} {a0 : Array Value} (hw : ∀ d ∈ tables_1, d.before a0 Z = true) {h : Heap} (hE : Ext Z.heap h) (y : Int32)   :
    Con l (⟨"java/lang/Integer", "bitCount", "(I)I"⟩ : MethodName) jdk_33_method_49_code 1 (some .int) [] ({ frames := 0, cells := 0, slots := 0, locals := 0 } : Room) Z #[(.int y)] h (fun v' h' => ∃ r : Int32, v' = some (.int r) ∧ h' = h) := by
  refine con_of (plainFor_of_name pn_0) hE (fun m => ef_rBC m y) ?_
  intro p e s m below meth c T0 C X0
  have C : Cx p s m meth c Z "java/lang/Integer" "bitCount" jdk_33_method_49_code 1 (some .int) := C
  show Goes p e below _ T0 (mkF m 0 #[.val (.int y)] [])
  refine g_iloadN C X0 d10_0 rfl ?_
  refine g_iloadN C X0 d10_1 rfl ?_
  refine g_iconst 1 C X0 d10_2 rfl ?_
  refine g_iushr C X0 d10_3 ?_
  refine g_ldcwI C X0 (wd hw 94 rfl) d10_4 ?_
  refine g_iand C X0 d10_7 ?_
  refine g_isub C X0 d10_8 ?_
  refine g_istoreN C X0 d10_9 (l' := #[.val (.int (y - (((y.toUInt32 >>> ((1 : Int32) &&& 31).toUInt32).toInt32) &&& (1431655765 : Int32))))]) rfl ?_
  refine g_iloadN C X0 d10_10 rfl ?_
  refine g_ldcwI C X0 (wd hw 95 rfl) d10_11 ?_
  refine g_iand C X0 d10_14 ?_
  refine g_iloadN C X0 d10_15 rfl ?_
  refine g_iconst 2 C X0 d10_16 rfl ?_
  refine g_iushr C X0 d10_17 ?_
  refine g_ldcwI C X0 (wd hw 95 rfl) d10_18 ?_
  refine g_iand C X0 d10_21 ?_
  refine g_iadd C X0 d10_22 ?_
  refine g_istoreN C X0 d10_23 (l' := #[.val (.int (((y - (((y.toUInt32 >>> ((1 : Int32) &&& 31).toUInt32).toInt32) &&& (1431655765 : Int32))) &&& (858993459 : Int32)) + ((((y - (((y.toUInt32 >>> ((1 : Int32) &&& 31).toUInt32).toInt32) &&& (1431655765 : Int32))).toUInt32 >>> ((2 : Int32) &&& 31).toUInt32).toInt32) &&& (858993459 : Int32))))]) rfl ?_
  refine g_iloadN C X0 d10_24 rfl ?_
  refine g_iloadN C X0 d10_25 rfl ?_
  refine g_iconst 4 C X0 d10_26 rfl ?_
  refine g_iushr C X0 d10_27 ?_
  refine g_iadd C X0 d10_28 ?_
  refine g_ldcwI C X0 (wd hw 96 rfl) d10_29 ?_
  refine g_iand C X0 d10_32 ?_
  refine g_istoreN C X0 d10_33 (l' := #[.val (.int (((((y - (((y.toUInt32 >>> ((1 : Int32) &&& 31).toUInt32).toInt32) &&& (1431655765 : Int32))) &&& (858993459 : Int32)) + ((((y - (((y.toUInt32 >>> ((1 : Int32) &&& 31).toUInt32).toInt32) &&& (1431655765 : Int32))).toUInt32 >>> ((2 : Int32) &&& 31).toUInt32).toInt32) &&& (858993459 : Int32))) + (((((y - (((y.toUInt32 >>> ((1 : Int32) &&& 31).toUInt32).toInt32) &&& (1431655765 : Int32))) &&& (858993459 : Int32)) + ((((y - (((y.toUInt32 >>> ((1 : Int32) &&& 31).toUInt32).toInt32) &&& (1431655765 : Int32))).toUInt32 >>> ((2 : Int32) &&& 31).toUInt32).toInt32) &&& (858993459 : Int32))).toUInt32 >>> ((4 : Int32) &&& 31).toUInt32).toInt32)) &&& (252645135 : Int32)))]) rfl ?_
  refine g_iloadN C X0 d10_34 rfl ?_
  refine g_iloadN C X0 d10_35 rfl ?_
  refine g_bipush 8 C X0 d10_36 rfl ?_
  refine g_iushr C X0 d10_38 ?_
  refine g_iadd C X0 d10_39 ?_
  refine g_istoreN C X0 d10_40 (l' := #[.val (.int ((((((y - (((y.toUInt32 >>> ((1 : Int32) &&& 31).toUInt32).toInt32) &&& (1431655765 : Int32))) &&& (858993459 : Int32)) + ((((y - (((y.toUInt32 >>> ((1 : Int32) &&& 31).toUInt32).toInt32) &&& (1431655765 : Int32))).toUInt32 >>> ((2 : Int32) &&& 31).toUInt32).toInt32) &&& (858993459 : Int32))) + (((((y - (((y.toUInt32 >>> ((1 : Int32) &&& 31).toUInt32).toInt32) &&& (1431655765 : Int32))) &&& (858993459 : Int32)) + ((((y - (((y.toUInt32 >>> ((1 : Int32) &&& 31).toUInt32).toInt32) &&& (1431655765 : Int32))).toUInt32 >>> ((2 : Int32) &&& 31).toUInt32).toInt32) &&& (858993459 : Int32))).toUInt32 >>> ((4 : Int32) &&& 31).toUInt32).toInt32)) &&& (252645135 : Int32)) + (((((((y - (((y.toUInt32 >>> ((1 : Int32) &&& 31).toUInt32).toInt32) &&& (1431655765 : Int32))) &&& (858993459 : Int32)) + ((((y - (((y.toUInt32 >>> ((1 : Int32) &&& 31).toUInt32).toInt32) &&& (1431655765 : Int32))).toUInt32 >>> ((2 : Int32) &&& 31).toUInt32).toInt32) &&& (858993459 : Int32))) + (((((y - (((y.toUInt32 >>> ((1 : Int32) &&& 31).toUInt32).toInt32) &&& (1431655765 : Int32))) &&& (858993459 : Int32)) + ((((y - (((y.toUInt32 >>> ((1 : Int32) &&& 31).toUInt32).toInt32) &&& (1431655765 : Int32))).toUInt32 >>> ((2 : Int32) &&& 31).toUInt32).toInt32) &&& (858993459 : Int32))).toUInt32 >>> ((4 : Int32) &&& 31).toUInt32).toInt32)) &&& (252645135 : Int32)).toUInt32 >>> ((8 : Int32) &&& 31).toUInt32).toInt32)))]) rfl ?_
  refine g_iloadN C X0 d10_41 rfl ?_
  refine g_iloadN C X0 d10_42 rfl ?_
  refine g_bipush 16 C X0 d10_43 rfl ?_
  refine g_iushr C X0 d10_45 ?_
  refine g_iadd C X0 d10_46 ?_
  refine g_istoreN C X0 d10_47 (l' := #[.val (.int (((((((y - (((y.toUInt32 >>> ((1 : Int32) &&& 31).toUInt32).toInt32) &&& (1431655765 : Int32))) &&& (858993459 : Int32)) + ((((y - (((y.toUInt32 >>> ((1 : Int32) &&& 31).toUInt32).toInt32) &&& (1431655765 : Int32))).toUInt32 >>> ((2 : Int32) &&& 31).toUInt32).toInt32) &&& (858993459 : Int32))) + (((((y - (((y.toUInt32 >>> ((1 : Int32) &&& 31).toUInt32).toInt32) &&& (1431655765 : Int32))) &&& (858993459 : Int32)) + ((((y - (((y.toUInt32 >>> ((1 : Int32) &&& 31).toUInt32).toInt32) &&& (1431655765 : Int32))).toUInt32 >>> ((2 : Int32) &&& 31).toUInt32).toInt32) &&& (858993459 : Int32))).toUInt32 >>> ((4 : Int32) &&& 31).toUInt32).toInt32)) &&& (252645135 : Int32)) + (((((((y - (((y.toUInt32 >>> ((1 : Int32) &&& 31).toUInt32).toInt32) &&& (1431655765 : Int32))) &&& (858993459 : Int32)) + ((((y - (((y.toUInt32 >>> ((1 : Int32) &&& 31).toUInt32).toInt32) &&& (1431655765 : Int32))).toUInt32 >>> ((2 : Int32) &&& 31).toUInt32).toInt32) &&& (858993459 : Int32))) + (((((y - (((y.toUInt32 >>> ((1 : Int32) &&& 31).toUInt32).toInt32) &&& (1431655765 : Int32))) &&& (858993459 : Int32)) + ((((y - (((y.toUInt32 >>> ((1 : Int32) &&& 31).toUInt32).toInt32) &&& (1431655765 : Int32))).toUInt32 >>> ((2 : Int32) &&& 31).toUInt32).toInt32) &&& (858993459 : Int32))).toUInt32 >>> ((4 : Int32) &&& 31).toUInt32).toInt32)) &&& (252645135 : Int32)).toUInt32 >>> ((8 : Int32) &&& 31).toUInt32).toInt32)) + ((((((((y - (((y.toUInt32 >>> ((1 : Int32) &&& 31).toUInt32).toInt32) &&& (1431655765 : Int32))) &&& (858993459 : Int32)) + ((((y - (((y.toUInt32 >>> ((1 : Int32) &&& 31).toUInt32).toInt32) &&& (1431655765 : Int32))).toUInt32 >>> ((2 : Int32) &&& 31).toUInt32).toInt32) &&& (858993459 : Int32))) + (((((y - (((y.toUInt32 >>> ((1 : Int32) &&& 31).toUInt32).toInt32) &&& (1431655765 : Int32))) &&& (858993459 : Int32)) + ((((y - (((y.toUInt32 >>> ((1 : Int32) &&& 31).toUInt32).toInt32) &&& (1431655765 : Int32))).toUInt32 >>> ((2 : Int32) &&& 31).toUInt32).toInt32) &&& (858993459 : Int32))).toUInt32 >>> ((4 : Int32) &&& 31).toUInt32).toInt32)) &&& (252645135 : Int32)) + (((((((y - (((y.toUInt32 >>> ((1 : Int32) &&& 31).toUInt32).toInt32) &&& (1431655765 : Int32))) &&& (858993459 : Int32)) + ((((y - (((y.toUInt32 >>> ((1 : Int32) &&& 31).toUInt32).toInt32) &&& (1431655765 : Int32))).toUInt32 >>> ((2 : Int32) &&& 31).toUInt32).toInt32) &&& (858993459 : Int32))) + (((((y - (((y.toUInt32 >>> ((1 : Int32) &&& 31).toUInt32).toInt32) &&& (1431655765 : Int32))) &&& (858993459 : Int32)) + ((((y - (((y.toUInt32 >>> ((1 : Int32) &&& 31).toUInt32).toInt32) &&& (1431655765 : Int32))).toUInt32 >>> ((2 : Int32) &&& 31).toUInt32).toInt32) &&& (858993459 : Int32))).toUInt32 >>> ((4 : Int32) &&& 31).toUInt32).toInt32)) &&& (252645135 : Int32)).toUInt32 >>> ((8 : Int32) &&& 31).toUInt32).toInt32)).toUInt32 >>> ((16 : Int32) &&& 31).toUInt32).toInt32)))]) rfl ?_
  refine g_iloadN C X0 d10_48 rfl ?_
  refine g_bipush 63 C X0 d10_49 rfl ?_
  refine g_iand C X0 d10_51 ?_
  exact g_retI C X0 d10_52 (by decide) (by decide) ⟨_, rfl, rfl⟩
theorem ef_rNZ (m : MethodId) (y : Int32) : entryFrame m #[(.int y)] 2 = mkF m 0 #[.val (.int y), .unset] [] := by first | (simp [entryFrame, mkF, argsToLocals, Value.category]; done) | rfl
theorem d26_0 : Dc jdk_33_method_48_code 0 (.iload_n 0) 1 1 := ⟨by decide +kernel, rfl⟩
theorem d26_1 : Dc jdk_33_method_48_code 1 (.iconst (-1)) 1 2 := ⟨by decide +kernel, rfl⟩
theorem d26_2 : Dc jdk_33_method_48_code 2 (.ixor) 1 3 := ⟨by decide +kernel, rfl⟩
theorem d26_3 : Dc jdk_33_method_48_code 3 (.iload_n 0) 1 4 := ⟨by decide +kernel, rfl⟩
theorem d26_4 : Dc jdk_33_method_48_code 4 (.iconst 1) 1 5 := ⟨by decide +kernel, rfl⟩
theorem d26_5 : Dc jdk_33_method_48_code 5 (.isub) 1 6 := ⟨by decide +kernel, rfl⟩
theorem d26_6 : Dc jdk_33_method_48_code 6 (.iand) 1 7 := ⟨by decide +kernel, rfl⟩
theorem d26_7 : Dc jdk_33_method_48_code 7 (.istore_n 0) 1 8 := ⟨by decide +kernel, rfl⟩
theorem d26_8 : Dc jdk_33_method_48_code 8 (.iload_n 0) 1 9 := ⟨by decide +kernel, rfl⟩
theorem d26_9 : Dj jdk_33_method_48_code 9 (.ifCond .gt 8) 8 3 12 17 := ⟨by decide +kernel, rfl, by decide, by decide⟩
theorem d26_17 : Dc jdk_33_method_48_code 17 (.iconst 1) 1 18 := ⟨by decide +kernel, rfl⟩
theorem d26_18 : Dc jdk_33_method_48_code 18 (.istore_n 1) 1 19 := ⟨by decide +kernel, rfl⟩
theorem d26_19 : Dc jdk_33_method_48_code 19 (.iload_n 0) 1 20 := ⟨by decide +kernel, rfl⟩
theorem d26_20 : Dc jdk_33_method_48_code 20 (.ldc_w 264) 3 23 := ⟨by decide +kernel, rfl⟩
theorem d26_23 : Dj jdk_33_method_48_code 23 (.if_icmp .le 11) 11 3 26 34 := ⟨by decide +kernel, rfl, by decide, by decide⟩
theorem d26_34 : Dc jdk_33_method_48_code 34 (.iload_n 0) 1 35 := ⟨by decide +kernel, rfl⟩
theorem d26_35 : Dc jdk_33_method_48_code 35 (.sipush 256) 3 38 := ⟨by decide +kernel, rfl⟩
theorem d26_38 : Dj jdk_33_method_48_code 38 (.if_icmp .le 11) 11 3 41 49 := ⟨by decide +kernel, rfl, by decide, by decide⟩
theorem d26_49 : Dc jdk_33_method_48_code 49 (.iload_n 0) 1 50 := ⟨by decide +kernel, rfl⟩
theorem d26_50 : Dc jdk_33_method_48_code 50 (.bipush 16) 2 52 := ⟨by decide +kernel, rfl⟩
theorem d26_52 : Dj jdk_33_method_48_code 52 (.if_icmp .le 10) 10 3 55 62 := ⟨by decide +kernel, rfl, by decide, by decide⟩
theorem d26_62 : Dc jdk_33_method_48_code 62 (.iload_n 0) 1 63 := ⟨by decide +kernel, rfl⟩
theorem d26_63 : Dc jdk_33_method_48_code 63 (.iconst 4) 1 64 := ⟨by decide +kernel, rfl⟩
theorem d26_64 : Dj jdk_33_method_48_code 64 (.if_icmp .le 10) 10 3 67 74 := ⟨by decide +kernel, rfl, by decide, by decide⟩
theorem d26_74 : Dc jdk_33_method_48_code 74 (.iload_n 1) 1 75 := ⟨by decide +kernel, rfl⟩
theorem d26_75 : Dc jdk_33_method_48_code 75 (.iload_n 0) 1 76 := ⟨by decide +kernel, rfl⟩
theorem d26_76 : Dc jdk_33_method_48_code 76 (.iconst 1) 1 77 := ⟨by decide +kernel, rfl⟩
theorem d26_77 : Dc jdk_33_method_48_code 77 (.iushr) 1 78 := ⟨by decide +kernel, rfl⟩
theorem d26_78 : Dc jdk_33_method_48_code 78 (.iadd) 1 79 := ⟨by decide +kernel, rfl⟩
theorem d26_79 : Dc jdk_33_method_48_code 79 (.ireturn) 1 80 := ⟨by decide +kernel, rfl⟩
theorem d26_67 : Dc jdk_33_method_48_code 67 (.iinc 1 2) 3 70 := ⟨by decide +kernel, rfl⟩
theorem d26_70 : Dc jdk_33_method_48_code 70 (.iload_n 0) 1 71 := ⟨by decide +kernel, rfl⟩
theorem d26_71 : Dc jdk_33_method_48_code 71 (.iconst 2) 1 72 := ⟨by decide +kernel, rfl⟩
theorem d26_72 : Dc jdk_33_method_48_code 72 (.iushr) 1 73 := ⟨by decide +kernel, rfl⟩
theorem d26_73 : Dc jdk_33_method_48_code 73 (.istore_n 0) 1 74 := ⟨by decide +kernel, rfl⟩
theorem d26_55 : Dc jdk_33_method_48_code 55 (.iinc 1 4) 3 58 := ⟨by decide +kernel, rfl⟩
theorem d26_58 : Dc jdk_33_method_48_code 58 (.iload_n 0) 1 59 := ⟨by decide +kernel, rfl⟩
theorem d26_59 : Dc jdk_33_method_48_code 59 (.iconst 4) 1 60 := ⟨by decide +kernel, rfl⟩
theorem d26_60 : Dc jdk_33_method_48_code 60 (.iushr) 1 61 := ⟨by decide +kernel, rfl⟩
theorem d26_61 : Dc jdk_33_method_48_code 61 (.istore_n 0) 1 62 := ⟨by decide +kernel, rfl⟩
theorem d26_41 : Dc jdk_33_method_48_code 41 (.iinc 1 8) 3 44 := ⟨by decide +kernel, rfl⟩
theorem d26_44 : Dc jdk_33_method_48_code 44 (.iload_n 0) 1 45 := ⟨by decide +kernel, rfl⟩
theorem d26_45 : Dc jdk_33_method_48_code 45 (.bipush 8) 2 47 := ⟨by decide +kernel, rfl⟩
theorem d26_47 : Dc jdk_33_method_48_code 47 (.iushr) 1 48 := ⟨by decide +kernel, rfl⟩
theorem d26_48 : Dc jdk_33_method_48_code 48 (.istore_n 0) 1 49 := ⟨by decide +kernel, rfl⟩
theorem d26_26 : Dc jdk_33_method_48_code 26 (.iinc 1 16) 3 29 := ⟨by decide +kernel, rfl⟩
theorem d26_29 : Dc jdk_33_method_48_code 29 (.iload_n 0) 1 30 := ⟨by decide +kernel, rfl⟩
theorem d26_30 : Dc jdk_33_method_48_code 30 (.bipush 16) 2 32 := ⟨by decide +kernel, rfl⟩
theorem d26_32 : Dc jdk_33_method_48_code 32 (.iushr) 1 33 := ⟨by decide +kernel, rfl⟩
theorem d26_33 : Dc jdk_33_method_48_code 33 (.istore_n 0) 1 34 := ⟨by decide +kernel, rfl⟩
theorem d26_12 : Dc jdk_33_method_48_code 12 (.iload_n 0) 1 13 := ⟨by decide +kernel, rfl⟩
theorem d26_13 : Dc jdk_33_method_48_code 13 (.bipush 32) 2 15 := ⟨by decide +kernel, rfl⟩
theorem d26_15 : Dc jdk_33_method_48_code 15 (.iand) 1 16 := ⟨by decide +kernel, rfl⟩
theorem d26_16 : Dc jdk_33_method_48_code 16 (.ireturn) 1 17 := ⟨by decide +kernel, rfl⟩
theorem rNZ (l : Launch) {Z : State} {a0 : Array Value} (hw : ∀ d ∈ tables_1, d.before a0 Z = true) {h : Heap} (hE : Ext Z.heap h) (y : Int32)   :
    Con l (⟨"java/lang/Integer", "numberOfTrailingZeros", "(I)I"⟩ : MethodName) jdk_33_method_48_code 2 (some .int) [] ({ frames := 0, cells := 0, slots := 0, locals := 0 } : Room) Z #[(.int y)] h (fun v' h' => ∃ r : Int32, v' = some (.int r) ∧ h' = h ∧ 0 ≤ r.toInt ∧ r.toInt ≤ 40) := by
  refine con_of (plainFor_of_name pn_0) hE (fun m => ef_rNZ m y) ?_
  intro p e s m below meth c T0 C X0
  have C : Cx p s m meth c Z "java/lang/Integer" "numberOfTrailingZeros" jdk_33_method_48_code 2 (some .int) := C
  show Goes p e below _ T0 (mkF m 0 #[.val (.int y), .unset] [])
  refine g_iloadN C X0 d26_0 rfl ?_
  refine g_iconst (-1) C X0 d26_1 rfl ?_
  refine g_ixor C X0 d26_2 ?_
  refine g_iloadN C X0 d26_3 rfl ?_
  refine g_iconst 1 C X0 d26_4 rfl ?_
  refine g_isub C X0 d26_5 ?_
  refine g_iand C X0 d26_6 ?_
  refine g_istoreN C X0 d26_7 (l' := #[.val (.int ((y ^^^ (-1 : Int32)) &&& (y - (1 : Int32)))), .unset]) rfl ?_
  obtain ⟨iv, hiv⟩ : ∃ z : Int32, ((y ^^^ (-1 : Int32)) &&& (y - (1 : Int32))) = z := ⟨_, rfl⟩
  rw [hiv]
  show Goes p e below _ T0 (mkF m 8 #[.val (.int iv), .unset] [])
  refine g_iloadN C X0 d26_8 rfl ?_
  refine g_if (h0_gt _) C X0 d26_9 (fun c9_1 => ?_) (fun c9_1 => ?_)
  · have b0 := own_lt' c9_1
    rw [show (0 : Int32).toInt = 0 from rfl] at b0
    have b1 := Int32.toInt_lt iv
    refine g_iconst 1 C X0 d26_17 rfl ?_
    refine g_istoreN C X0 d26_18 (l' := #[.val (.int iv), .val (.int 1)]) rfl ?_
    refine g_iloadN C X0 d26_19 rfl ?_
    refine g_ldcwI C X0 (wd hw 177 rfl) d26_20 ?_
    refine g_icmpn (hI_le _ _) C X0 d26_23 (fun c23_2 => ?_) (fun c23_2 => ?_)
    · have e3 := own_nlt' c23_2
      rw [show (65536 : Int32).toInt = 65536 from rfl] at e3
      refine g_iloadN C X0 d26_34 rfl ?_
      refine g_sipush 256 C X0 d26_35 rfl ?_
      refine g_icmpn (hI_le _ _) C X0 d26_38 (fun c38_4 => ?_) (fun c38_4 => ?_)
      · have e5 := own_nlt' c38_4
        rw [show (256 : Int32).toInt = 256 from rfl] at e5
        refine g_iloadN C X0 d26_49 rfl ?_
        refine g_bipush 16 C X0 d26_50 rfl ?_
        refine g_icmpn (hI_le _ _) C X0 d26_52 (fun c52_6 => ?_) (fun c52_6 => ?_)
        · have e7 := own_nlt' c52_6
          rw [show (16 : Int32).toInt = 16 from rfl] at e7
          refine g_iloadN C X0 d26_62 rfl ?_
          refine g_iconst 4 C X0 d26_63 rfl ?_
          refine g_icmpn (hI_le _ _) C X0 d26_64 (fun c64_8 => ?_) (fun c64_8 => ?_)
          · have e9 := own_nlt' c64_8
            rw [show (4 : Int32).toInt = 4 from rfl] at e9
            refine g_iloadN C X0 d26_74 rfl ?_
            refine g_iloadN C X0 d26_75 rfl ?_
            refine g_iconst 1 C X0 d26_76 rfl ?_
            refine g_iushr C X0 d26_77 ?_
            refine g_iadd C X0 d26_78 ?_
            have f0 := own_ush1 iv (by omega)
            have f1 := own_add (1 : Int32) _ (by rw [f0, show (1 : Int32).toInt = 1 from rfl]; omega) (by rw [f0, show (1 : Int32).toInt = 1 from rfl]; omega)
            rw [f0, show (1 : Int32).toInt = 1 from rfl] at f1
            exact g_retI C X0 d26_79 (by decide) (by decide) ⟨_, rfl, rfl, by rw [f1]; omega, by rw [f1]; omega⟩
          · refine g_iinc 2 C X0 d26_67 rfl rfl (l' := #[.val (.int iv), .val (.int 3)]) rfl ?_
            refine g_iloadN C X0 d26_70 rfl ?_
            refine g_iconst 2 C X0 d26_71 rfl ?_
            refine g_iushr C X0 d26_72 ?_
            refine g_istoreN C X0 d26_73 (l' := #[.val (.int ((iv.toUInt32 >>> ((2 : Int32) &&& 31).toUInt32).toInt32)), .val (.int 3)]) rfl ?_
            have e10 := own_ush2 iv (by omega)
            obtain ⟨iv10, hv10⟩ : ∃ z : Int32, ((iv.toUInt32 >>> ((2 : Int32) &&& 31).toUInt32).toInt32) = z := ⟨_, rfl⟩
            rw [hv10] at e10 ⊢
            show Goes p e below _ T0 (mkF m 74 #[.val (.int iv10), .val (.int 3)] [])
            refine g_iloadN C X0 d26_74 rfl ?_
            refine g_iloadN C X0 d26_75 rfl ?_
            refine g_iconst 1 C X0 d26_76 rfl ?_
            refine g_iushr C X0 d26_77 ?_
            refine g_iadd C X0 d26_78 ?_
            have f0 := own_ush1 iv10 (by omega)
            have f1 := own_add (3 : Int32) _ (by rw [f0, show (3 : Int32).toInt = 3 from rfl]; omega) (by rw [f0, show (3 : Int32).toInt = 3 from rfl]; omega)
            rw [f0, show (3 : Int32).toInt = 3 from rfl] at f1
            exact g_retI C X0 d26_79 (by decide) (by decide) ⟨_, rfl, rfl, by rw [f1]; omega, by rw [f1]; omega⟩
        · refine g_iinc 4 C X0 d26_55 rfl rfl (l' := #[.val (.int iv), .val (.int 5)]) rfl ?_
          refine g_iloadN C X0 d26_58 rfl ?_
          refine g_iconst 4 C X0 d26_59 rfl ?_
          refine g_iushr C X0 d26_60 ?_
          refine g_istoreN C X0 d26_61 (l' := #[.val (.int ((iv.toUInt32 >>> ((4 : Int32) &&& 31).toUInt32).toInt32)), .val (.int 5)]) rfl ?_
          have e11 := own_ush4 iv (by omega)
          obtain ⟨iv11, hv11⟩ : ∃ z : Int32, ((iv.toUInt32 >>> ((4 : Int32) &&& 31).toUInt32).toInt32) = z := ⟨_, rfl⟩
          rw [hv11] at e11 ⊢
          show Goes p e below _ T0 (mkF m 62 #[.val (.int iv11), .val (.int 5)] [])
          refine g_iloadN C X0 d26_62 rfl ?_
          refine g_iconst 4 C X0 d26_63 rfl ?_
          refine g_icmpn (hI_le _ _) C X0 d26_64 (fun c64_12 => ?_) (fun c64_12 => ?_)
          · have e13 := own_nlt' c64_12
            rw [show (4 : Int32).toInt = 4 from rfl] at e13
            refine g_iloadN C X0 d26_74 rfl ?_
            refine g_iloadN C X0 d26_75 rfl ?_
            refine g_iconst 1 C X0 d26_76 rfl ?_
            refine g_iushr C X0 d26_77 ?_
            refine g_iadd C X0 d26_78 ?_
            have f0 := own_ush1 iv11 (by omega)
            have f1 := own_add (5 : Int32) _ (by rw [f0, show (5 : Int32).toInt = 5 from rfl]; omega) (by rw [f0, show (5 : Int32).toInt = 5 from rfl]; omega)
            rw [f0, show (5 : Int32).toInt = 5 from rfl] at f1
            exact g_retI C X0 d26_79 (by decide) (by decide) ⟨_, rfl, rfl, by rw [f1]; omega, by rw [f1]; omega⟩
          · refine g_iinc 2 C X0 d26_67 rfl rfl (l' := #[.val (.int iv11), .val (.int 7)]) rfl ?_
            refine g_iloadN C X0 d26_70 rfl ?_
            refine g_iconst 2 C X0 d26_71 rfl ?_
            refine g_iushr C X0 d26_72 ?_
            refine g_istoreN C X0 d26_73 (l' := #[.val (.int ((iv11.toUInt32 >>> ((2 : Int32) &&& 31).toUInt32).toInt32)), .val (.int 7)]) rfl ?_
            have e14 := own_ush2 iv11 (by omega)
            obtain ⟨iv14, hv14⟩ : ∃ z : Int32, ((iv11.toUInt32 >>> ((2 : Int32) &&& 31).toUInt32).toInt32) = z := ⟨_, rfl⟩
            rw [hv14] at e14 ⊢
            show Goes p e below _ T0 (mkF m 74 #[.val (.int iv14), .val (.int 7)] [])
            refine g_iloadN C X0 d26_74 rfl ?_
            refine g_iloadN C X0 d26_75 rfl ?_
            refine g_iconst 1 C X0 d26_76 rfl ?_
            refine g_iushr C X0 d26_77 ?_
            refine g_iadd C X0 d26_78 ?_
            have f0 := own_ush1 iv14 (by omega)
            have f1 := own_add (7 : Int32) _ (by rw [f0, show (7 : Int32).toInt = 7 from rfl]; omega) (by rw [f0, show (7 : Int32).toInt = 7 from rfl]; omega)
            rw [f0, show (7 : Int32).toInt = 7 from rfl] at f1
            exact g_retI C X0 d26_79 (by decide) (by decide) ⟨_, rfl, rfl, by rw [f1]; omega, by rw [f1]; omega⟩
      · refine g_iinc 8 C X0 d26_41 rfl rfl (l' := #[.val (.int iv), .val (.int 9)]) rfl ?_
        refine g_iloadN C X0 d26_44 rfl ?_
        refine g_bipush 8 C X0 d26_45 rfl ?_
        refine g_iushr C X0 d26_47 ?_
        refine g_istoreN C X0 d26_48 (l' := #[.val (.int ((iv.toUInt32 >>> ((8 : Int32) &&& 31).toUInt32).toInt32)), .val (.int 9)]) rfl ?_
        have e15 := own_ush8 iv (by omega)
        obtain ⟨iv15, hv15⟩ : ∃ z : Int32, ((iv.toUInt32 >>> ((8 : Int32) &&& 31).toUInt32).toInt32) = z := ⟨_, rfl⟩
        rw [hv15] at e15 ⊢
        show Goes p e below _ T0 (mkF m 49 #[.val (.int iv15), .val (.int 9)] [])
        refine g_iloadN C X0 d26_49 rfl ?_
        refine g_bipush 16 C X0 d26_50 rfl ?_
        refine g_icmpn (hI_le _ _) C X0 d26_52 (fun c52_16 => ?_) (fun c52_16 => ?_)
        · have e17 := own_nlt' c52_16
          rw [show (16 : Int32).toInt = 16 from rfl] at e17
          refine g_iloadN C X0 d26_62 rfl ?_
          refine g_iconst 4 C X0 d26_63 rfl ?_
          refine g_icmpn (hI_le _ _) C X0 d26_64 (fun c64_18 => ?_) (fun c64_18 => ?_)
          · have e19 := own_nlt' c64_18
            rw [show (4 : Int32).toInt = 4 from rfl] at e19
            refine g_iloadN C X0 d26_74 rfl ?_
            refine g_iloadN C X0 d26_75 rfl ?_
            refine g_iconst 1 C X0 d26_76 rfl ?_
            refine g_iushr C X0 d26_77 ?_
            refine g_iadd C X0 d26_78 ?_
            have f0 := own_ush1 iv15 (by omega)
            have f1 := own_add (9 : Int32) _ (by rw [f0, show (9 : Int32).toInt = 9 from rfl]; omega) (by rw [f0, show (9 : Int32).toInt = 9 from rfl]; omega)
            rw [f0, show (9 : Int32).toInt = 9 from rfl] at f1
            exact g_retI C X0 d26_79 (by decide) (by decide) ⟨_, rfl, rfl, by rw [f1]; omega, by rw [f1]; omega⟩
          · refine g_iinc 2 C X0 d26_67 rfl rfl (l' := #[.val (.int iv15), .val (.int 11)]) rfl ?_
            refine g_iloadN C X0 d26_70 rfl ?_
            refine g_iconst 2 C X0 d26_71 rfl ?_
            refine g_iushr C X0 d26_72 ?_
            refine g_istoreN C X0 d26_73 (l' := #[.val (.int ((iv15.toUInt32 >>> ((2 : Int32) &&& 31).toUInt32).toInt32)), .val (.int 11)]) rfl ?_
            have e20 := own_ush2 iv15 (by omega)
            obtain ⟨iv20, hv20⟩ : ∃ z : Int32, ((iv15.toUInt32 >>> ((2 : Int32) &&& 31).toUInt32).toInt32) = z := ⟨_, rfl⟩
            rw [hv20] at e20 ⊢
            show Goes p e below _ T0 (mkF m 74 #[.val (.int iv20), .val (.int 11)] [])
            refine g_iloadN C X0 d26_74 rfl ?_
            refine g_iloadN C X0 d26_75 rfl ?_
            refine g_iconst 1 C X0 d26_76 rfl ?_
            refine g_iushr C X0 d26_77 ?_
            refine g_iadd C X0 d26_78 ?_
            have f0 := own_ush1 iv20 (by omega)
            have f1 := own_add (11 : Int32) _ (by rw [f0, show (11 : Int32).toInt = 11 from rfl]; omega) (by rw [f0, show (11 : Int32).toInt = 11 from rfl]; omega)
            rw [f0, show (11 : Int32).toInt = 11 from rfl] at f1
            exact g_retI C X0 d26_79 (by decide) (by decide) ⟨_, rfl, rfl, by rw [f1]; omega, by rw [f1]; omega⟩
        · refine g_iinc 4 C X0 d26_55 rfl rfl (l' := #[.val (.int iv15), .val (.int 13)]) rfl ?_
          refine g_iloadN C X0 d26_58 rfl ?_
          refine g_iconst 4 C X0 d26_59 rfl ?_
          refine g_iushr C X0 d26_60 ?_
          refine g_istoreN C X0 d26_61 (l' := #[.val (.int ((iv15.toUInt32 >>> ((4 : Int32) &&& 31).toUInt32).toInt32)), .val (.int 13)]) rfl ?_
          have e21 := own_ush4 iv15 (by omega)
          obtain ⟨iv21, hv21⟩ : ∃ z : Int32, ((iv15.toUInt32 >>> ((4 : Int32) &&& 31).toUInt32).toInt32) = z := ⟨_, rfl⟩
          rw [hv21] at e21 ⊢
          show Goes p e below _ T0 (mkF m 62 #[.val (.int iv21), .val (.int 13)] [])
          refine g_iloadN C X0 d26_62 rfl ?_
          refine g_iconst 4 C X0 d26_63 rfl ?_
          refine g_icmpn (hI_le _ _) C X0 d26_64 (fun c64_22 => ?_) (fun c64_22 => ?_)
          · have e23 := own_nlt' c64_22
            rw [show (4 : Int32).toInt = 4 from rfl] at e23
            refine g_iloadN C X0 d26_74 rfl ?_
            refine g_iloadN C X0 d26_75 rfl ?_
            refine g_iconst 1 C X0 d26_76 rfl ?_
            refine g_iushr C X0 d26_77 ?_
            refine g_iadd C X0 d26_78 ?_
            have f0 := own_ush1 iv21 (by omega)
            have f1 := own_add (13 : Int32) _ (by rw [f0, show (13 : Int32).toInt = 13 from rfl]; omega) (by rw [f0, show (13 : Int32).toInt = 13 from rfl]; omega)
            rw [f0, show (13 : Int32).toInt = 13 from rfl] at f1
            exact g_retI C X0 d26_79 (by decide) (by decide) ⟨_, rfl, rfl, by rw [f1]; omega, by rw [f1]; omega⟩
          · refine g_iinc 2 C X0 d26_67 rfl rfl (l' := #[.val (.int iv21), .val (.int 15)]) rfl ?_
            refine g_iloadN C X0 d26_70 rfl ?_
            refine g_iconst 2 C X0 d26_71 rfl ?_
            refine g_iushr C X0 d26_72 ?_
            refine g_istoreN C X0 d26_73 (l' := #[.val (.int ((iv21.toUInt32 >>> ((2 : Int32) &&& 31).toUInt32).toInt32)), .val (.int 15)]) rfl ?_
            have e24 := own_ush2 iv21 (by omega)
            obtain ⟨iv24, hv24⟩ : ∃ z : Int32, ((iv21.toUInt32 >>> ((2 : Int32) &&& 31).toUInt32).toInt32) = z := ⟨_, rfl⟩
            rw [hv24] at e24 ⊢
            show Goes p e below _ T0 (mkF m 74 #[.val (.int iv24), .val (.int 15)] [])
            refine g_iloadN C X0 d26_74 rfl ?_
            refine g_iloadN C X0 d26_75 rfl ?_
            refine g_iconst 1 C X0 d26_76 rfl ?_
            refine g_iushr C X0 d26_77 ?_
            refine g_iadd C X0 d26_78 ?_
            have f0 := own_ush1 iv24 (by omega)
            have f1 := own_add (15 : Int32) _ (by rw [f0, show (15 : Int32).toInt = 15 from rfl]; omega) (by rw [f0, show (15 : Int32).toInt = 15 from rfl]; omega)
            rw [f0, show (15 : Int32).toInt = 15 from rfl] at f1
            exact g_retI C X0 d26_79 (by decide) (by decide) ⟨_, rfl, rfl, by rw [f1]; omega, by rw [f1]; omega⟩
    · refine g_iinc 16 C X0 d26_26 rfl rfl (l' := #[.val (.int iv), .val (.int 17)]) rfl ?_
      refine g_iloadN C X0 d26_29 rfl ?_
      refine g_bipush 16 C X0 d26_30 rfl ?_
      refine g_iushr C X0 d26_32 ?_
      refine g_istoreN C X0 d26_33 (l' := #[.val (.int ((iv.toUInt32 >>> ((16 : Int32) &&& 31).toUInt32).toInt32)), .val (.int 17)]) rfl ?_
      have e25 := own_ush16 iv (by omega)
      obtain ⟨iv25, hv25⟩ : ∃ z : Int32, ((iv.toUInt32 >>> ((16 : Int32) &&& 31).toUInt32).toInt32) = z := ⟨_, rfl⟩
      rw [hv25] at e25 ⊢
      show Goes p e below _ T0 (mkF m 34 #[.val (.int iv25), .val (.int 17)] [])
      refine g_iloadN C X0 d26_34 rfl ?_
      refine g_sipush 256 C X0 d26_35 rfl ?_
      refine g_icmpn (hI_le _ _) C X0 d26_38 (fun c38_26 => ?_) (fun c38_26 => ?_)
      · have e27 := own_nlt' c38_26
        rw [show (256 : Int32).toInt = 256 from rfl] at e27
        refine g_iloadN C X0 d26_49 rfl ?_
        refine g_bipush 16 C X0 d26_50 rfl ?_
        refine g_icmpn (hI_le _ _) C X0 d26_52 (fun c52_28 => ?_) (fun c52_28 => ?_)
        · have e29 := own_nlt' c52_28
          rw [show (16 : Int32).toInt = 16 from rfl] at e29
          refine g_iloadN C X0 d26_62 rfl ?_
          refine g_iconst 4 C X0 d26_63 rfl ?_
          refine g_icmpn (hI_le _ _) C X0 d26_64 (fun c64_30 => ?_) (fun c64_30 => ?_)
          · have e31 := own_nlt' c64_30
            rw [show (4 : Int32).toInt = 4 from rfl] at e31
            refine g_iloadN C X0 d26_74 rfl ?_
            refine g_iloadN C X0 d26_75 rfl ?_
            refine g_iconst 1 C X0 d26_76 rfl ?_
            refine g_iushr C X0 d26_77 ?_
            refine g_iadd C X0 d26_78 ?_
            have f0 := own_ush1 iv25 (by omega)
            have f1 := own_add (17 : Int32) _ (by rw [f0, show (17 : Int32).toInt = 17 from rfl]; omega) (by rw [f0, show (17 : Int32).toInt = 17 from rfl]; omega)
            rw [f0, show (17 : Int32).toInt = 17 from rfl] at f1
            exact g_retI C X0 d26_79 (by decide) (by decide) ⟨_, rfl, rfl, by rw [f1]; omega, by rw [f1]; omega⟩
          · refine g_iinc 2 C X0 d26_67 rfl rfl (l' := #[.val (.int iv25), .val (.int 19)]) rfl ?_
            refine g_iloadN C X0 d26_70 rfl ?_
            refine g_iconst 2 C X0 d26_71 rfl ?_
            refine g_iushr C X0 d26_72 ?_
            refine g_istoreN C X0 d26_73 (l' := #[.val (.int ((iv25.toUInt32 >>> ((2 : Int32) &&& 31).toUInt32).toInt32)), .val (.int 19)]) rfl ?_
            have e32 := own_ush2 iv25 (by omega)
            obtain ⟨iv32, hv32⟩ : ∃ z : Int32, ((iv25.toUInt32 >>> ((2 : Int32) &&& 31).toUInt32).toInt32) = z := ⟨_, rfl⟩
            rw [hv32] at e32 ⊢
            show Goes p e below _ T0 (mkF m 74 #[.val (.int iv32), .val (.int 19)] [])
            refine g_iloadN C X0 d26_74 rfl ?_
            refine g_iloadN C X0 d26_75 rfl ?_
            refine g_iconst 1 C X0 d26_76 rfl ?_
            refine g_iushr C X0 d26_77 ?_
            refine g_iadd C X0 d26_78 ?_
            have f0 := own_ush1 iv32 (by omega)
            have f1 := own_add (19 : Int32) _ (by rw [f0, show (19 : Int32).toInt = 19 from rfl]; omega) (by rw [f0, show (19 : Int32).toInt = 19 from rfl]; omega)
            rw [f0, show (19 : Int32).toInt = 19 from rfl] at f1
            exact g_retI C X0 d26_79 (by decide) (by decide) ⟨_, rfl, rfl, by rw [f1]; omega, by rw [f1]; omega⟩
        · refine g_iinc 4 C X0 d26_55 rfl rfl (l' := #[.val (.int iv25), .val (.int 21)]) rfl ?_
          refine g_iloadN C X0 d26_58 rfl ?_
          refine g_iconst 4 C X0 d26_59 rfl ?_
          refine g_iushr C X0 d26_60 ?_
          refine g_istoreN C X0 d26_61 (l' := #[.val (.int ((iv25.toUInt32 >>> ((4 : Int32) &&& 31).toUInt32).toInt32)), .val (.int 21)]) rfl ?_
          have e33 := own_ush4 iv25 (by omega)
          obtain ⟨iv33, hv33⟩ : ∃ z : Int32, ((iv25.toUInt32 >>> ((4 : Int32) &&& 31).toUInt32).toInt32) = z := ⟨_, rfl⟩
          rw [hv33] at e33 ⊢
          show Goes p e below _ T0 (mkF m 62 #[.val (.int iv33), .val (.int 21)] [])
          refine g_iloadN C X0 d26_62 rfl ?_
          refine g_iconst 4 C X0 d26_63 rfl ?_
          refine g_icmpn (hI_le _ _) C X0 d26_64 (fun c64_34 => ?_) (fun c64_34 => ?_)
          · have e35 := own_nlt' c64_34
            rw [show (4 : Int32).toInt = 4 from rfl] at e35
            refine g_iloadN C X0 d26_74 rfl ?_
            refine g_iloadN C X0 d26_75 rfl ?_
            refine g_iconst 1 C X0 d26_76 rfl ?_
            refine g_iushr C X0 d26_77 ?_
            refine g_iadd C X0 d26_78 ?_
            have f0 := own_ush1 iv33 (by omega)
            have f1 := own_add (21 : Int32) _ (by rw [f0, show (21 : Int32).toInt = 21 from rfl]; omega) (by rw [f0, show (21 : Int32).toInt = 21 from rfl]; omega)
            rw [f0, show (21 : Int32).toInt = 21 from rfl] at f1
            exact g_retI C X0 d26_79 (by decide) (by decide) ⟨_, rfl, rfl, by rw [f1]; omega, by rw [f1]; omega⟩
          · refine g_iinc 2 C X0 d26_67 rfl rfl (l' := #[.val (.int iv33), .val (.int 23)]) rfl ?_
            refine g_iloadN C X0 d26_70 rfl ?_
            refine g_iconst 2 C X0 d26_71 rfl ?_
            refine g_iushr C X0 d26_72 ?_
            refine g_istoreN C X0 d26_73 (l' := #[.val (.int ((iv33.toUInt32 >>> ((2 : Int32) &&& 31).toUInt32).toInt32)), .val (.int 23)]) rfl ?_
            have e36 := own_ush2 iv33 (by omega)
            obtain ⟨iv36, hv36⟩ : ∃ z : Int32, ((iv33.toUInt32 >>> ((2 : Int32) &&& 31).toUInt32).toInt32) = z := ⟨_, rfl⟩
            rw [hv36] at e36 ⊢
            show Goes p e below _ T0 (mkF m 74 #[.val (.int iv36), .val (.int 23)] [])
            refine g_iloadN C X0 d26_74 rfl ?_
            refine g_iloadN C X0 d26_75 rfl ?_
            refine g_iconst 1 C X0 d26_76 rfl ?_
            refine g_iushr C X0 d26_77 ?_
            refine g_iadd C X0 d26_78 ?_
            have f0 := own_ush1 iv36 (by omega)
            have f1 := own_add (23 : Int32) _ (by rw [f0, show (23 : Int32).toInt = 23 from rfl]; omega) (by rw [f0, show (23 : Int32).toInt = 23 from rfl]; omega)
            rw [f0, show (23 : Int32).toInt = 23 from rfl] at f1
            exact g_retI C X0 d26_79 (by decide) (by decide) ⟨_, rfl, rfl, by rw [f1]; omega, by rw [f1]; omega⟩
      · refine g_iinc 8 C X0 d26_41 rfl rfl (l' := #[.val (.int iv25), .val (.int 25)]) rfl ?_
        refine g_iloadN C X0 d26_44 rfl ?_
        refine g_bipush 8 C X0 d26_45 rfl ?_
        refine g_iushr C X0 d26_47 ?_
        refine g_istoreN C X0 d26_48 (l' := #[.val (.int ((iv25.toUInt32 >>> ((8 : Int32) &&& 31).toUInt32).toInt32)), .val (.int 25)]) rfl ?_
        have e37 := own_ush8 iv25 (by omega)
        obtain ⟨iv37, hv37⟩ : ∃ z : Int32, ((iv25.toUInt32 >>> ((8 : Int32) &&& 31).toUInt32).toInt32) = z := ⟨_, rfl⟩
        rw [hv37] at e37 ⊢
        show Goes p e below _ T0 (mkF m 49 #[.val (.int iv37), .val (.int 25)] [])
        refine g_iloadN C X0 d26_49 rfl ?_
        refine g_bipush 16 C X0 d26_50 rfl ?_
        refine g_icmpn (hI_le _ _) C X0 d26_52 (fun c52_38 => ?_) (fun c52_38 => ?_)
        · have e39 := own_nlt' c52_38
          rw [show (16 : Int32).toInt = 16 from rfl] at e39
          refine g_iloadN C X0 d26_62 rfl ?_
          refine g_iconst 4 C X0 d26_63 rfl ?_
          refine g_icmpn (hI_le _ _) C X0 d26_64 (fun c64_40 => ?_) (fun c64_40 => ?_)
          · have e41 := own_nlt' c64_40
            rw [show (4 : Int32).toInt = 4 from rfl] at e41
            refine g_iloadN C X0 d26_74 rfl ?_
            refine g_iloadN C X0 d26_75 rfl ?_
            refine g_iconst 1 C X0 d26_76 rfl ?_
            refine g_iushr C X0 d26_77 ?_
            refine g_iadd C X0 d26_78 ?_
            have f0 := own_ush1 iv37 (by omega)
            have f1 := own_add (25 : Int32) _ (by rw [f0, show (25 : Int32).toInt = 25 from rfl]; omega) (by rw [f0, show (25 : Int32).toInt = 25 from rfl]; omega)
            rw [f0, show (25 : Int32).toInt = 25 from rfl] at f1
            exact g_retI C X0 d26_79 (by decide) (by decide) ⟨_, rfl, rfl, by rw [f1]; omega, by rw [f1]; omega⟩
          · refine g_iinc 2 C X0 d26_67 rfl rfl (l' := #[.val (.int iv37), .val (.int 27)]) rfl ?_
            refine g_iloadN C X0 d26_70 rfl ?_
            refine g_iconst 2 C X0 d26_71 rfl ?_
            refine g_iushr C X0 d26_72 ?_
            refine g_istoreN C X0 d26_73 (l' := #[.val (.int ((iv37.toUInt32 >>> ((2 : Int32) &&& 31).toUInt32).toInt32)), .val (.int 27)]) rfl ?_
            have e42 := own_ush2 iv37 (by omega)
            obtain ⟨iv42, hv42⟩ : ∃ z : Int32, ((iv37.toUInt32 >>> ((2 : Int32) &&& 31).toUInt32).toInt32) = z := ⟨_, rfl⟩
            rw [hv42] at e42 ⊢
            show Goes p e below _ T0 (mkF m 74 #[.val (.int iv42), .val (.int 27)] [])
            refine g_iloadN C X0 d26_74 rfl ?_
            refine g_iloadN C X0 d26_75 rfl ?_
            refine g_iconst 1 C X0 d26_76 rfl ?_
            refine g_iushr C X0 d26_77 ?_
            refine g_iadd C X0 d26_78 ?_
            have f0 := own_ush1 iv42 (by omega)
            have f1 := own_add (27 : Int32) _ (by rw [f0, show (27 : Int32).toInt = 27 from rfl]; omega) (by rw [f0, show (27 : Int32).toInt = 27 from rfl]; omega)
            rw [f0, show (27 : Int32).toInt = 27 from rfl] at f1
            exact g_retI C X0 d26_79 (by decide) (by decide) ⟨_, rfl, rfl, by rw [f1]; omega, by rw [f1]; omega⟩
        · refine g_iinc 4 C X0 d26_55 rfl rfl (l' := #[.val (.int iv37), .val (.int 29)]) rfl ?_
          refine g_iloadN C X0 d26_58 rfl ?_
          refine g_iconst 4 C X0 d26_59 rfl ?_
          refine g_iushr C X0 d26_60 ?_
          refine g_istoreN C X0 d26_61 (l' := #[.val (.int ((iv37.toUInt32 >>> ((4 : Int32) &&& 31).toUInt32).toInt32)), .val (.int 29)]) rfl ?_
          have e43 := own_ush4 iv37 (by omega)
          obtain ⟨iv43, hv43⟩ : ∃ z : Int32, ((iv37.toUInt32 >>> ((4 : Int32) &&& 31).toUInt32).toInt32) = z := ⟨_, rfl⟩
          rw [hv43] at e43 ⊢
          show Goes p e below _ T0 (mkF m 62 #[.val (.int iv43), .val (.int 29)] [])
          refine g_iloadN C X0 d26_62 rfl ?_
          refine g_iconst 4 C X0 d26_63 rfl ?_
          refine g_icmpn (hI_le _ _) C X0 d26_64 (fun c64_44 => ?_) (fun c64_44 => ?_)
          · have e45 := own_nlt' c64_44
            rw [show (4 : Int32).toInt = 4 from rfl] at e45
            refine g_iloadN C X0 d26_74 rfl ?_
            refine g_iloadN C X0 d26_75 rfl ?_
            refine g_iconst 1 C X0 d26_76 rfl ?_
            refine g_iushr C X0 d26_77 ?_
            refine g_iadd C X0 d26_78 ?_
            have f0 := own_ush1 iv43 (by omega)
            have f1 := own_add (29 : Int32) _ (by rw [f0, show (29 : Int32).toInt = 29 from rfl]; omega) (by rw [f0, show (29 : Int32).toInt = 29 from rfl]; omega)
            rw [f0, show (29 : Int32).toInt = 29 from rfl] at f1
            exact g_retI C X0 d26_79 (by decide) (by decide) ⟨_, rfl, rfl, by rw [f1]; omega, by rw [f1]; omega⟩
          · refine g_iinc 2 C X0 d26_67 rfl rfl (l' := #[.val (.int iv43), .val (.int 31)]) rfl ?_
            refine g_iloadN C X0 d26_70 rfl ?_
            refine g_iconst 2 C X0 d26_71 rfl ?_
            refine g_iushr C X0 d26_72 ?_
            refine g_istoreN C X0 d26_73 (l' := #[.val (.int ((iv43.toUInt32 >>> ((2 : Int32) &&& 31).toUInt32).toInt32)), .val (.int 31)]) rfl ?_
            have e46 := own_ush2 iv43 (by omega)
            obtain ⟨iv46, hv46⟩ : ∃ z : Int32, ((iv43.toUInt32 >>> ((2 : Int32) &&& 31).toUInt32).toInt32) = z := ⟨_, rfl⟩
            rw [hv46] at e46 ⊢
            show Goes p e below _ T0 (mkF m 74 #[.val (.int iv46), .val (.int 31)] [])
            refine g_iloadN C X0 d26_74 rfl ?_
            refine g_iloadN C X0 d26_75 rfl ?_
            refine g_iconst 1 C X0 d26_76 rfl ?_
            refine g_iushr C X0 d26_77 ?_
            refine g_iadd C X0 d26_78 ?_
            have f0 := own_ush1 iv46 (by omega)
            have f1 := own_add (31 : Int32) _ (by rw [f0, show (31 : Int32).toInt = 31 from rfl]; omega) (by rw [f0, show (31 : Int32).toInt = 31 from rfl]; omega)
            rw [f0, show (31 : Int32).toInt = 31 from rfl] at f1
            exact g_retI C X0 d26_79 (by decide) (by decide) ⟨_, rfl, rfl, by rw [f1]; omega, by rw [f1]; omega⟩
  · refine g_iloadN C X0 d26_12 rfl ?_
    refine g_bipush 32 C X0 d26_13 rfl ?_
    refine g_iand C X0 d26_15 ?_
    exact g_retI C X0 d26_16 (by decide) (by decide) ⟨_, rfl, rfl, (own_and32 iv).1, Int.le_trans (own_and32 iv).2 (by decide)⟩
theorem ef_rMin (m : MethodId) (xa : Int32) (xb : Int32) : entryFrame m #[(.int xa), (.int xb)] 2 = mkF m 0 #[.val (.int xa), .val (.int xb)] [] := by first | (simp [entryFrame, mkF, argsToLocals, Value.category]; done) | rfl
theorem d14_0 : Dc jdk_29_method_69_code 0 (.iload_n 0) 1 1 := ⟨by decide +kernel, rfl⟩
theorem d14_1 : Dc jdk_29_method_69_code 1 (.iload_n 1) 1 2 := ⟨by decide +kernel, rfl⟩
theorem d14_2 : Dj jdk_29_method_69_code 2 (.if_icmp .gt 7) 7 3 5 9 := ⟨by decide +kernel, rfl, by decide, by decide⟩
theorem d14_5 : Dc jdk_29_method_69_code 5 (.iload_n 0) 1 6 := ⟨by decide +kernel, rfl⟩
theorem d14_6 : Dj jdk_29_method_69_code 6 (.goto 4) 4 3 9 10 := ⟨by decide +kernel, rfl, by decide, by decide⟩
theorem d14_10 : Dc jdk_29_method_69_code 10 (.ireturn) 1 11 := ⟨by decide +kernel, rfl⟩
theorem rMin (l : Launch) {Z : State} {a0 : Array Value} (hw : ∀ d ∈ tables_1, d.before a0 Z = true) {h : Heap} (hE : Ext Z.heap h) (xa : Int32) (xb : Int32)  (hm : ¬ xb < xa) :
    Con l (⟨"java/lang/Math", "min", "(II)I"⟩ : MethodName) jdk_29_method_69_code 2 (some .int) [] ({ frames := 0, cells := 0, slots := 0, locals := 0 } : Room) Z #[(.int xa), (.int xb)] h (fun v' h' => v' = some (.int xa) ∧ h' = h) := by
  refine con_of (Jvm.Free.JP.mathPlain rfl (by decide +kernel)) hE (fun m => ef_rMin m xa xb) ?_
  intro p e s m below meth c T0 C X0
  have C : Cx p s m meth c Z "java/lang/Math" "min" jdk_29_method_69_code 2 (some .int) := C
  show Goes p e below _ T0 (mkF m 0 #[.val (.int xa), .val (.int xb)] [])
  refine g_iloadN C X0 d14_0 rfl ?_
  refine g_iloadN C X0 d14_1 rfl ?_
  refine g_icmp (hI_gt _ _) C X0 d14_2 (fun q => absurd q hm) (fun _ => ?_)
  refine g_iloadN C X0 d14_5 rfl ?_
  refine g_goto C X0 d14_6 ?_
  exact g_retI C X0 d14_10 (by decide) (by decide) ⟨rfl, rfl⟩
theorem pn_1 : plainName "java/util/Arrays" = true := by first | (simp [plainName, overriddenIn]; done) | decide +kernel
theorem ef_rCL (m : MethodId) (fa : Int32) (fb : Int32) : entryFrame m #[(.int fa), (.int fb)] 2 = mkF m 0 #[.val (.int fa), .val (.int fb)] [] := by first | (simp [entryFrame, mkF, argsToLocals, Value.category]; done) | rfl
theorem d13_0 : Dc jdk_65_method_131_code 0 (.iload_n 1) 1 1 := ⟨by decide +kernel, rfl⟩
theorem d13_1 : Dc jdk_65_method_131_code 1 (.iload_n 0) 1 2 := ⟨by decide +kernel, rfl⟩
theorem d13_2 : Dj jdk_65_method_131_code 2 (.if_icmp .ge 35) 35 3 5 37 := ⟨by decide +kernel, rfl, by decide, by decide⟩
theorem d13_37 : Dc jdk_65_method_131_code 37 (.return_) 1 38 := ⟨by decide +kernel, rfl⟩
theorem rCL (l : Launch) {Z : State} {a0 : Array Value} (hw : ∀ d ∈ tables_1, d.before a0 Z = true) {h : Heap} (hE : Ext Z.heap h) (fa : Int32) (fb : Int32)  (hm : ¬ fb < fa) :
    Con l (⟨"java/util/Arrays", "checkLength", "(II)V"⟩ : MethodName) jdk_65_method_131_code 2 none [] ({ frames := 0, cells := 0, slots := 0, locals := 0 } : Room) Z #[(.int fa), (.int fb)] h (fun v' h' => v' = none ∧ h' = h) := by
  refine con_of (plainFor_of_name pn_1) hE (fun m => ef_rCL m fa fb) ?_
  intro p e s m below meth c T0 C X0
  have C : Cx p s m meth c Z "java/util/Arrays" "checkLength" jdk_65_method_131_code 2 none := C
  show Goes p e below _ T0 (mkF m 0 #[.val (.int fa), .val (.int fb)] [])
  refine g_iloadN C X0 d13_0 rfl ?_
  refine g_iloadN C X0 d13_1 rfl ?_
  refine g_icmpn (hI_ge _ _) C X0 d13_2 (fun _ => ?_) (fun q => absurd q hm)
  exact g_retV C X0 d13_37 (by decide) (by decide) ⟨rfl, rfl⟩
theorem ef_rCRI (m : MethodId) (ar : Addr) (f_ : Int32) (nn : Int32) : entryFrame m #[(.ref ar), (.int f_), (.int nn)] 5 = mkF m 0 #[.val (.ref ar), .val (.int f_), .val (.int nn), .unset, .unset] [] := by first | (simp [entryFrame, mkF, argsToLocals, Value.category]; done) | rfl
theorem d12_0 : Dc jdk_65_method_137_code 0 (.iload_n 1) 1 1 := ⟨by decide +kernel, rfl⟩
theorem d12_1 : Dc jdk_65_method_137_code 1 (.iload_n 2) 1 2 := ⟨by decide +kernel, rfl⟩
theorem d12_2 : Dc jdk_65_method_137_code 2 (.invokestatic 343) 3 5 := ⟨by decide +kernel, rfl⟩
theorem pd_0 : parseMethodDescriptor "(II)V" = some ⟨[.int, .int], none⟩ := by decide +kernel
theorem d12_5 : Dc jdk_65_method_137_code 5 (.iload_n 2) 1 6 := ⟨by decide +kernel, rfl⟩
theorem d12_6 : Dc jdk_65_method_137_code 6 (.iload_n 1) 1 7 := ⟨by decide +kernel, rfl⟩
theorem d12_7 : Dc jdk_65_method_137_code 7 (.isub) 1 8 := ⟨by decide +kernel, rfl⟩
theorem d12_8 : Dc jdk_65_method_137_code 8 (.istore_n 3) 1 9 := ⟨by decide +kernel, rfl⟩
theorem d12_9 : Dc jdk_65_method_137_code 9 (.iload_n 3) 1 10 := ⟨by decide +kernel, rfl⟩
theorem d12_10 : Dc jdk_65_method_137_code 10 (.newarray .int) 2 12 := ⟨by decide +kernel, rfl⟩
theorem d12_12 : Dc jdk_65_method_137_code 12 (.astore 4) 2 14 := ⟨by decide +kernel, rfl⟩
theorem d12_14 : Dc jdk_65_method_137_code 14 (.aload_n 0) 1 15 := ⟨by decide +kernel, rfl⟩
theorem d12_15 : Dc jdk_65_method_137_code 15 (.iload_n 1) 1 16 := ⟨by decide +kernel, rfl⟩
theorem d12_16 : Dc jdk_65_method_137_code 16 (.aload 4) 2 18 := ⟨by decide +kernel, rfl⟩
theorem d12_18 : Dc jdk_65_method_137_code 18 (.iconst 0) 1 19 := ⟨by decide +kernel, rfl⟩
theorem d12_19 : Dc jdk_65_method_137_code 19 (.aload_n 0) 1 20 := ⟨by decide +kernel, rfl⟩
theorem d12_20 : Dc jdk_65_method_137_code 20 (.arraylength) 1 21 := ⟨by decide +kernel, rfl⟩
theorem d12_21 : Dc jdk_65_method_137_code 21 (.iload_n 1) 1 22 := ⟨by decide +kernel, rfl⟩
theorem d12_22 : Dc jdk_65_method_137_code 22 (.isub) 1 23 := ⟨by decide +kernel, rfl⟩
theorem d12_23 : Dc jdk_65_method_137_code 23 (.iload_n 3) 1 24 := ⟨by decide +kernel, rfl⟩
theorem d12_24 : Dc jdk_65_method_137_code 24 (.invokestatic 304) 3 27 := ⟨by decide +kernel, rfl⟩
theorem pd_1 : parseMethodDescriptor "(II)I" = some ⟨[.int, .int], some .int⟩ := by decide +kernel
theorem d12_27 : Dc jdk_65_method_137_code 27 (.invokestatic 150) 3 30 := ⟨by decide +kernel, rfl⟩
theorem d12_30 : Dc jdk_65_method_137_code 30 (.aload 4) 2 32 := ⟨by decide +kernel, rfl⟩
theorem d12_32 : Dc jdk_65_method_137_code 32 (.areturn) 1 33 := ⟨by decide +kernel, rfl⟩
theorem rCRI (l : Launch) {Z : State} {a0 : Array Value} (hw : ∀ d ∈ tables_1, d.before a0 Z = true) {h : Heap} (hE : Ext Z.heap h) (ar : Addr) (f_ : Int32) (nn : Int32)  (VA : IaS Z h ar nn) (k0 : 1 ≤ f_.toInt) (k1 : f_.toInt ≤ nn.toInt) (k2 : nn.toInt ≤ 20) :
    Con l (⟨"java/util/Arrays", "copyOfRangeInt", "([III)[I"⟩ : MethodName) jdk_65_method_137_code 5 (some (.array .int)) [] ({ frames := 1, cells := 1, slots := 20, locals := 24 } : Room) Z #[(.ref ar), (.int f_), (.int nn)] h (fun v' h' => ∃ br, v' = some (.ref br) ∧ Z.heap.size ≤ br ∧ h.size ≤ br ∧ Ext h h' ∧ IaS Z h' br (nn - f_)) := by
  refine con_of (plainFor_of_name pn_1) hE (fun m => ef_rCRI m ar f_ nn) ?_
  intro p e s m below meth c T0 C X0
  have C : Cx p s m meth c Z "java/util/Arrays" "copyOfRangeInt" jdk_65_method_137_code 5 (some (.array .int)) := C
  show Goes p e below _ T0 (mkF m 0 #[.val (.ref ar), .val (.int f_), .val (.int nn), .unset, .unset] [])
  have a1 := own_sub nn f_ (by omega) (by omega)
  refine g_iloadN C X0 d12_0 rfl ?_
  refine g_iloadN C X0 d12_1 rfl ?_
  refine g_staticPV (argsL := [(.int f_), (.int nn)]) (st := []) C X0 (wd hw 106 rfl) (wd hw 107 rfl) (wd hw 101 rfl) (wd hw 108 rfl) (by decide) (pay_of (W' := 0) (rCL l hw X0.ext f_ nn (own_nlt (by omega))) C.hZ (wd hw 108 rfl) (wd hw 101 rfl) (by decide) (by decide)) pd_0 rfl rfl _ rfl (Nat.le_of_eq rfl) d12_2 (by decide) (by decide) (fun T47 X47 => ?_)
  refine g_iloadN C X47 d12_5 rfl ?_
  refine g_iloadN C X47 d12_6 rfl ?_
  refine g_isub C X47 d12_7 ?_
  refine g_istoreN C X47 d12_8 (l' := #[.val (.ref ar), .val (.int f_), .val (.int nn), .val (.int (nn - f_)), .unset]) rfl ?_
  refine g_iloadN C X47 d12_9 rfl ?_
  refine g_newarrayI C X47 (wd hw 97 rfl) d12_10 (own_nn (by omega)) 20 (by have := own_tn (x := nn - f_) (by omega); omega) (by decide) (by decide) (by decide) (fun T48 h48 b48 g_b48 n_b48 X48 E48 V48 => ?_)
  have lt49 : ar < b48 := by rw [g_b48]; exact IaS.lt VA
  refine g_astore C X48 d12_12 rfl (l' := #[.val (.ref ar), .val (.int f_), .val (.int nn), .val (.int (nn - f_)), .val (.ref b48)]) rfl ?_
  refine g_aloadN C X48 d12_14 rfl rfl ?_
  refine g_iloadN C X48 d12_15 rfl ?_
  refine g_aload C X48 d12_16 rfl rfl ?_
  refine g_iconst 0 C X48 d12_18 rfl ?_
  refine g_aloadN C X48 d12_19 rfl rfl ?_
  have f50 := (IaS.ext VA E48)
  refine g_arraylengthI C X48 f50 d12_20 ?_
  refine g_iloadN C X48 d12_21 rfl ?_
  refine g_isub C X48 d12_22 ?_
  refine g_iloadN C X48 d12_23 rfl ?_
  refine g_staticP (argsL := [(.int (nn - f_)), (.int (nn - f_))]) (st := [(.int 0), (.ref b48), (.int f_), (.ref ar)]) C X48 (wd hw 109 rfl) (wd hw 110 rfl) (wd hw 111 rfl) (wd hw 112 rfl) (by decide) (pay_of (W' := 4) (rMin l hw X48.ext (nn - f_) (nn - f_) Int32.lt_irrefl) C.hZ (wd hw 112 rfl) (wd hw 111 rfl) (by decide) (by decide)) pd_1 rfl rfl _ rfl (Nat.le_of_eq rfl) d12_24 (by decide) (by decide) (fun T51 X51 => ?_)
  refine g_arraycopyI C X51 (wd hw 113 rfl) (wd hw 116 rfl) (wd hw 114 rfl) (wd hw 115 rfl) f50 V48 (by omega) (by decide) (by omega) (by omega) (by rw [show (0 : Int32).toInt = 0 from rfl]; omega) n_b48 rfl d12_27 (by decide) 0 (Nat.le_of_eq rfl) (by decide) (fun T52 h52 X52 K52 V52 => ?_)
  show Goes p e below _ T52 (mkF m 30 #[.val (.ref ar), .val (.int f_), .val (.int nn), .val (.int (nn - f_)), .val (.ref b48)] [])
  refine g_aload C X52 d12_30 rfl rfl ?_
  have sz53 : h.size ≤ b48 := by rw [g_b48]; exact (Keep.refl h []).1
  have kp54 := (Keep.refl h []).ext E48
  have kp55 := kp54.trans K52 (allS (Or.inr sz53) all0)
  exact g_retA C X52 rfl rfl d12_32 (by decide) (by decide) ⟨b48, rfl, n_b48, sz53, keep_ext kp55, Ia.toS V52⟩
theorem ef_rCR (m : MethodId) (ar : Addr) (f_ : Int32) (nn : Int32) : entryFrame m #[(.ref ar), (.int f_), (.int nn)] 3 = mkF m 0 #[.val (.ref ar), .val (.int f_), .val (.int nn)] [] := by first | (simp [entryFrame, mkF, argsToLocals, Value.category]; done) | rfl
theorem d11_0 : Dc jdk_65_method_136_code 0 (.iload_n 1) 1 1 := ⟨by decide +kernel, rfl⟩
theorem d11_1 : Dj jdk_65_method_136_code 1 (.ifCond .ne 9) 9 3 4 10 := ⟨by decide +kernel, rfl, by decide, by decide⟩
theorem d11_10 : Dc jdk_65_method_136_code 10 (.aload_n 0) 1 11 := ⟨by decide +kernel, rfl⟩
theorem d11_11 : Dc jdk_65_method_136_code 11 (.iload_n 1) 1 12 := ⟨by decide +kernel, rfl⟩
theorem d11_12 : Dc jdk_65_method_136_code 12 (.iload_n 2) 1 13 := ⟨by decide +kernel, rfl⟩
theorem d11_13 : Dc jdk_65_method_136_code 13 (.invokestatic 351) 3 16 := ⟨by decide +kernel, rfl⟩
theorem pd_2 : parseMethodDescriptor "([III)[I" = some ⟨[(.array .int), .int, .int], some (.array .int)⟩ := by decide +kernel
theorem d11_16 : Dc jdk_65_method_136_code 16 (.areturn) 1 17 := ⟨by decide +kernel, rfl⟩
theorem rCR (l : Launch) {Z : State} {a0 : Array Value} (hw : ∀ d ∈ tables_1, d.before a0 Z = true) {h : Heap} (hE : Ext Z.heap h) (ar : Addr) (f_ : Int32) (nn : Int32)  (VA : IaS Z h ar nn) (k0 : 1 ≤ f_.toInt) (k1 : f_.toInt ≤ nn.toInt) (k2 : nn.toInt ≤ 20) :
    Con l (⟨"java/util/Arrays", "copyOfRange", "([III)[I"⟩ : MethodName) jdk_65_method_136_code 3 (some (.array .int)) [] ({ frames := 2, cells := 1, slots := 20, locals := 48 } : Room) Z #[(.ref ar), (.int f_), (.int nn)] h (fun v' h' => ∃ br, v' = some (.ref br) ∧ Z.heap.size ≤ br ∧ h.size ≤ br ∧ Ext h h' ∧ IaS Z h' br (nn - f_)) := by
  refine con_of (plainFor_of_name pn_1) hE (fun m => ef_rCR m ar f_ nn) ?_
  intro p e s m below meth c T0 C X0
  have C : Cx p s m meth c Z "java/util/Arrays" "copyOfRange" jdk_65_method_136_code 3 (some (.array .int)) := C
  show Goes p e below _ T0 (mkF m 0 #[.val (.ref ar), .val (.int f_), .val (.int nn)] [])
  refine g_iloadN C X0 d11_0 rfl ?_
  refine g_ifn (h0_ne _) C X0 d11_1 (fun _ => ?_) (fun q => absurd q (own_ne (by rw [show (0 : Int32).toInt = 0 from rfl]; omega)))
  refine g_aloadN C X0 d11_10 rfl rfl ?_
  refine g_iloadN C X0 d11_11 rfl ?_
  refine g_iloadN C X0 d11_12 rfl ?_
  refine g_static (argsL := [(.ref ar), (.int f_), (.int nn)]) (st := []) C X0 (wd hw 103 rfl) (wd hw 104 rfl) (wd hw 101 rfl) (wd hw 105 rfl) (by decide) (pay_of (W' := 0) (rCRI l hw X0.ext ar f_ nn VA k0 k1 k2) C.hZ (wd hw 105 rfl) (wd hw 101 rfl) (by decide) (by decide)) pd_2 rfl rfl _ rfl (Nat.le_of_eq rfl) d11_13 (by decide) (by decide) (fun T56 h56 v56 q56 X56 => ?_)
  obtain ⟨b56, rfl, n_b56, g56, E56, V56⟩ := q56
  have lt57 : ar < b56 := Nat.lt_of_lt_of_le (IaS.lt VA) g56
  show Goes p e below _ T56 (mkF m 16 #[.val (.ref ar), .val (.int f_), .val (.int nn)] [(.ref b56)])
  have sz58 : h.size ≤ b56 := Nat.le_trans (Keep.refl h []).1 g56
  have kp59 := (Keep.refl h []).ext E56
  exact g_retA C X56 rfl rfl d11_16 (by decide) (by decide) ⟨b56, rfl, n_b56, sz58, keep_ext kp59, V56⟩
theorem pn_2 : plainName "java/lang/Number" = true := by first | (simp [plainName, overriddenIn]; done) | decide +kernel
theorem ef_rNum (m : MethodId) (a : Addr) : entryFrame m #[(.ref a)] 1 = mkF m 0 #[.val (.ref a)] [] := by first | (simp [entryFrame, mkF, argsToLocals, Value.category]; done) | rfl
theorem d16_0 : Dc jdk_18_method_1_code 0 (.aload_n 0) 1 1 := ⟨by decide +kernel, rfl⟩
theorem d16_1 : Dc jdk_18_method_1_code 1 (.invokespecial 1) 3 4 := ⟨by decide +kernel, rfl⟩
theorem d16_4 : Dc jdk_18_method_1_code 4 (.return_) 1 5 := ⟨by decide +kernel, rfl⟩
theorem rNum (l : Launch) {Z : State} {a0 : Array Value} (hw : ∀ d ∈ tables_1, d.before a0 Z = true) {h : Heap} (hE : Ext Z.heap h) (a : Addr)   :
    Con l (⟨"java/lang/Number", "<init>", "()V"⟩ : MethodName) jdk_18_method_1_code 1 none [] ({ frames := 1, cells := 0, slots := 0, locals := 24 } : Room) Z #[(.ref a)] h (fun v' h' => v' = none ∧ h' = h) := by
  refine con_of (plainFor_of_name pn_2) hE (fun m => ef_rNum m a) ?_
  intro p e s m below meth c T0 C X0
  have C : Cx p s m meth c Z "java/lang/Number" "<init>" jdk_18_method_1_code 1 none := C
  show Goes p e below _ T0 (mkF m 0 #[.val (.ref a)] [])
  refine g_aloadN C X0 d16_0 rfl rfl ?_
  refine g_initO C X0 (wd hw 129 rfl) (wd hw 33 rfl) (wd hw 34 rfl) rfl d16_1 (by decide) 0 (Nat.le_of_eq rfl) (by decide) (fun T60 X60 => ?_)
  exact g_retV C X60 d16_4 (by decide) (by decide) ⟨rfl, rfl⟩
theorem pn_3 : plainName "java/math/BigInteger" = true := by first | (simp [plainName, overriddenIn]; done) | decide +kernel
theorem ef_rBA (m : MethodId) (x : Addr) (mg : Addr) : entryFrame m #[(.ref x), (.ref mg), (.int 1)] 3 = mkF m 0 #[.val (.ref x), .val (.ref mg), .val (.int 1)] [] := by first | (simp [entryFrame, mkF, argsToLocals, Value.category]; done) | rfl
theorem d15_0 : Dc jdk_2097_method_25_code 0 (.aload_n 0) 1 1 := ⟨by decide +kernel, rfl⟩
theorem d15_1 : Dc jdk_2097_method_25_code 1 (.invokespecial 3) 3 4 := ⟨by decide +kernel, rfl⟩
theorem pd_3 : parseMethodDescriptor "()V" = some ⟨[], none⟩ := by decide +kernel
theorem d15_4 : Dc jdk_2097_method_25_code 4 (.aload_n 0) 1 5 := ⟨by decide +kernel, rfl⟩
theorem d15_5 : Dc jdk_2097_method_25_code 5 (.aload_n 1) 1 6 := ⟨by decide +kernel, rfl⟩
theorem d15_6 : Dc jdk_2097_method_25_code 6 (.arraylength) 1 7 := ⟨by decide +kernel, rfl⟩
theorem d15_7 : Dj jdk_2097_method_25_code 7 (.ifCond .ne 7) 7 3 10 14 := ⟨by decide +kernel, rfl, by decide, by decide⟩
theorem d15_14 : Dc jdk_2097_method_25_code 14 (.iload_n 2) 1 15 := ⟨by decide +kernel, rfl⟩
theorem d15_15 : Dc jdk_2097_method_25_code 15 (.putfield 32) 3 18 := ⟨by decide +kernel, rfl⟩
theorem d15_18 : Dc jdk_2097_method_25_code 18 (.aload_n 0) 1 19 := ⟨by decide +kernel, rfl⟩
theorem d15_19 : Dc jdk_2097_method_25_code 19 (.aload_n 1) 1 20 := ⟨by decide +kernel, rfl⟩
theorem d15_20 : Dc jdk_2097_method_25_code 20 (.putfield 28) 3 23 := ⟨by decide +kernel, rfl⟩
theorem d15_23 : Dc jdk_2097_method_25_code 23 (.aload_n 0) 1 24 := ⟨by decide +kernel, rfl⟩
theorem d15_24 : Dc jdk_2097_method_25_code 24 (.getfield 28) 3 27 := ⟨by decide +kernel, rfl⟩
theorem d15_27 : Dc jdk_2097_method_25_code 27 (.arraylength) 1 28 := ⟨by decide +kernel, rfl⟩
theorem d15_28 : Dc jdk_2097_method_25_code 28 (.ldc 43) 2 30 := ⟨by decide +kernel, rfl⟩
theorem d15_30 : Dj jdk_2097_method_25_code 30 (.if_icmp .lt 7) 7 3 33 37 := ⟨by decide +kernel, rfl, by decide, by decide⟩
theorem d15_37 : Dc jdk_2097_method_25_code 37 (.return_) 1 38 := ⟨by decide +kernel, rfl⟩
theorem d15_10 : Dc jdk_2097_method_25_code 10 (.iconst 0) 1 11 := ⟨by decide +kernel, rfl⟩
theorem d15_11 : Dj jdk_2097_method_25_code 11 (.goto 4) 4 3 14 15 := ⟨by decide +kernel, rfl, by decide, by decide⟩
theorem rBA (l : Launch) {Z : State} {a0 : Array Value} (hw : ∀ d ∈ tables_1, d.before a0 Z = true) {h : Heap} (hE : Ext Z.heap h) (x : Addr) (mg : Addr) (nn : Int32) (EX : Exa Z h x "java/math/BigInteger") (FS : Fld Z h x "java/math/BigInteger" "signum" "I" (.int (0 : Int32))) (FM : Fld Z h x "java/math/BigInteger" "mag" "[I" .null) (nx : Z.heap.size ≤ x) (VM : IaS Z h mg nn) (k2 : nn.toInt ≤ 20) :
    Con l (⟨"java/math/BigInteger", "<init>", "([II)V"⟩ : MethodName) jdk_2097_method_25_code 3 none [] ({ frames := 2, cells := 0, slots := 0, locals := 48 } : Room) Z #[(.ref x), (.ref mg), (.int 1)] h (fun v' h' => v' = none ∧ Keep h h' [x] ∧ Exa Z h' x "java/math/BigInteger" ∧ ∃ sg : Int32, Fld Z h' x "java/math/BigInteger" "signum" "I" (.int sg) ∧ Fld Z h' x "java/math/BigInteger" "mag" "[I" (.ref mg) ∧ (sg = 0 ∨ (sg = 1 ∧ 1 ≤ nn.toInt))) := by
  refine con_of (plainFor_of_name pn_3) hE (fun m => ef_rBA m x mg) ?_
  intro p e s m below meth c T0 C X0
  have C : Cx p s m meth c Z "java/math/BigInteger" "<init>" jdk_2097_method_25_code 3 none := C
  show Goes p e below _ T0 (mkF m 0 #[.val (.ref x), .val (.ref mg), .val (.int 1)] [])
  refine g_aloadN C X0 d15_0 rfl rfl ?_
  refine g_specialP (argsL := []) (st := []) C X0 rfl (wd hw 123 rfl) (wd hw 124 rfl) (wd hw 128 rfl) (by decide) (pay_of (W' := 0) (rNum l hw X0.ext x) C.hZ (wd hw 128 rfl) (wd hw 127 rfl) (by decide) (by decide)) pd_3 rfl rfl _ rfl (Nat.le_of_eq rfl) d15_1 (by decide) (by decide) (fun T61 X61 => ?_)
  refine g_aloadN C X61 d15_4 rfl rfl ?_
  refine g_aloadN C X61 d15_5 rfl rfl ?_
  refine g_arraylengthI C X61 VM d15_6 ?_
  refine g_ifn (h0_ne _) C X61 d15_7 (fun c7_62 => ?_) (fun c7_62 => ?_)
  · refine g_iloadN C X61 d15_14 rfl ?_
    refine g_putfield (host := "") C X61 (Or.inl (wd hw 84 rfl)) Via.refl FS EX (Or.inr ⟨(wd hw 85 rfl), rfl, rfl⟩) (wd hw 118 rfl) (ty := .int) (by decide) rfl rfl nx d15_15 (fun T63 h63 X63 W63 => ?_)
    have f63 := Fld.same W63 FS
    refine g_aloadN C X63 d15_18 rfl rfl ?_
    refine g_aloadN C X63 d15_19 rfl rfl ?_
    have f64 := (Fld.other W63 FM (Or.inr (slot_ne (Or.inr (wd hw 87 rfl)) (Or.inr (wd hw 85 rfl)) (by decide) (t := (.array .int)) (t' := .int) (by decide) (by decide))))
    have f65 := (Exa.wr W63 EX)
    refine g_putfield (host := "") C X63 (Or.inl (wd hw 86 rfl)) Via.refl f64 f65 (Or.inr ⟨(wd hw 87 rfl), rfl, rfl⟩) (wd hw 118 rfl) (ty := (.array .int)) (by decide) rfl rfl nx d15_20 (fun T66 h66 X66 W66 => ?_)
    have f66 := Fld.same W66 f64
    refine g_aloadN C X66 d15_23 rfl rfl ?_
    refine g_getfield (host := "") C X66 (Or.inl (wd hw 86 rfl)) Via.refl f66 d15_24 (fun T67 X67 => ?_)
    have f68 := (IaS.other (IaS.other VM W63 (Ne.symm (by obtain ⟨k, vs, dv, A⟩ := VM; exact EX.neArv A (wd hw 118 rfl)))) W66 (Ne.symm (by obtain ⟨k, vs, dv, A⟩ := VM; exact EX.neArv A (wd hw 118 rfl))))
    refine g_arraylengthI C X67 f68 d15_27 ?_
    refine g_ldcI C X67 (wd hw 130 rfl) d15_28 ?_
    refine g_icmp (hI_lt _ _) C X67 d15_30 (fun _ => ?_) (fun q => absurd (own_lt (by rw [show (67108864 : Int32).toInt = 67108864 from rfl]; omega)) q)
    have kp69 := (Keep.refl h [x]).wr W63 (Or.inl (by simp))
    have kp70 := kp69.wr W66 (Or.inl (by simp))
    have f71 := (Exa.wr W66 f65)
    have f72 := (Fld.other W66 f63 (Or.inr (slot_ne (Or.inr (wd hw 85 rfl)) (Or.inr (wd hw 87 rfl)) (by decide) (t := .int) (t' := (.array .int)) (by decide) (by decide))))
    exact g_retV C X67 d15_37 (by decide) (by decide) ⟨rfl, kp70, f71, (1 : Int32), f72, f66, (Or.inr ⟨rfl, by have q0 := own_ne' c7_62; rw [show (0 : Int32).toInt = 0 from rfl] at q0; have q1 := VM.len; omega⟩)⟩
  · refine g_iconst 0 C X61 d15_10 rfl ?_
    refine g_goto C X61 d15_11 ?_
    refine g_putfield (host := "") C X61 (Or.inl (wd hw 84 rfl)) Via.refl FS EX (Or.inr ⟨(wd hw 85 rfl), rfl, rfl⟩) (wd hw 118 rfl) (ty := .int) (by decide) rfl rfl nx d15_15 (fun T73 h73 X73 W73 => ?_)
    have f73 := Fld.same W73 FS
    refine g_aloadN C X73 d15_18 rfl rfl ?_
    refine g_aloadN C X73 d15_19 rfl rfl ?_
    have f74 := (Fld.other W73 FM (Or.inr (slot_ne (Or.inr (wd hw 87 rfl)) (Or.inr (wd hw 85 rfl)) (by decide) (t := (.array .int)) (t' := .int) (by decide) (by decide))))
    have f75 := (Exa.wr W73 EX)
    refine g_putfield (host := "") C X73 (Or.inl (wd hw 86 rfl)) Via.refl f74 f75 (Or.inr ⟨(wd hw 87 rfl), rfl, rfl⟩) (wd hw 118 rfl) (ty := (.array .int)) (by decide) rfl rfl nx d15_20 (fun T76 h76 X76 W76 => ?_)
    have f76 := Fld.same W76 f74
    refine g_aloadN C X76 d15_23 rfl rfl ?_
    refine g_getfield (host := "") C X76 (Or.inl (wd hw 86 rfl)) Via.refl f76 d15_24 (fun T77 X77 => ?_)
    have f78 := (IaS.other (IaS.other VM W73 (Ne.symm (by obtain ⟨k, vs, dv, A⟩ := VM; exact EX.neArv A (wd hw 118 rfl)))) W76 (Ne.symm (by obtain ⟨k, vs, dv, A⟩ := VM; exact EX.neArv A (wd hw 118 rfl))))
    refine g_arraylengthI C X77 f78 d15_27 ?_
    refine g_ldcI C X77 (wd hw 130 rfl) d15_28 ?_
    refine g_icmp (hI_lt _ _) C X77 d15_30 (fun _ => ?_) (fun q => absurd (own_lt (by rw [show (67108864 : Int32).toInt = 67108864 from rfl]; omega)) q)
    have kp79 := (Keep.refl h [x]).wr W73 (Or.inl (by simp))
    have kp80 := kp79.wr W76 (Or.inl (by simp))
    have f81 := (Exa.wr W76 f75)
    have f82 := (Fld.other W76 f73 (Or.inr (slot_ne (Or.inr (wd hw 85 rfl)) (Or.inr (wd hw 87 rfl)) (by decide) (t := .int) (t' := (.array .int)) (by decide) (by decide))))
    exact g_retV C X77 d15_37 (by decide) (by decide) ⟨rfl, kp80, f81, (0 : Int32), f82, f76, (Or.inl rfl)⟩
theorem ef_rBJ (m : MethodId) (x : Addr) (q : Int64) : entryFrame m #[(.ref x), (.long q)] 4 = mkF m 0 #[.val (.ref x), .val (.long q), .second, .unset] [] := by first | (simp [entryFrame, mkF, argsToLocals, Value.category]; done) | rfl
theorem d20_0 : Dc jdk_2097_method_30_code 0 (.aload_n 0) 1 1 := ⟨by decide +kernel, rfl⟩
theorem d20_1 : Dc jdk_2097_method_30_code 1 (.invokespecial 3) 3 4 := ⟨by decide +kernel, rfl⟩
theorem d20_4 : Dc jdk_2097_method_30_code 4 (.lload_n 1) 1 5 := ⟨by decide +kernel, rfl⟩
theorem d20_5 : Dc jdk_2097_method_30_code 5 (.lconst 0) 1 6 := ⟨by decide +kernel, rfl⟩
theorem d20_6 : Dc jdk_2097_method_30_code 6 (.lcmp) 1 7 := ⟨by decide +kernel, rfl⟩
theorem d20_7 : Dj jdk_2097_method_30_code 7 (.ifCond .ge 14) 14 3 10 21 := ⟨by decide +kernel, rfl, by decide, by decide⟩
theorem d20_21 : Dc jdk_2097_method_30_code 21 (.aload_n 0) 1 22 := ⟨by decide +kernel, rfl⟩
theorem d20_22 : Dc jdk_2097_method_30_code 22 (.iconst 1) 1 23 := ⟨by decide +kernel, rfl⟩
theorem d20_23 : Dc jdk_2097_method_30_code 23 (.putfield 32) 3 26 := ⟨by decide +kernel, rfl⟩
theorem d20_26 : Dc jdk_2097_method_30_code 26 (.lload_n 1) 1 27 := ⟨by decide +kernel, rfl⟩
theorem d20_27 : Dc jdk_2097_method_30_code 27 (.bipush 32) 2 29 := ⟨by decide +kernel, rfl⟩
theorem d20_29 : Dc jdk_2097_method_30_code 29 (.lushr) 1 30 := ⟨by decide +kernel, rfl⟩
theorem d20_30 : Dc jdk_2097_method_30_code 30 (.l2i) 1 31 := ⟨by decide +kernel, rfl⟩
theorem d20_31 : Dc jdk_2097_method_30_code 31 (.istore_n 3) 1 32 := ⟨by decide +kernel, rfl⟩
theorem d20_32 : Dc jdk_2097_method_30_code 32 (.iload_n 3) 1 33 := ⟨by decide +kernel, rfl⟩
theorem d20_33 : Dj jdk_2097_method_30_code 33 (.ifCond .ne 21) 21 3 36 54 := ⟨by decide +kernel, rfl, by decide, by decide⟩
theorem d20_54 : Dc jdk_2097_method_30_code 54 (.aload_n 0) 1 55 := ⟨by decide +kernel, rfl⟩
theorem d20_55 : Dc jdk_2097_method_30_code 55 (.iconst 2) 1 56 := ⟨by decide +kernel, rfl⟩
theorem d20_56 : Dc jdk_2097_method_30_code 56 (.newarray .int) 2 58 := ⟨by decide +kernel, rfl⟩
theorem d20_58 : Dc jdk_2097_method_30_code 58 (.putfield 28) 3 61 := ⟨by decide +kernel, rfl⟩
theorem d20_61 : Dc jdk_2097_method_30_code 61 (.aload_n 0) 1 62 := ⟨by decide +kernel, rfl⟩
theorem d20_62 : Dc jdk_2097_method_30_code 62 (.getfield 28) 3 65 := ⟨by decide +kernel, rfl⟩
theorem d20_65 : Dc jdk_2097_method_30_code 65 (.iconst 0) 1 66 := ⟨by decide +kernel, rfl⟩
theorem d20_66 : Dc jdk_2097_method_30_code 66 (.iload_n 3) 1 67 := ⟨by decide +kernel, rfl⟩
theorem d20_67 : Dc jdk_2097_method_30_code 67 (.iastore) 1 68 := ⟨by decide +kernel, rfl⟩
theorem d20_68 : Dc jdk_2097_method_30_code 68 (.aload_n 0) 1 69 := ⟨by decide +kernel, rfl⟩
theorem d20_69 : Dc jdk_2097_method_30_code 69 (.getfield 28) 3 72 := ⟨by decide +kernel, rfl⟩
theorem d20_72 : Dc jdk_2097_method_30_code 72 (.iconst 1) 1 73 := ⟨by decide +kernel, rfl⟩
theorem d20_73 : Dc jdk_2097_method_30_code 73 (.lload_n 1) 1 74 := ⟨by decide +kernel, rfl⟩
theorem d20_74 : Dc jdk_2097_method_30_code 74 (.l2i) 1 75 := ⟨by decide +kernel, rfl⟩
theorem d20_75 : Dc jdk_2097_method_30_code 75 (.iastore) 1 76 := ⟨by decide +kernel, rfl⟩
theorem d20_76 : Dc jdk_2097_method_30_code 76 (.return_) 1 77 := ⟨by decide +kernel, rfl⟩
theorem d20_36 : Dc jdk_2097_method_30_code 36 (.aload_n 0) 1 37 := ⟨by decide +kernel, rfl⟩
theorem d20_37 : Dc jdk_2097_method_30_code 37 (.iconst 1) 1 38 := ⟨by decide +kernel, rfl⟩
theorem d20_38 : Dc jdk_2097_method_30_code 38 (.newarray .int) 2 40 := ⟨by decide +kernel, rfl⟩
theorem d20_40 : Dc jdk_2097_method_30_code 40 (.putfield 28) 3 43 := ⟨by decide +kernel, rfl⟩
theorem d20_43 : Dc jdk_2097_method_30_code 43 (.aload_n 0) 1 44 := ⟨by decide +kernel, rfl⟩
theorem d20_44 : Dc jdk_2097_method_30_code 44 (.getfield 28) 3 47 := ⟨by decide +kernel, rfl⟩
theorem d20_47 : Dc jdk_2097_method_30_code 47 (.iconst 0) 1 48 := ⟨by decide +kernel, rfl⟩
theorem d20_48 : Dc jdk_2097_method_30_code 48 (.lload_n 1) 1 49 := ⟨by decide +kernel, rfl⟩
theorem d20_49 : Dc jdk_2097_method_30_code 49 (.l2i) 1 50 := ⟨by decide +kernel, rfl⟩
theorem d20_50 : Dc jdk_2097_method_30_code 50 (.iastore) 1 51 := ⟨by decide +kernel, rfl⟩
theorem d20_51 : Dj jdk_2097_method_30_code 51 (.goto 25) 25 3 54 76 := ⟨by decide +kernel, rfl, by decide, by decide⟩
theorem rBJ (l : Launch) {Z : State} {a0 : Array Value} (hw : ∀ d ∈ tables_1, d.before a0 Z = true) {h : Heap} (hE : Ext Z.heap h) (x : Addr) (q : Int64)  (EX : Exa Z h x "java/math/BigInteger") (FS : Fld Z h x "java/math/BigInteger" "signum" "I" (.int (0 : Int32))) (FM : Fld Z h x "java/math/BigInteger" "mag" "[I" .null) (nx : Z.heap.size ≤ x) (hq : ¬ q < (0 : Int64)) :
    Con l (⟨"java/math/BigInteger", "<init>", "(J)V"⟩ : MethodName) jdk_2097_method_30_code 4 none [] ({ frames := 2, cells := 1, slots := 2, locals := 48 } : Room) Z #[(.ref x), (.long q)] h (fun v' h' => v' = none ∧ Keep h h' [x] ∧ Exa Z h' x "java/math/BigInteger" ∧ ∃ (mg : Addr) (nn : Int32), Fld Z h' x "java/math/BigInteger" "signum" "I" (.int (1 : Int32)) ∧ Fld Z h' x "java/math/BigInteger" "mag" "[I" (.ref mg) ∧ IaS Z h' mg nn ∧ 1 ≤ nn.toInt ∧ nn.toInt ≤ 2) := by
  refine con_of (plainFor_of_name pn_3) hE (fun m => ef_rBJ m x q) ?_
  intro p e s m below meth c T0 C X0
  have C : Cx p s m meth c Z "java/math/BigInteger" "<init>" jdk_2097_method_30_code 4 none := C
  show Goes p e below _ T0 (mkF m 0 #[.val (.ref x), .val (.long q), .second, .unset] [])
  refine g_aloadN C X0 d20_0 rfl rfl ?_
  refine g_specialP (argsL := []) (st := []) C X0 rfl (wd hw 123 rfl) (wd hw 124 rfl) (wd hw 128 rfl) (by decide) (pay_of (W' := 0) (rNum l hw X0.ext x) C.hZ (wd hw 128 rfl) (wd hw 127 rfl) (by decide) (by decide)) pd_3 rfl rfl _ rfl (Nat.le_of_eq rfl) d20_1 (by decide) (by decide) (fun T83 X83 => ?_)
  refine g_lloadN C X83 d20_4 rfl ?_
  refine g_lconst 0 C X83 d20_5 rfl ?_
  refine g_lcmp C X83 d20_6 ?_
  refine g_ifn (hL_ge _ _) C X83 d20_7 (fun _ => ?_) (fun q => absurd q hq)
  refine g_aloadN C X83 d20_21 rfl rfl ?_
  refine g_iconst 1 C X83 d20_22 rfl ?_
  refine g_putfield (host := "") C X83 (Or.inl (wd hw 84 rfl)) Via.refl FS EX (Or.inr ⟨(wd hw 85 rfl), rfl, rfl⟩) (wd hw 118 rfl) (ty := .int) (by decide) rfl rfl nx d20_23 (fun T84 h84 X84 W84 => ?_)
  have f84 := Fld.same W84 FS
  refine g_lloadN C X84 d20_26 rfl ?_
  refine g_bipush 32 C X84 d20_27 rfl ?_
  refine g_lushr C X84 d20_29 ?_
  refine g_l2i C X84 d20_30 ?_
  refine g_istoreN C X84 d20_31 (l' := #[.val (.ref x), .val (.long q), .second, .val (.int (((q.toUInt64 >>> ((32 : Int32) &&& 0x3f).toInt64.toUInt64).toInt64).toInt32))]) rfl ?_
  refine g_iloadN C X84 d20_32 rfl ?_
  refine g_ifn (h0_ne _) C X84 d20_33 (fun c33_85 => ?_) (fun c33_85 => ?_)
  · refine g_aloadN C X84 d20_54 rfl rfl ?_
    refine g_iconst 2 C X84 d20_55 rfl ?_
    refine g_newarrayI C X84 (wd hw 97 rfl) d20_56 (by decide) 2 (by decide) (by decide) (by decide) (by decide) (fun T86 h86 b86 g_b86 n_b86 X86 E86 V86 => ?_)
    have f87 := (Exa.wr W84 EX)
    have lt88 : x < b86 := by rw [g_b86]; exact Exa.lt f87
    have f89 := (Fld.ext E86 (Fld.other W84 FM (Or.inr (slot_ne (Or.inr (wd hw 87 rfl)) (Or.inr (wd hw 85 rfl)) (by decide) (t := (.array .int)) (t' := .int) (by decide) (by decide)))))
    have f90 := (Exa.ext E86 f87)
    refine g_putfield (host := "") C X86 (Or.inl (wd hw 86 rfl)) Via.refl f89 f90 (Or.inr ⟨(wd hw 87 rfl), rfl, rfl⟩) (wd hw 118 rfl) (ty := (.array .int)) (by decide) rfl rfl nx d20_58 (fun T91 h91 X91 W91 => ?_)
    have f91 := Fld.same W91 f89
    refine g_aloadN C X91 d20_61 rfl rfl ?_
    refine g_getfield (host := "") C X91 (Or.inl (wd hw 86 rfl)) Via.refl f91 d20_62 (fun T92 X92 => ?_)
    refine g_iconst 0 C X92 d20_65 rfl ?_
    refine g_iloadN C X92 d20_66 rfl ?_
    have f93 := (Ia.other V86 W91 (Nat.ne_of_gt lt88))
    refine g_iastoreI C X92 f93 n_b86 d20_67 (by decide) (by decide) (fun T94 h94 X94 W94 V94 => ?_)
    refine g_aloadN C X94 d20_68 rfl rfl ?_
    have f95 := (Fld.other W94 f91 (Or.inl (Nat.ne_of_lt lt88)))
    refine g_getfield (host := "") C X94 (Or.inl (wd hw 86 rfl)) Via.refl f95 d20_69 (fun T96 X96 => ?_)
    refine g_iconst 1 C X96 d20_72 rfl ?_
    refine g_lloadN C X96 d20_73 rfl ?_
    refine g_l2i C X96 d20_74 ?_
    refine g_iastoreI C X96 V94 n_b86 d20_75 (by decide) (by decide) (fun T97 h97 X97 W97 V97 => ?_)
    have kp98 := (Keep.refl h [x]).wr W84 (Or.inl (by simp))
    have sz99 : h.size ≤ b86 := by rw [g_b86]; exact kp98.1
    have kp100 := kp98.ext E86
    have kp101 := kp100.wr W91 (Or.inl (by simp))
    have kp102 := kp101.wr W94 (Or.inr sz99)
    have kp103 := kp102.wr W97 (Or.inr sz99)
    have f104 := (Exa.wr W97 (Exa.wr W94 (Exa.wr W91 f90)))
    have f105 := (Fld.other W97 (Fld.other W94 (Fld.other W91 (Fld.ext E86 f84) (Or.inr (slot_ne (Or.inr (wd hw 85 rfl)) (Or.inr (wd hw 87 rfl)) (by decide) (t := .int) (t' := (.array .int)) (by decide) (by decide)))) (Or.inl (Nat.ne_of_lt lt88))) (Or.inl (Nat.ne_of_lt lt88)))
    have f106 := (Fld.other W97 f95 (Or.inl (Nat.ne_of_lt lt88)))
    exact g_retV C X97 d20_76 (by decide) (by decide) ⟨rfl, kp103, f104, b86, (2 : Int32), f105, f106, (Ia.toS V97), by decide, by decide⟩
  · refine g_aloadN C X84 d20_36 rfl rfl ?_
    refine g_iconst 1 C X84 d20_37 rfl ?_
    refine g_newarrayI C X84 (wd hw 97 rfl) d20_38 (by decide) 1 (by decide) (by decide) (by decide) (by decide) (fun T107 h107 b107 g_b107 n_b107 X107 E107 V107 => ?_)
    have f108 := (Exa.wr W84 EX)
    have lt109 : x < b107 := by rw [g_b107]; exact Exa.lt f108
    have f110 := (Fld.ext E107 (Fld.other W84 FM (Or.inr (slot_ne (Or.inr (wd hw 87 rfl)) (Or.inr (wd hw 85 rfl)) (by decide) (t := (.array .int)) (t' := .int) (by decide) (by decide)))))
    have f111 := (Exa.ext E107 f108)
    refine g_putfield (host := "") C X107 (Or.inl (wd hw 86 rfl)) Via.refl f110 f111 (Or.inr ⟨(wd hw 87 rfl), rfl, rfl⟩) (wd hw 118 rfl) (ty := (.array .int)) (by decide) rfl rfl nx d20_40 (fun T112 h112 X112 W112 => ?_)
    have f112 := Fld.same W112 f110
    refine g_aloadN C X112 d20_43 rfl rfl ?_
    refine g_getfield (host := "") C X112 (Or.inl (wd hw 86 rfl)) Via.refl f112 d20_44 (fun T113 X113 => ?_)
    refine g_iconst 0 C X113 d20_47 rfl ?_
    refine g_lloadN C X113 d20_48 rfl ?_
    refine g_l2i C X113 d20_49 ?_
    have f114 := (Ia.other V107 W112 (Nat.ne_of_gt lt109))
    refine g_iastoreI C X113 f114 n_b107 d20_50 (by decide) (by decide) (fun T115 h115 X115 W115 V115 => ?_)
    refine g_goto C X115 d20_51 ?_
    have kp116 := (Keep.refl h [x]).wr W84 (Or.inl (by simp))
    have sz117 : h.size ≤ b107 := by rw [g_b107]; exact kp116.1
    have kp118 := kp116.ext E107
    have kp119 := kp118.wr W112 (Or.inl (by simp))
    have kp120 := kp119.wr W115 (Or.inr sz117)
    have f121 := (Exa.wr W115 (Exa.wr W112 f111))
    have f122 := (Fld.other W115 (Fld.other W112 (Fld.ext E107 f84) (Or.inr (slot_ne (Or.inr (wd hw 85 rfl)) (Or.inr (wd hw 87 rfl)) (by decide) (t := .int) (t' := (.array .int)) (by decide) (by decide)))) (Or.inl (Nat.ne_of_lt lt109)))
    have f123 := (Fld.other W115 f112 (Or.inl (Nat.ne_of_lt lt109)))
    exact g_retV C X115 d20_76 (by decide) (by decide) ⟨rfl, kp120, f121, b107, (1 : Int32), f122, f123, (Ia.toS V115), by decide, by decide⟩
theorem own_ge64 {q : Int64} (hq : ¬ q < (0 : Int64)) : 0 ≤ q.toInt := by
  rw [Int64.lt_iff_toInt_lt, show (0 : Int64).toInt = 0 from rfl] at hq; omega
theorem own_pos64 {q : Int64} (h : 0 ≤ q.toInt) (h1 : ¬ q = (0 : Int64)) : (0 : Int64) < q := by
  rw [Int64.lt_iff_toInt_lt, show (0 : Int64).toInt = 0 from rfl]
  have : q.toInt ≠ 0 := fun z => h1 (Int64.toInt_inj.mp z)
  omega
theorem ef_rVO (m : MethodId) (q : Int64) : entryFrame m #[(.long q)] 2 = mkF m 0 #[.val (.long q), .second] [] := by first | (simp [entryFrame, mkF, argsToLocals, Value.category]; done) | rfl
theorem d6_0 : Dc jdk_2097_method_29_code 0 (.lload_n 0) 1 1 := ⟨by decide +kernel, rfl⟩
theorem d6_1 : Dc jdk_2097_method_29_code 1 (.lconst 0) 1 2 := ⟨by decide +kernel, rfl⟩
theorem d6_2 : Dc jdk_2097_method_29_code 2 (.lcmp) 1 3 := ⟨by decide +kernel, rfl⟩
theorem d6_3 : Dj jdk_2097_method_29_code 3 (.ifCond .ne 7) 7 3 6 10 := ⟨by decide +kernel, rfl, by decide, by decide⟩
theorem d6_10 : Dc jdk_2097_method_29_code 10 (.lload_n 0) 1 11 := ⟨by decide +kernel, rfl⟩
theorem d6_11 : Dc jdk_2097_method_29_code 11 (.lconst 0) 1 12 := ⟨by decide +kernel, rfl⟩
theorem d6_12 : Dc jdk_2097_method_29_code 12 (.lcmp) 1 13 := ⟨by decide +kernel, rfl⟩
theorem d6_13 : Dj jdk_2097_method_29_code 13 (.ifCond .le 18) 18 3 16 31 := ⟨by decide +kernel, rfl, by decide, by decide⟩
theorem d6_16 : Dc jdk_2097_method_29_code 16 (.lload_n 0) 1 17 := ⟨by decide +kernel, rfl⟩
theorem d6_17 : Dc jdk_2097_method_29_code 17 (.ldc2_w 345) 3 20 := ⟨by decide +kernel, rfl⟩
theorem d6_20 : Dc jdk_2097_method_29_code 20 (.lcmp) 1 21 := ⟨by decide +kernel, rfl⟩
theorem d6_21 : Dj jdk_2097_method_29_code 21 (.ifCond .gt 10) 10 3 24 31 := ⟨by decide +kernel, rfl, by decide, by decide⟩
theorem d6_31 : Dc jdk_2097_method_29_code 31 (.lload_n 0) 1 32 := ⟨by decide +kernel, rfl⟩
theorem d6_32 : Dc jdk_2097_method_29_code 32 (.lconst 0) 1 33 := ⟨by decide +kernel, rfl⟩
theorem d6_33 : Dc jdk_2097_method_29_code 33 (.lcmp) 1 34 := ⟨by decide +kernel, rfl⟩
theorem d6_34 : Dj jdk_2097_method_29_code 34 (.ifCond .ge 19) 19 3 37 53 := ⟨by decide +kernel, rfl, by decide, by decide⟩
theorem d6_53 : Dc jdk_2097_method_29_code 53 (.new 23) 3 56 := ⟨by decide +kernel, rfl⟩
theorem d6_56 : Dc jdk_2097_method_29_code 56 (.dup) 1 57 := ⟨by decide +kernel, rfl⟩
theorem d6_57 : Dc jdk_2097_method_29_code 57 (.lload_n 0) 1 58 := ⟨by decide +kernel, rfl⟩
theorem d6_58 : Dc jdk_2097_method_29_code 58 (.invokespecial 356) 3 61 := ⟨by decide +kernel, rfl⟩
theorem pd_4 : parseMethodDescriptor "(J)V" = some ⟨[.long], none⟩ := by decide +kernel
theorem d6_61 : Dc jdk_2097_method_29_code 61 (.areturn) 1 62 := ⟨by decide +kernel, rfl⟩
theorem d6_24 : Dc jdk_2097_method_29_code 24 (.getstatic 347) 3 27 := ⟨by decide +kernel, rfl⟩
theorem d6_27 : Dc jdk_2097_method_29_code 27 (.lload_n 0) 1 28 := ⟨by decide +kernel, rfl⟩
theorem d6_28 : Dc jdk_2097_method_29_code 28 (.l2i) 1 29 := ⟨by decide +kernel, rfl⟩
theorem d6_29 : Dc jdk_2097_method_29_code 29 (.aaload) 1 30 := ⟨by decide +kernel, rfl⟩
theorem d6_30 : Dc jdk_2097_method_29_code 30 (.areturn) 1 31 := ⟨by decide +kernel, rfl⟩
theorem d6_6 : Dc jdk_2097_method_29_code 6 (.getstatic 22) 3 9 := ⟨by decide +kernel, rfl⟩
theorem d6_9 : Dc jdk_2097_method_29_code 9 (.areturn) 1 10 := ⟨by decide +kernel, rfl⟩
theorem rVO (l : Launch) {Z : State} {a0 : Array Value} (hw : ∀ d ∈ tables_1, d.before a0 Z = true) {h : Heap} (hE : Ext Z.heap h) (q : Int64) (zr zm pc_ : Addr) (kp : ClassId) (vp : List Value) (SZR : Sta Z Z.heap "java/math/BigInteger" "ZERO" "Ljava/math/BigInteger;" (.ref zr)) (ZE : Exa Z Z.heap zr "java/math/BigInteger") (ZS : Fld Z Z.heap zr "java/math/BigInteger" "signum" "I" (.int (0 : Int32))) (ZM : Fld Z Z.heap zr "java/math/BigInteger" "mag" "[I" (.ref zm)) (ZV : IaS Z Z.heap zm 0) (SPC : Sta Z Z.heap "java/math/BigInteger" "posConst" "[Ljava/math/BigInteger;" (.ref pc_)) (VP : Arv Z Z.heap pc_ kp (.object "java/math/BigInteger") 17 vp .null) (PC : ∀ j : Nat, 1 ≤ j → j ≤ 16 → ∃ x mg : Addr, vp.getD j .null = .ref x ∧ Exa Z Z.heap x "java/math/BigInteger" ∧ Fld Z Z.heap x "java/math/BigInteger" "signum" "I" (.int (1 : Int32)) ∧ Fld Z Z.heap x "java/math/BigInteger" "mag" "[I" (.ref mg) ∧ IaS Z Z.heap mg 1) (hq : ¬ q < (0 : Int64)) :
    Con l (⟨"java/math/BigInteger", "valueOf", "(J)Ljava/math/BigInteger;"⟩ : MethodName) jdk_2097_method_29_code 2 (some (.object "java/math/BigInteger")) [] ({ frames := 3, cells := 2, slots := 8, locals := 72 } : Room) Z #[(.long q)] h (fun v' h' => ∃ (x mg : Addr) (sg nn : Int32), v' = some (.ref x) ∧ Ext h h' ∧ Exa Z h' x "java/math/BigInteger" ∧ Fld Z h' x "java/math/BigInteger" "signum" "I" (.int sg) ∧ Fld Z h' x "java/math/BigInteger" "mag" "[I" (.ref mg) ∧ IaS Z h' mg nn ∧ (sg = 0 ∨ (sg = 1 ∧ 1 ≤ nn.toInt)) ∧ nn.toInt ≤ 2) := by
  refine con_of (plainFor_of_name pn_3) hE (fun m => ef_rVO m q) ?_
  intro p e s m below meth c T0 C X0
  have C : Cx p s m meth c Z "java/math/BigInteger" "valueOf" jdk_2097_method_29_code 2 (some (.object "java/math/BigInteger")) := C
  show Goes p e below _ T0 (mkF m 0 #[.val (.long q), .second] [])
  have q0 := own_ge64 hq
  refine g_lloadN C X0 d6_0 rfl ?_
  refine g_lconst 0 C X0 d6_1 rfl ?_
  refine g_lcmp C X0 d6_2 ?_
  refine g_ifn (hL_ne _ _) C X0 d6_3 (fun c3_124 => ?_) (fun c3_124 => ?_)
  · refine g_lloadN C X0 d6_10 rfl ?_
    refine g_lconst 0 C X0 d6_11 rfl ?_
    refine g_lcmp C X0 d6_12 ?_
    refine g_ifn (hL_le _ _) C X0 d6_13 (fun q => absurd (own_pos64 q0 c3_124) q) (fun _ => ?_)
    refine g_lloadN C X0 d6_16 rfl ?_
    refine g_ldcJ C X0 (wd hw 72 rfl) d6_17 ?_
    refine g_lcmp C X0 d6_20 ?_
    refine g_if (hL_gt _ _) C X0 d6_21 (fun c21_125 => ?_) (fun c21_125 => ?_)
    · refine g_lloadN C X0 d6_31 rfl ?_
      refine g_lconst 0 C X0 d6_32 rfl ?_
      refine g_lcmp C X0 d6_33 ?_
      refine g_ifn (hL_ge _ _) C X0 d6_34 (fun _ => ?_) (fun q => absurd q hq)
      refine g_new C X0 (wd hw 117 rfl) (wd hw 118 rfl) (wd hw 36 rfl) d6_53 (by decide) (by decide) (fun T126 h126 b126 g_b126 n_b126 X126 E126 A126 D126 M126 => ?_)
      have lt127 : zr < b126 := by rw [g_b126]; exact Exa.lt (Exa.ext X0.ext ZE)
      have lt128 : zm < b126 := by rw [g_b126]; exact IaS.lt (IaS.ext ZV X0.ext)
      have F_signum_b126 : Fld Z h126 b126 "java/math/BigInteger" "signum" "I" (.int 0) := D126 (Or.inr (wd hw 85 rfl)) (ty := .int) (by decide)
      have F_mag_b126 : Fld Z h126 b126 "java/math/BigInteger" "mag" "[I" .null := D126 (Or.inr (wd hw 87 rfl)) (ty := (.array .int)) (by decide)
      refine g_dup C X126 d6_56 rfl ?_
      refine g_lloadN C X126 d6_57 rfl ?_
      refine g_special (argsL := [(.long q)]) (st := [(.ref b126)]) C X126 rfl (wd hw 148 rfl) (wd hw 149 rfl) (wd hw 150 rfl) (by decide) (pay_of (W' := 1) (rBJ l hw X126.ext b126 q A126 F_signum_b126 F_mag_b126 n_b126 hq) C.hZ (wd hw 150 rfl) (wd hw 36 rfl) (by decide) (by decide)) pd_4 rfl rfl _ rfl (Nat.le_of_eq rfl) d6_58 (by decide) (by decide) (fun T129 h129 v129 q129 X129 => ?_)
      obtain ⟨rfl, K129, EX129, mg129, nn129, FS129, FM129, VM129, ha129, hb129⟩ := q129
      show Goes p e below _ T129 (mkF m 61 #[.val (.long q), .second] [(.ref b126)])
      have sz130 : h.size ≤ b126 := by rw [g_b126]; exact (Keep.refl h []).1
      have kp131 := (Keep.refl h []).ext E126
      have kp132 := kp131.trans K129 (allS (Or.inr sz130) all0)
      exact g_retA C X129 rfl rfl d6_61 (by decide) (by decide) ⟨b126, mg129, (1 : Int32), nn129, rfl, keep_ext kp132, EX129, FS129, FM129, VM129, (Or.inr ⟨rfl, ha129⟩), hb129⟩
    · have q1 : q.toInt ≤ 16 := by have := c21_125; rw [Int64.lt_iff_toInt_lt, show (16 : Int64).toInt = 16 from rfl] at this; omega
      have q2 := own_l2i q q0 q1
      have q3 : 1 ≤ q.toInt := by have := own_pos64 q0 c3_124; rw [Int64.lt_iff_toInt_lt, show (0 : Int64).toInt = 0 from rfl] at this; omega
      have q4 := own_tn (x := q.toInt32) (by omega)
      obtain ⟨px, pm, pe, PE, PS, PM, PV⟩ := PC q.toInt32.toNatClampNeg (by omega) (by omega)
      refine g_getstatic (host := "") C X0 (Or.inl (wd hw 73 rfl)) Via.refl SPC d6_24 (fun T133 X133 => ?_)
      refine g_lloadN C X133 d6_27 rfl ?_
      refine g_l2i C X133 d6_28 ?_
      refine g_aaload C X133 (Arv.ext VP X133.ext) rfl d6_29 (own_nn (by omega)) (own_lt (by rw [show (17 : Int32).toInt = 17 from rfl]; omega)) pe ?_
      exact g_retA C X133 rfl rfl d6_30 (by decide) (by decide) ⟨px, pm, (1 : Int32), (1 : Int32), rfl, keep_ext (Keep.refl h []), (Exa.ext X133.ext PE), (Fld.ext X133.ext PS), (Fld.ext X133.ext PM), (IaS.ext PV X133.ext), (Or.inr ⟨rfl, by decide⟩), (by decide)⟩
  · refine g_getstatic (host := "") C X0 (Or.inl (wd hw 153 rfl)) Via.refl SZR d6_6 (fun T134 X134 => ?_)
    exact g_retA C X134 rfl rfl d6_9 (by decide) (by decide) ⟨zr, zm, (0 : Int32), (0 : Int32), rfl, keep_ext (Keep.refl h []), (Exa.ext X134.ext ZE), (Fld.ext X134.ext ZS), (Fld.ext X134.ext ZM), (IaS.ext ZV X134.ext), (Or.inl rfl), (by decide)⟩
theorem ef_rTS (m : MethodId) (ar : Addr) : entryFrame m #[(.ref ar)] 3 = mkF m 0 #[.val (.ref ar), .unset, .unset] [] := by first | (simp [entryFrame, mkF, argsToLocals, Value.category]; done) | rfl
theorem d25_0 : Dc jdk_2097_method_140_code 0 (.aload_n 0) 1 1 := ⟨by decide +kernel, rfl⟩
theorem d25_1 : Dc jdk_2097_method_140_code 1 (.arraylength) 1 2 := ⟨by decide +kernel, rfl⟩
theorem d25_2 : Dc jdk_2097_method_140_code 2 (.istore_n 1) 1 3 := ⟨by decide +kernel, rfl⟩
theorem d25_3 : Dc jdk_2097_method_140_code 3 (.iconst 0) 1 4 := ⟨by decide +kernel, rfl⟩
theorem d25_4 : Dc jdk_2097_method_140_code 4 (.istore_n 2) 1 5 := ⟨by decide +kernel, rfl⟩
theorem d25_5 : Dc jdk_2097_method_140_code 5 (.iload_n 2) 1 6 := ⟨by decide +kernel, rfl⟩
theorem d25_6 : Dc jdk_2097_method_140_code 6 (.iload_n 1) 1 7 := ⟨by decide +kernel, rfl⟩
theorem d25_7 : Dj jdk_2097_method_140_code 7 (.if_icmp .ge 15) 15 3 10 22 := ⟨by decide +kernel, rfl, by decide, by decide⟩
theorem d25_10 : Dc jdk_2097_method_140_code 10 (.aload_n 0) 1 11 := ⟨by decide +kernel, rfl⟩
theorem d25_11 : Dc jdk_2097_method_140_code 11 (.iload_n 2) 1 12 := ⟨by decide +kernel, rfl⟩
theorem d25_12 : Dc jdk_2097_method_140_code 12 (.iaload) 1 13 := ⟨by decide +kernel, rfl⟩
theorem d25_13 : Dj jdk_2097_method_140_code 13 (.ifCond .ne 9) 9 3 16 22 := ⟨by decide +kernel, rfl, by decide, by decide⟩
theorem d25_22 : Dc jdk_2097_method_140_code 22 (.iload_n 2) 1 23 := ⟨by decide +kernel, rfl⟩
theorem d25_23 : Dj jdk_2097_method_140_code 23 (.ifCond .ne 7) 7 3 26 30 := ⟨by decide +kernel, rfl, by decide, by decide⟩
theorem d25_26 : Dc jdk_2097_method_140_code 26 (.aload_n 0) 1 27 := ⟨by decide +kernel, rfl⟩
theorem d25_27 : Dj jdk_2097_method_140_code 27 (.goto 9) 9 3 30 36 := ⟨by decide +kernel, rfl, by decide, by decide⟩
theorem d25_36 : Dc jdk_2097_method_140_code 36 (.areturn) 1 37 := ⟨by decide +kernel, rfl⟩
theorem d25_16 : Dc jdk_2097_method_140_code 16 (.iinc 2 1) 3 19 := ⟨by decide +kernel, rfl⟩
theorem d25_19 : Dj jdk_2097_method_140_code 19 (.goto (-14)) (-14) 3 22 5 := ⟨by decide +kernel, rfl, by decide, by decide⟩
theorem d25_30 : Dc jdk_2097_method_140_code 30 (.aload_n 0) 1 31 := ⟨by decide +kernel, rfl⟩
theorem d25_31 : Dc jdk_2097_method_140_code 31 (.iload_n 2) 1 32 := ⟨by decide +kernel, rfl⟩
theorem d25_32 : Dc jdk_2097_method_140_code 32 (.iload_n 1) 1 33 := ⟨by decide +kernel, rfl⟩
theorem d25_33 : Dc jdk_2097_method_140_code 33 (.invokestatic 433) 3 36 := ⟨by decide +kernel, rfl⟩
theorem rTS (l : Launch) {Z : State} {a0 : Array Value} (hw : ∀ d ∈ tables_1, d.before a0 Z = true) {h : Heap} (hE : Ext Z.heap h) (ar : Addr)  (VA : IaS Z h ar 4) :
    Con l (⟨"java/math/BigInteger", "trustedStripLeadingZeroInts", "([I)[I"⟩ : MethodName) jdk_2097_method_140_code 3 (some (.array .int)) [] ({ frames := 3, cells := 1, slots := 20, locals := 72 } : Room) Z #[(.ref ar)] h (fun v' h' => ∃ (br : Addr) (nn : Int32), v' = some (.ref br) ∧ Ext h h' ∧ IaS Z h' br nn ∧ nn.toInt ≤ 4) := by
  refine con_of (plainFor_of_name pn_3) hE (fun m => ef_rTS m ar) ?_
  intro p e s m below meth c T0 C X0
  have C : Cx p s m meth c Z "java/math/BigInteger" "trustedStripLeadingZeroInts" jdk_2097_method_140_code 3 (some (.array .int)) := C
  show Goes p e below _ T0 (mkF m 0 #[.val (.ref ar), .unset, .unset] [])
  refine g_aloadN C X0 d25_0 rfl rfl ?_
  refine g_arraylengthI C X0 VA d25_1 ?_
  refine g_istoreN C X0 d25_2 (l' := #[.val (.ref ar), .val (.int 4), .unset]) rfl ?_
  refine g_iconst 0 C X0 d25_3 rfl ?_
  refine g_istoreN C X0 d25_4 (l' := #[.val (.ref ar), .val (.int 4), .val (.int 0)]) rfl ?_
  refine g_iloadN C X0 d25_5 rfl ?_
  refine g_iloadN C X0 d25_6 rfl ?_
  refine g_icmpn (hI_ge _ _) C X0 d25_7 (fun q => absurd (by decide) q) (fun _ => ?_)
  refine g_aloadN C X0 d25_10 rfl rfl ?_
  refine g_iloadN C X0 d25_11 rfl ?_
  refine g_ialoadI C X0 VA d25_12 (by decide) (by decide) (fun v135 => ?_)
  refine g_ifn (h0_ne _) C X0 d25_13 (fun c13_136 => ?_) (fun c13_136 => ?_)
  · refine g_iloadN C X0 d25_22 rfl ?_
    refine g_ifn (h0_ne _) C X0 d25_23 (fun q => absurd (by decide) q) (fun _ => ?_)
    refine g_aloadN C X0 d25_26 rfl rfl ?_
    refine g_goto C X0 d25_27 ?_
    exact g_retA C X0 rfl rfl d25_36 (by decide) (by decide) ⟨ar, (4 : Int32), rfl, keep_ext (Keep.refl h []), VA, by decide⟩
  · refine g_iinc 1 C X0 d25_16 rfl rfl (l' := #[.val (.ref ar), .val (.int 4), .val (.int 1)]) rfl ?_
    refine g_goto C X0 d25_19 ?_
    refine g_iloadN C X0 d25_5 rfl ?_
    refine g_iloadN C X0 d25_6 rfl ?_
    refine g_icmpn (hI_ge _ _) C X0 d25_7 (fun q => absurd (by decide) q) (fun _ => ?_)
    refine g_aloadN C X0 d25_10 rfl rfl ?_
    refine g_iloadN C X0 d25_11 rfl ?_
    refine g_ialoadI C X0 VA d25_12 (by decide) (by decide) (fun v137 => ?_)
    refine g_ifn (h0_ne _) C X0 d25_13 (fun c13_138 => ?_) (fun c13_138 => ?_)
    · refine g_iloadN C X0 d25_22 rfl ?_
      refine g_ifn (h0_ne _) C X0 d25_23 (fun _ => ?_) (fun q => absurd q (by decide))
      refine g_aloadN C X0 d25_30 rfl rfl ?_
      refine g_iloadN C X0 d25_31 rfl ?_
      refine g_iloadN C X0 d25_32 rfl ?_
      refine g_static (argsL := [(.ref ar), (.int 1), (.int 4)]) (st := []) C X0 (wd hw 99 rfl) (wd hw 100 rfl) (wd hw 101 rfl) (wd hw 102 rfl) (by decide) (pay_of (W' := 0) (rCR l hw X0.ext ar (1 : Int32) (4 : Int32) VA (by decide) (by decide) (by decide)) C.hZ (wd hw 102 rfl) (wd hw 101 rfl) (by decide) (by decide)) pd_2 rfl rfl _ rfl (Nat.le_of_eq rfl) d25_33 (by decide) (by decide) (fun T139 h139 v139 q139 X139 => ?_)
      obtain ⟨b139, rfl, n_b139, g139, E139, V139⟩ := q139
      have lt140 : ar < b139 := Nat.lt_of_lt_of_le (IaS.lt VA) g139
      show Goes p e below _ T139 (mkF m 36 #[.val (.ref ar), .val (.int 4), .val (.int 1)] [(.ref b139)])
      have sz141 : h.size ≤ b139 := Nat.le_trans (Keep.refl h []).1 g139
      have kp142 := (Keep.refl h []).ext E139
      exact g_retA C X139 rfl rfl d25_36 (by decide) (by decide) ⟨b139, ((4 : Int32) - (1 : Int32)), rfl, keep_ext kp142, V139, by decide⟩
    · refine g_iinc 1 C X0 d25_16 rfl rfl (l' := #[.val (.ref ar), .val (.int 4), .val (.int 2)]) rfl ?_
      refine g_goto C X0 d25_19 ?_
      refine g_iloadN C X0 d25_5 rfl ?_
      refine g_iloadN C X0 d25_6 rfl ?_
      refine g_icmpn (hI_ge _ _) C X0 d25_7 (fun q => absurd (by decide) q) (fun _ => ?_)
      refine g_aloadN C X0 d25_10 rfl rfl ?_
      refine g_iloadN C X0 d25_11 rfl ?_
      refine g_ialoadI C X0 VA d25_12 (by decide) (by decide) (fun v143 => ?_)
      refine g_ifn (h0_ne _) C X0 d25_13 (fun c13_144 => ?_) (fun c13_144 => ?_)
      · refine g_iloadN C X0 d25_22 rfl ?_
        refine g_ifn (h0_ne _) C X0 d25_23 (fun _ => ?_) (fun q => absurd q (by decide))
        refine g_aloadN C X0 d25_30 rfl rfl ?_
        refine g_iloadN C X0 d25_31 rfl ?_
        refine g_iloadN C X0 d25_32 rfl ?_
        refine g_static (argsL := [(.ref ar), (.int 2), (.int 4)]) (st := []) C X0 (wd hw 99 rfl) (wd hw 100 rfl) (wd hw 101 rfl) (wd hw 102 rfl) (by decide) (pay_of (W' := 0) (rCR l hw X0.ext ar (2 : Int32) (4 : Int32) VA (by decide) (by decide) (by decide)) C.hZ (wd hw 102 rfl) (wd hw 101 rfl) (by decide) (by decide)) pd_2 rfl rfl _ rfl (Nat.le_of_eq rfl) d25_33 (by decide) (by decide) (fun T145 h145 v145 q145 X145 => ?_)
        obtain ⟨b145, rfl, n_b145, g145, E145, V145⟩ := q145
        have lt146 : ar < b145 := Nat.lt_of_lt_of_le (IaS.lt VA) g145
        show Goes p e below _ T145 (mkF m 36 #[.val (.ref ar), .val (.int 4), .val (.int 2)] [(.ref b145)])
        have sz147 : h.size ≤ b145 := Nat.le_trans (Keep.refl h []).1 g145
        have kp148 := (Keep.refl h []).ext E145
        exact g_retA C X145 rfl rfl d25_36 (by decide) (by decide) ⟨b145, ((4 : Int32) - (2 : Int32)), rfl, keep_ext kp148, V145, by decide⟩
      · refine g_iinc 1 C X0 d25_16 rfl rfl (l' := #[.val (.ref ar), .val (.int 4), .val (.int 3)]) rfl ?_
        refine g_goto C X0 d25_19 ?_
        refine g_iloadN C X0 d25_5 rfl ?_
        refine g_iloadN C X0 d25_6 rfl ?_
        refine g_icmpn (hI_ge _ _) C X0 d25_7 (fun q => absurd (by decide) q) (fun _ => ?_)
        refine g_aloadN C X0 d25_10 rfl rfl ?_
        refine g_iloadN C X0 d25_11 rfl ?_
        refine g_ialoadI C X0 VA d25_12 (by decide) (by decide) (fun v149 => ?_)
        refine g_ifn (h0_ne _) C X0 d25_13 (fun c13_150 => ?_) (fun c13_150 => ?_)
        · refine g_iloadN C X0 d25_22 rfl ?_
          refine g_ifn (h0_ne _) C X0 d25_23 (fun _ => ?_) (fun q => absurd q (by decide))
          refine g_aloadN C X0 d25_30 rfl rfl ?_
          refine g_iloadN C X0 d25_31 rfl ?_
          refine g_iloadN C X0 d25_32 rfl ?_
          refine g_static (argsL := [(.ref ar), (.int 3), (.int 4)]) (st := []) C X0 (wd hw 99 rfl) (wd hw 100 rfl) (wd hw 101 rfl) (wd hw 102 rfl) (by decide) (pay_of (W' := 0) (rCR l hw X0.ext ar (3 : Int32) (4 : Int32) VA (by decide) (by decide) (by decide)) C.hZ (wd hw 102 rfl) (wd hw 101 rfl) (by decide) (by decide)) pd_2 rfl rfl _ rfl (Nat.le_of_eq rfl) d25_33 (by decide) (by decide) (fun T151 h151 v151 q151 X151 => ?_)
          obtain ⟨b151, rfl, n_b151, g151, E151, V151⟩ := q151
          have lt152 : ar < b151 := Nat.lt_of_lt_of_le (IaS.lt VA) g151
          show Goes p e below _ T151 (mkF m 36 #[.val (.ref ar), .val (.int 4), .val (.int 3)] [(.ref b151)])
          have sz153 : h.size ≤ b151 := Nat.le_trans (Keep.refl h []).1 g151
          have kp154 := (Keep.refl h []).ext E151
          exact g_retA C X151 rfl rfl d25_36 (by decide) (by decide) ⟨b151, ((4 : Int32) - (3 : Int32)), rfl, keep_ext kp154, V151, by decide⟩
        · refine g_iinc 1 C X0 d25_16 rfl rfl (l' := #[.val (.ref ar), .val (.int 4), .val (.int 4)]) rfl ?_
          refine g_goto C X0 d25_19 ?_
          refine g_iloadN C X0 d25_5 rfl ?_
          refine g_iloadN C X0 d25_6 rfl ?_
          refine g_icmpn (hI_ge _ _) C X0 d25_7 (fun _ => ?_) (fun q => absurd q (by decide))
          refine g_iloadN C X0 d25_22 rfl ?_
          refine g_ifn (h0_ne _) C X0 d25_23 (fun _ => ?_) (fun q => absurd q (by decide))
          refine g_aloadN C X0 d25_30 rfl rfl ?_
          refine g_iloadN C X0 d25_31 rfl ?_
          refine g_iloadN C X0 d25_32 rfl ?_
          refine g_static (argsL := [(.ref ar), (.int 4), (.int 4)]) (st := []) C X0 (wd hw 99 rfl) (wd hw 100 rfl) (wd hw 101 rfl) (wd hw 102 rfl) (by decide) (pay_of (W' := 0) (rCR l hw X0.ext ar (4 : Int32) (4 : Int32) VA (by decide) (by decide) (by decide)) C.hZ (wd hw 102 rfl) (wd hw 101 rfl) (by decide) (by decide)) pd_2 rfl rfl _ rfl (Nat.le_of_eq rfl) d25_33 (by decide) (by decide) (fun T155 h155 v155 q155 X155 => ?_)
          obtain ⟨b155, rfl, n_b155, g155, E155, V155⟩ := q155
          have lt156 : ar < b155 := Nat.lt_of_lt_of_le (IaS.lt VA) g155
          show Goes p e below _ T155 (mkF m 36 #[.val (.ref ar), .val (.int 4), .val (.int 4)] [(.ref b155)])
          have sz157 : h.size ≤ b155 := Nat.le_trans (Keep.refl h []).1 g155
          have kp158 := (Keep.refl h []).ext E155
          exact g_retA C X155 rfl rfl d25_36 (by decide) (by decide) ⟨b155, ((4 : Int32) - (4 : Int32)), rfl, keep_ext kp158, V155, by decide⟩
theorem pn_4 : plainName "java/util/Objects" = true := by first | (simp [plainName, overriddenIn]; done) | decide +kernel
theorem ef_rRN (m : MethodId) (a : Addr) : entryFrame m #[(.ref a)] 1 = mkF m 0 #[.val (.ref a)] [] := by first | (simp [entryFrame, mkF, argsToLocals, Value.category]; done) | rfl
theorem d23_0 : Dc jdk_31_method_10_code 0 (.aload_n 0) 1 1 := ⟨by decide +kernel, rfl⟩
theorem d23_1 : Dj jdk_31_method_10_code 1 (.ifnonnull 11) 11 3 4 12 := ⟨by decide +kernel, rfl, by decide, by decide⟩
theorem d23_12 : Dc jdk_31_method_10_code 12 (.aload_n 0) 1 13 := ⟨by decide +kernel, rfl⟩
theorem d23_13 : Dc jdk_31_method_10_code 13 (.areturn) 1 14 := ⟨by decide +kernel, rfl⟩
theorem rRN (l : Launch) {Z : State} {a0 : Array Value} (hw : ∀ d ∈ tables_1, d.before a0 Z = true) {h : Heap} (hE : Ext Z.heap h) (a : Addr)   :
    Con l (⟨"java/util/Objects", "requireNonNull", "(Ljava/lang/Object;)Ljava/lang/Object;"⟩ : MethodName) jdk_31_method_10_code 1 (some (.object "java/lang/Object")) [] ({ frames := 0, cells := 0, slots := 0, locals := 0 } : Room) Z #[(.ref a)] h (fun v' h' => v' = some (.ref a) ∧ h' = h) := by
  refine con_of (plainFor_of_name pn_4) hE (fun m => ef_rRN m a) ?_
  intro p e s m below meth c T0 C X0
  have C : Cx p s m meth c Z "java/util/Objects" "requireNonNull" jdk_31_method_10_code 1 (some (.object "java/lang/Object")) := C
  show Goes p e below _ T0 (mkF m 0 #[.val (.ref a)] [])
  refine g_aloadN C X0 d23_0 rfl rfl ?_
  refine g_ifnonnull C X0 d23_1 rfl (fun _ => ?_) (fun q => absurd q nofun)
  refine g_aloadN C X0 d23_12 rfl rfl ?_
  exact g_retA C X0 rfl rfl d23_13 (by decide) (by decide) ⟨rfl, rfl⟩
theorem ef_rMC (m : MethodId) (ar : Addr) : entryFrame m #[(.ref ar), (.int 2)] 2 = mkF m 0 #[.val (.ref ar), .val (.int 2)] [] := by first | (simp [entryFrame, mkF, argsToLocals, Value.category]; done) | rfl
theorem d22_0 : Dc jdk_2097_method_47_code 0 (.iload_n 1) 1 1 := ⟨by decide +kernel, rfl⟩
theorem d22_1 : Dj jdk_2097_method_47_code 1 (.ifCond .gt 4) 4 3 4 5 := ⟨by decide +kernel, rfl, by decide, by decide⟩
theorem d22_5 : Dc jdk_2097_method_47_code 5 (.aload_n 0) 1 6 := ⟨by decide +kernel, rfl⟩
theorem d22_6 : Dc jdk_2097_method_47_code 6 (.invokestatic 447) 3 9 := ⟨by decide +kernel, rfl⟩
theorem pd_5 : parseMethodDescriptor "(Ljava/lang/Object;)Ljava/lang/Object;" = some ⟨[(.object "java/lang/Object")], some (.object "java/lang/Object")⟩ := by decide +kernel
theorem d22_9 : Dc jdk_2097_method_47_code 9 (.pop) 1 10 := ⟨by decide +kernel, rfl⟩
theorem d22_10 : Dc jdk_2097_method_47_code 10 (.iload_n 1) 1 11 := ⟨by decide +kernel, rfl⟩
theorem d22_11 : Dc jdk_2097_method_47_code 11 (.aload_n 0) 1 12 := ⟨by decide +kernel, rfl⟩
theorem d22_12 : Dc jdk_2097_method_47_code 12 (.arraylength) 1 13 := ⟨by decide +kernel, rfl⟩
theorem d22_13 : Dj jdk_2097_method_47_code 13 (.if_icmp .le 14) 14 3 16 27 := ⟨by decide +kernel, rfl, by decide, by decide⟩
theorem d22_27 : Dc jdk_2097_method_47_code 27 (.return_) 1 28 := ⟨by decide +kernel, rfl⟩
theorem rMC (l : Launch) {Z : State} {a0 : Array Value} (hw : ∀ d ∈ tables_1, d.before a0 Z = true) {h : Heap} (hE : Ext Z.heap h) (ar : Addr)  (VA : IaS Z h ar 2) :
    Con l (⟨"java/math/BigInteger", "multiplyToLenCheck", "([II)V"⟩ : MethodName) jdk_2097_method_47_code 2 none [] ({ frames := 1, cells := 0, slots := 0, locals := 24 } : Room) Z #[(.ref ar), (.int 2)] h (fun v' h' => v' = none ∧ h' = h) := by
  refine con_of (plainFor_of_name pn_3) hE (fun m => ef_rMC m ar) ?_
  intro p e s m below meth c T0 C X0
  have C : Cx p s m meth c Z "java/math/BigInteger" "multiplyToLenCheck" jdk_2097_method_47_code 2 none := C
  show Goes p e below _ T0 (mkF m 0 #[.val (.ref ar), .val (.int 2)] [])
  refine g_iloadN C X0 d22_0 rfl ?_
  refine g_if (h0_gt _) C X0 d22_1 (fun _ => ?_) (fun q => absurd (by decide) q)
  refine g_aloadN C X0 d22_5 rfl rfl ?_
  refine g_staticP (argsL := [(.ref ar)]) (st := []) C X0 (wd hw 160 rfl) (wd hw 161 rfl) (wd hw 162 rfl) (wd hw 163 rfl) (by decide) (pay_of (W' := 0) (rRN l hw X0.ext ar) C.hZ (wd hw 163 rfl) (wd hw 162 rfl) (by decide) (by decide)) pd_5 rfl rfl _ rfl (Nat.le_of_eq rfl) d22_6 (by decide) (by decide) (fun T159 X159 => ?_)
  refine g_pop C X159 d22_9 rfl ?_
  refine g_iloadN C X159 d22_10 rfl ?_
  refine g_aloadN C X159 d22_11 rfl rfl ?_
  refine g_arraylengthI C X159 VA d22_12 ?_
  refine g_icmpn (hI_le _ _) C X159 d22_13 (fun _ => ?_) (fun q => absurd q (by decide))
  exact g_retV C X159 d22_27 (by decide) (by decide) ⟨rfl, rfl⟩
theorem ef_rIM (m : MethodId) (xa : Addr) (ya : Addr) : entryFrame m #[(.ref xa), (.int 2), (.ref ya), (.int 2), .null] 14 = mkF m 0 #[.val (.ref xa), .val (.int 2), .val (.ref ya), .val (.int 2), .val .null, .unset, .unset, .unset, .unset, .unset, .unset, .unset, .unset, .unset] [] := by first | (simp [entryFrame, mkF, argsToLocals, Value.category]; done) | rfl
theorem d24_0 : Dc jdk_2097_method_46_code 0 (.iload_n 1) 1 1 := ⟨by decide +kernel, rfl⟩
theorem d24_1 : Dc jdk_2097_method_46_code 1 (.iconst 1) 1 2 := ⟨by decide +kernel, rfl⟩
theorem d24_2 : Dc jdk_2097_method_46_code 2 (.isub) 1 3 := ⟨by decide +kernel, rfl⟩
theorem d24_3 : Dc jdk_2097_method_46_code 3 (.istore 5) 2 5 := ⟨by decide +kernel, rfl⟩
theorem d24_5 : Dc jdk_2097_method_46_code 5 (.iload_n 3) 1 6 := ⟨by decide +kernel, rfl⟩
theorem d24_6 : Dc jdk_2097_method_46_code 6 (.iconst 1) 1 7 := ⟨by decide +kernel, rfl⟩
theorem d24_7 : Dc jdk_2097_method_46_code 7 (.isub) 1 8 := ⟨by decide +kernel, rfl⟩
theorem d24_8 : Dc jdk_2097_method_46_code 8 (.istore 6) 2 10 := ⟨by decide +kernel, rfl⟩
theorem d24_10 : Dc jdk_2097_method_46_code 10 (.aload 4) 2 12 := ⟨by decide +kernel, rfl⟩
theorem d24_12 : Dj jdk_2097_method_46_code 12 (.ifnull 12) 12 3 15 24 := ⟨by decide +kernel, rfl, by decide, by decide⟩
theorem d24_24 : Dc jdk_2097_method_46_code 24 (.iload_n 1) 1 25 := ⟨by decide +kernel, rfl⟩
theorem d24_25 : Dc jdk_2097_method_46_code 25 (.iload_n 3) 1 26 := ⟨by decide +kernel, rfl⟩
theorem d24_26 : Dc jdk_2097_method_46_code 26 (.iadd) 1 27 := ⟨by decide +kernel, rfl⟩
theorem d24_27 : Dc jdk_2097_method_46_code 27 (.newarray .int) 2 29 := ⟨by decide +kernel, rfl⟩
theorem d24_29 : Dc jdk_2097_method_46_code 29 (.astore 4) 2 31 := ⟨by decide +kernel, rfl⟩
theorem d24_31 : Dc jdk_2097_method_46_code 31 (.lconst 0) 1 32 := ⟨by decide +kernel, rfl⟩
theorem d24_32 : Dc jdk_2097_method_46_code 32 (.lstore 7) 2 34 := ⟨by decide +kernel, rfl⟩
theorem d24_34 : Dc jdk_2097_method_46_code 34 (.iload 6) 2 36 := ⟨by decide +kernel, rfl⟩
theorem d24_36 : Dc jdk_2097_method_46_code 36 (.istore 9) 2 38 := ⟨by decide +kernel, rfl⟩
theorem d24_38 : Dc jdk_2097_method_46_code 38 (.iload 6) 2 40 := ⟨by decide +kernel, rfl⟩
theorem d24_40 : Dc jdk_2097_method_46_code 40 (.iconst 1) 1 41 := ⟨by decide +kernel, rfl⟩
theorem d24_41 : Dc jdk_2097_method_46_code 41 (.iadd) 1 42 := ⟨by decide +kernel, rfl⟩
theorem d24_42 : Dc jdk_2097_method_46_code 42 (.iload 5) 2 44 := ⟨by decide +kernel, rfl⟩
theorem d24_44 : Dc jdk_2097_method_46_code 44 (.iadd) 1 45 := ⟨by decide +kernel, rfl⟩
theorem d24_45 : Dc jdk_2097_method_46_code 45 (.istore 10) 2 47 := ⟨by decide +kernel, rfl⟩
theorem d24_47 : Dc jdk_2097_method_46_code 47 (.iload 9) 2 49 := ⟨by decide +kernel, rfl⟩
theorem d24_49 : Dj jdk_2097_method_46_code 49 (.ifCond .lt 51) 51 3 52 100 := ⟨by decide +kernel, rfl, by decide, by decide⟩
theorem d24_52 : Dc jdk_2097_method_46_code 52 (.aload_n 2) 1 53 := ⟨by decide +kernel, rfl⟩
theorem d24_53 : Dc jdk_2097_method_46_code 53 (.iload 9) 2 55 := ⟨by decide +kernel, rfl⟩
theorem d24_55 : Dc jdk_2097_method_46_code 55 (.iaload) 1 56 := ⟨by decide +kernel, rfl⟩
theorem d24_56 : Dc jdk_2097_method_46_code 56 (.i2l) 1 57 := ⟨by decide +kernel, rfl⟩
theorem d24_57 : Dc jdk_2097_method_46_code 57 (.ldc2_w 130) 3 60 := ⟨by decide +kernel, rfl⟩
theorem d24_60 : Dc jdk_2097_method_46_code 60 (.land) 1 61 := ⟨by decide +kernel, rfl⟩
theorem d24_61 : Dc jdk_2097_method_46_code 61 (.aload_n 0) 1 62 := ⟨by decide +kernel, rfl⟩
theorem d24_62 : Dc jdk_2097_method_46_code 62 (.iload 5) 2 64 := ⟨by decide +kernel, rfl⟩
theorem d24_64 : Dc jdk_2097_method_46_code 64 (.iaload) 1 65 := ⟨by decide +kernel, rfl⟩
theorem d24_65 : Dc jdk_2097_method_46_code 65 (.i2l) 1 66 := ⟨by decide +kernel, rfl⟩
theorem d24_66 : Dc jdk_2097_method_46_code 66 (.ldc2_w 130) 3 69 := ⟨by decide +kernel, rfl⟩
theorem d24_69 : Dc jdk_2097_method_46_code 69 (.land) 1 70 := ⟨by decide +kernel, rfl⟩
theorem d24_70 : Dc jdk_2097_method_46_code 70 (.lmul) 1 71 := ⟨by decide +kernel, rfl⟩
theorem d24_71 : Dc jdk_2097_method_46_code 71 (.lload 7) 2 73 := ⟨by decide +kernel, rfl⟩
theorem d24_73 : Dc jdk_2097_method_46_code 73 (.ladd) 1 74 := ⟨by decide +kernel, rfl⟩
theorem d24_74 : Dc jdk_2097_method_46_code 74 (.lstore 11) 2 76 := ⟨by decide +kernel, rfl⟩
theorem d24_76 : Dc jdk_2097_method_46_code 76 (.aload 4) 2 78 := ⟨by decide +kernel, rfl⟩
theorem d24_78 : Dc jdk_2097_method_46_code 78 (.iload 10) 2 80 := ⟨by decide +kernel, rfl⟩
theorem d24_80 : Dc jdk_2097_method_46_code 80 (.lload 11) 2 82 := ⟨by decide +kernel, rfl⟩
theorem d24_82 : Dc jdk_2097_method_46_code 82 (.l2i) 1 83 := ⟨by decide +kernel, rfl⟩
theorem d24_83 : Dc jdk_2097_method_46_code 83 (.iastore) 1 84 := ⟨by decide +kernel, rfl⟩
theorem d24_84 : Dc jdk_2097_method_46_code 84 (.lload 11) 2 86 := ⟨by decide +kernel, rfl⟩
theorem d24_86 : Dc jdk_2097_method_46_code 86 (.bipush 32) 2 88 := ⟨by decide +kernel, rfl⟩
theorem d24_88 : Dc jdk_2097_method_46_code 88 (.lushr) 1 89 := ⟨by decide +kernel, rfl⟩
theorem d24_89 : Dc jdk_2097_method_46_code 89 (.lstore 7) 2 91 := ⟨by decide +kernel, rfl⟩
theorem d24_91 : Dc jdk_2097_method_46_code 91 (.iinc 9 (-1)) 3 94 := ⟨by decide +kernel, rfl⟩
theorem d24_94 : Dc jdk_2097_method_46_code 94 (.iinc 10 (-1)) 3 97 := ⟨by decide +kernel, rfl⟩
theorem d24_97 : Dj jdk_2097_method_46_code 97 (.goto (-50)) (-50) 3 100 47 := ⟨by decide +kernel, rfl, by decide, by decide⟩
theorem d24_100 : Dc jdk_2097_method_46_code 100 (.aload 4) 2 102 := ⟨by decide +kernel, rfl⟩
theorem d24_102 : Dc jdk_2097_method_46_code 102 (.iload 5) 2 104 := ⟨by decide +kernel, rfl⟩
theorem d24_104 : Dc jdk_2097_method_46_code 104 (.lload 7) 2 106 := ⟨by decide +kernel, rfl⟩
theorem d24_106 : Dc jdk_2097_method_46_code 106 (.l2i) 1 107 := ⟨by decide +kernel, rfl⟩
theorem d24_107 : Dc jdk_2097_method_46_code 107 (.iastore) 1 108 := ⟨by decide +kernel, rfl⟩
theorem d24_108 : Dc jdk_2097_method_46_code 108 (.iload 5) 2 110 := ⟨by decide +kernel, rfl⟩
theorem d24_110 : Dc jdk_2097_method_46_code 110 (.iconst 1) 1 111 := ⟨by decide +kernel, rfl⟩
theorem d24_111 : Dc jdk_2097_method_46_code 111 (.isub) 1 112 := ⟨by decide +kernel, rfl⟩
theorem d24_112 : Dc jdk_2097_method_46_code 112 (.istore 9) 2 114 := ⟨by decide +kernel, rfl⟩
theorem d24_114 : Dc jdk_2097_method_46_code 114 (.iload 9) 2 116 := ⟨by decide +kernel, rfl⟩
theorem d24_116 : Dj jdk_2097_method_46_code 116 (.ifCond .lt 97) 97 3 119 213 := ⟨by decide +kernel, rfl, by decide, by decide⟩
theorem d24_119 : Dc jdk_2097_method_46_code 119 (.lconst 0) 1 120 := ⟨by decide +kernel, rfl⟩
theorem d24_120 : Dc jdk_2097_method_46_code 120 (.lstore 7) 2 122 := ⟨by decide +kernel, rfl⟩
theorem d24_122 : Dc jdk_2097_method_46_code 122 (.iload 6) 2 124 := ⟨by decide +kernel, rfl⟩
theorem d24_124 : Dc jdk_2097_method_46_code 124 (.istore 10) 2 126 := ⟨by decide +kernel, rfl⟩
theorem d24_126 : Dc jdk_2097_method_46_code 126 (.iload 6) 2 128 := ⟨by decide +kernel, rfl⟩
theorem d24_128 : Dc jdk_2097_method_46_code 128 (.iconst 1) 1 129 := ⟨by decide +kernel, rfl⟩
theorem d24_129 : Dc jdk_2097_method_46_code 129 (.iadd) 1 130 := ⟨by decide +kernel, rfl⟩
theorem d24_130 : Dc jdk_2097_method_46_code 130 (.iload 9) 2 132 := ⟨by decide +kernel, rfl⟩
theorem d24_132 : Dc jdk_2097_method_46_code 132 (.iadd) 1 133 := ⟨by decide +kernel, rfl⟩
theorem d24_133 : Dc jdk_2097_method_46_code 133 (.istore 11) 2 135 := ⟨by decide +kernel, rfl⟩
theorem d24_135 : Dc jdk_2097_method_46_code 135 (.iload 10) 2 137 := ⟨by decide +kernel, rfl⟩
theorem d24_137 : Dj jdk_2097_method_46_code 137 (.ifCond .lt 62) 62 3 140 199 := ⟨by decide +kernel, rfl, by decide, by decide⟩
theorem d24_140 : Dc jdk_2097_method_46_code 140 (.aload_n 2) 1 141 := ⟨by decide +kernel, rfl⟩
theorem d24_141 : Dc jdk_2097_method_46_code 141 (.iload 10) 2 143 := ⟨by decide +kernel, rfl⟩
theorem d24_143 : Dc jdk_2097_method_46_code 143 (.iaload) 1 144 := ⟨by decide +kernel, rfl⟩
theorem d24_144 : Dc jdk_2097_method_46_code 144 (.i2l) 1 145 := ⟨by decide +kernel, rfl⟩
theorem d24_145 : Dc jdk_2097_method_46_code 145 (.ldc2_w 130) 3 148 := ⟨by decide +kernel, rfl⟩
theorem d24_148 : Dc jdk_2097_method_46_code 148 (.land) 1 149 := ⟨by decide +kernel, rfl⟩
theorem d24_149 : Dc jdk_2097_method_46_code 149 (.aload_n 0) 1 150 := ⟨by decide +kernel, rfl⟩
theorem d24_150 : Dc jdk_2097_method_46_code 150 (.iload 9) 2 152 := ⟨by decide +kernel, rfl⟩
theorem d24_152 : Dc jdk_2097_method_46_code 152 (.iaload) 1 153 := ⟨by decide +kernel, rfl⟩
theorem d24_153 : Dc jdk_2097_method_46_code 153 (.i2l) 1 154 := ⟨by decide +kernel, rfl⟩
theorem d24_154 : Dc jdk_2097_method_46_code 154 (.ldc2_w 130) 3 157 := ⟨by decide +kernel, rfl⟩
theorem d24_157 : Dc jdk_2097_method_46_code 157 (.land) 1 158 := ⟨by decide +kernel, rfl⟩
theorem d24_158 : Dc jdk_2097_method_46_code 158 (.lmul) 1 159 := ⟨by decide +kernel, rfl⟩
theorem d24_159 : Dc jdk_2097_method_46_code 159 (.aload 4) 2 161 := ⟨by decide +kernel, rfl⟩
theorem d24_161 : Dc jdk_2097_method_46_code 161 (.iload 11) 2 163 := ⟨by decide +kernel, rfl⟩
theorem d24_163 : Dc jdk_2097_method_46_code 163 (.iaload) 1 164 := ⟨by decide +kernel, rfl⟩
theorem d24_164 : Dc jdk_2097_method_46_code 164 (.i2l) 1 165 := ⟨by decide +kernel, rfl⟩
theorem d24_165 : Dc jdk_2097_method_46_code 165 (.ldc2_w 130) 3 168 := ⟨by decide +kernel, rfl⟩
theorem d24_168 : Dc jdk_2097_method_46_code 168 (.land) 1 169 := ⟨by decide +kernel, rfl⟩
theorem d24_169 : Dc jdk_2097_method_46_code 169 (.ladd) 1 170 := ⟨by decide +kernel, rfl⟩
theorem d24_170 : Dc jdk_2097_method_46_code 170 (.lload 7) 2 172 := ⟨by decide +kernel, rfl⟩
theorem d24_172 : Dc jdk_2097_method_46_code 172 (.ladd) 1 173 := ⟨by decide +kernel, rfl⟩
theorem d24_173 : Dc jdk_2097_method_46_code 173 (.lstore 12) 2 175 := ⟨by decide +kernel, rfl⟩
theorem d24_175 : Dc jdk_2097_method_46_code 175 (.aload 4) 2 177 := ⟨by decide +kernel, rfl⟩
theorem d24_177 : Dc jdk_2097_method_46_code 177 (.iload 11) 2 179 := ⟨by decide +kernel, rfl⟩
theorem d24_179 : Dc jdk_2097_method_46_code 179 (.lload 12) 2 181 := ⟨by decide +kernel, rfl⟩
theorem d24_181 : Dc jdk_2097_method_46_code 181 (.l2i) 1 182 := ⟨by decide +kernel, rfl⟩
theorem d24_182 : Dc jdk_2097_method_46_code 182 (.iastore) 1 183 := ⟨by decide +kernel, rfl⟩
theorem d24_183 : Dc jdk_2097_method_46_code 183 (.lload 12) 2 185 := ⟨by decide +kernel, rfl⟩
theorem d24_185 : Dc jdk_2097_method_46_code 185 (.bipush 32) 2 187 := ⟨by decide +kernel, rfl⟩
theorem d24_187 : Dc jdk_2097_method_46_code 187 (.lushr) 1 188 := ⟨by decide +kernel, rfl⟩
theorem d24_188 : Dc jdk_2097_method_46_code 188 (.lstore 7) 2 190 := ⟨by decide +kernel, rfl⟩
theorem d24_190 : Dc jdk_2097_method_46_code 190 (.iinc 10 (-1)) 3 193 := ⟨by decide +kernel, rfl⟩
theorem d24_193 : Dc jdk_2097_method_46_code 193 (.iinc 11 (-1)) 3 196 := ⟨by decide +kernel, rfl⟩
theorem d24_196 : Dj jdk_2097_method_46_code 196 (.goto (-61)) (-61) 3 199 135 := ⟨by decide +kernel, rfl, by decide, by decide⟩
theorem d24_199 : Dc jdk_2097_method_46_code 199 (.aload 4) 2 201 := ⟨by decide +kernel, rfl⟩
theorem d24_201 : Dc jdk_2097_method_46_code 201 (.iload 9) 2 203 := ⟨by decide +kernel, rfl⟩
theorem d24_203 : Dc jdk_2097_method_46_code 203 (.lload 7) 2 205 := ⟨by decide +kernel, rfl⟩
theorem d24_205 : Dc jdk_2097_method_46_code 205 (.l2i) 1 206 := ⟨by decide +kernel, rfl⟩
theorem d24_206 : Dc jdk_2097_method_46_code 206 (.iastore) 1 207 := ⟨by decide +kernel, rfl⟩
theorem d24_207 : Dc jdk_2097_method_46_code 207 (.iinc 9 (-1)) 3 210 := ⟨by decide +kernel, rfl⟩
theorem d24_210 : Dj jdk_2097_method_46_code 210 (.goto (-96)) (-96) 3 213 114 := ⟨by decide +kernel, rfl, by decide, by decide⟩
theorem d24_213 : Dc jdk_2097_method_46_code 213 (.aload 4) 2 215 := ⟨by decide +kernel, rfl⟩
theorem d24_215 : Dc jdk_2097_method_46_code 215 (.areturn) 1 216 := ⟨by decide +kernel, rfl⟩
theorem rIM (l : Launch) {Z : State} {a0 : Array Value} (hw : ∀ d ∈ tables_1, d.before a0 Z = true) {h : Heap} (hE : Ext Z.heap h) (xa : Addr) (ya : Addr)  (VX : IaS Z h xa 2) (VY : IaS Z h ya 2) :
    Con l (⟨"java/math/BigInteger", "implMultiplyToLen", "([II[II[I)[I"⟩ : MethodName) jdk_2097_method_46_code 14 (some (.array .int)) [] ({ frames := 0, cells := 1, slots := 4, locals := 0 } : Room) Z #[(.ref xa), (.int 2), (.ref ya), (.int 2), .null] h (fun v' h' => ∃ br : Addr, v' = some (.ref br) ∧ Ext h h' ∧ IaS Z h' br 4) := by
  refine con_of (plainFor_of_name pn_3) hE (fun m => ef_rIM m xa ya) ?_
  intro p e s m below meth c T0 C X0
  have C : Cx p s m meth c Z "java/math/BigInteger" "implMultiplyToLen" jdk_2097_method_46_code 14 (some (.array .int)) := C
  show Goes p e below _ T0 (mkF m 0 #[.val (.ref xa), .val (.int 2), .val (.ref ya), .val (.int 2), .val .null, .unset, .unset, .unset, .unset, .unset, .unset, .unset, .unset, .unset] [])
  refine g_iloadN C X0 d24_0 rfl ?_
  refine g_iconst 1 C X0 d24_1 rfl ?_
  refine g_isub C X0 d24_2 ?_
  refine g_istore C X0 d24_3 (l' := #[.val (.ref xa), .val (.int 2), .val (.ref ya), .val (.int 2), .val .null, .val (.int 1), .unset, .unset, .unset, .unset, .unset, .unset, .unset, .unset]) rfl ?_
  refine g_iloadN C X0 d24_5 rfl ?_
  refine g_iconst 1 C X0 d24_6 rfl ?_
  refine g_isub C X0 d24_7 ?_
  refine g_istore C X0 d24_8 (l' := #[.val (.ref xa), .val (.int 2), .val (.ref ya), .val (.int 2), .val .null, .val (.int 1), .val (.int 1), .unset, .unset, .unset, .unset, .unset, .unset, .unset]) rfl ?_
  refine g_aload C X0 d24_10 rfl rfl ?_
  refine g_ifnull C X0 d24_12 rfl (fun _ => ?_) (fun q => absurd rfl q)
  refine g_iloadN C X0 d24_24 rfl ?_
  refine g_iloadN C X0 d24_25 rfl ?_
  refine g_iadd C X0 d24_26 ?_
  refine g_newarrayI C X0 (wd hw 97 rfl) d24_27 (by decide) 4 (by decide) (by decide) (by decide) (by decide) (fun T160 h160 b160 g_b160 n_b160 X160 E160 V160 => ?_)
  have lt161 : xa < b160 := by rw [g_b160]; exact IaS.lt VX
  have lt162 : ya < b160 := by rw [g_b160]; exact IaS.lt VY
  refine g_astore C X160 d24_29 rfl (l' := #[.val (.ref xa), .val (.int 2), .val (.ref ya), .val (.int 2), .val (.ref b160), .val (.int 1), .val (.int 1), .unset, .unset, .unset, .unset, .unset, .unset, .unset]) rfl ?_
  refine g_lconst 0 C X160 d24_31 rfl ?_
  refine g_lstore C X160 d24_32 (l' := #[.val (.ref xa), .val (.int 2), .val (.ref ya), .val (.int 2), .val (.ref b160), .val (.int 1), .val (.int 1), .val (.long 0), .second, .unset, .unset, .unset, .unset, .unset]) rfl ?_
  refine g_iload C X160 d24_34 rfl ?_
  refine g_istore C X160 d24_36 (l' := #[.val (.ref xa), .val (.int 2), .val (.ref ya), .val (.int 2), .val (.ref b160), .val (.int 1), .val (.int 1), .val (.long 0), .second, .val (.int 1), .unset, .unset, .unset, .unset]) rfl ?_
  refine g_iload C X160 d24_38 rfl ?_
  refine g_iconst 1 C X160 d24_40 rfl ?_
  refine g_iadd C X160 d24_41 ?_
  refine g_iload C X160 d24_42 rfl ?_
  refine g_iadd C X160 d24_44 ?_
  refine g_istore C X160 d24_45 (l' := #[.val (.ref xa), .val (.int 2), .val (.ref ya), .val (.int 2), .val (.ref b160), .val (.int 1), .val (.int 1), .val (.long 0), .second, .val (.int 1), .val (.int 3), .unset, .unset, .unset]) rfl ?_
  refine g_iload C X160 d24_47 rfl ?_
  refine g_if (h0_lt _) C X160 d24_49 (fun q => absurd q (by decide)) (fun _ => ?_)
  refine g_aloadN C X160 d24_52 rfl rfl ?_
  refine g_iload C X160 d24_53 rfl ?_
  have f163 := (IaS.ext VY E160)
  refine g_ialoadI C X160 f163 d24_55 (by decide) (by decide) (fun v164 => ?_)
  refine g_i2l C X160 d24_56 ?_
  refine g_ldcJ C X160 (wd hw 98 rfl) d24_57 ?_
  refine g_land C X160 d24_60 ?_
  refine g_aloadN C X160 d24_61 rfl rfl ?_
  refine g_iload C X160 d24_62 rfl ?_
  have f165 := (IaS.ext VX E160)
  refine g_ialoadI C X160 f165 d24_64 (by decide) (by decide) (fun v166 => ?_)
  refine g_i2l C X160 d24_65 ?_
  refine g_ldcJ C X160 (wd hw 98 rfl) d24_66 ?_
  refine g_land C X160 d24_69 ?_
  refine g_lmul C X160 d24_70 ?_
  refine g_lload C X160 d24_71 rfl ?_
  refine g_ladd C X160 d24_73 ?_
  refine g_lstore C X160 d24_74 (l' := #[.val (.ref xa), .val (.int 2), .val (.ref ya), .val (.int 2), .val (.ref b160), .val (.int 1), .val (.int 1), .val (.long 0), .second, .val (.int 1), .val (.int 3), .val (.long ((((v164.toInt64) &&& (4294967295 : Int64)) * ((v166.toInt64) &&& (4294967295 : Int64))) + (0 : Int64))), .second, .unset]) rfl ?_
  refine g_aload C X160 d24_76 rfl rfl ?_
  refine g_iload C X160 d24_78 rfl ?_
  refine g_lload C X160 d24_80 rfl ?_
  refine g_l2i C X160 d24_82 ?_
  refine g_iastoreI C X160 V160 n_b160 d24_83 (by decide) (by decide) (fun T167 h167 X167 W167 V167 => ?_)
  refine g_lload C X167 d24_84 rfl ?_
  refine g_bipush 32 C X167 d24_86 rfl ?_
  refine g_lushr C X167 d24_88 ?_
  refine g_lstore C X167 d24_89 (l' := #[.val (.ref xa), .val (.int 2), .val (.ref ya), .val (.int 2), .val (.ref b160), .val (.int 1), .val (.int 1), .val (.long ((((((v164.toInt64) &&& (4294967295 : Int64)) * ((v166.toInt64) &&& (4294967295 : Int64))) + (0 : Int64)).toUInt64 >>> ((32 : Int32) &&& 0x3f).toInt64.toUInt64).toInt64)), .second, .val (.int 1), .val (.int 3), .val (.long ((((v164.toInt64) &&& (4294967295 : Int64)) * ((v166.toInt64) &&& (4294967295 : Int64))) + (0 : Int64))), .second, .unset]) rfl ?_
  refine g_iinc (-1) C X167 d24_91 rfl rfl (l' := #[.val (.ref xa), .val (.int 2), .val (.ref ya), .val (.int 2), .val (.ref b160), .val (.int 1), .val (.int 1), .val (.long ((((((v164.toInt64) &&& (4294967295 : Int64)) * ((v166.toInt64) &&& (4294967295 : Int64))) + (0 : Int64)).toUInt64 >>> ((32 : Int32) &&& 0x3f).toInt64.toUInt64).toInt64)), .second, .val (.int 0), .val (.int 3), .val (.long ((((v164.toInt64) &&& (4294967295 : Int64)) * ((v166.toInt64) &&& (4294967295 : Int64))) + (0 : Int64))), .second, .unset]) rfl ?_
  refine g_iinc (-1) C X167 d24_94 rfl rfl (l' := #[.val (.ref xa), .val (.int 2), .val (.ref ya), .val (.int 2), .val (.ref b160), .val (.int 1), .val (.int 1), .val (.long ((((((v164.toInt64) &&& (4294967295 : Int64)) * ((v166.toInt64) &&& (4294967295 : Int64))) + (0 : Int64)).toUInt64 >>> ((32 : Int32) &&& 0x3f).toInt64.toUInt64).toInt64)), .second, .val (.int 0), .val (.int 2), .val (.long ((((v164.toInt64) &&& (4294967295 : Int64)) * ((v166.toInt64) &&& (4294967295 : Int64))) + (0 : Int64))), .second, .unset]) rfl ?_
  refine g_goto C X167 d24_97 ?_
  refine g_iload C X167 d24_47 rfl ?_
  refine g_if (h0_lt _) C X167 d24_49 (fun q => absurd q (by decide)) (fun _ => ?_)
  refine g_aloadN C X167 d24_52 rfl rfl ?_
  refine g_iload C X167 d24_53 rfl ?_
  have f168 := (IaS.other f163 W167 (Nat.ne_of_lt lt162))
  refine g_ialoadI C X167 f168 d24_55 (by decide) (by decide) (fun v169 => ?_)
  refine g_i2l C X167 d24_56 ?_
  refine g_ldcJ C X167 (wd hw 98 rfl) d24_57 ?_
  refine g_land C X167 d24_60 ?_
  refine g_aloadN C X167 d24_61 rfl rfl ?_
  refine g_iload C X167 d24_62 rfl ?_
  have f170 := (IaS.other f165 W167 (Nat.ne_of_lt lt161))
  refine g_ialoadI C X167 f170 d24_64 (by decide) (by decide) (fun v171 => ?_)
  refine g_i2l C X167 d24_65 ?_
  refine g_ldcJ C X167 (wd hw 98 rfl) d24_66 ?_
  refine g_land C X167 d24_69 ?_
  refine g_lmul C X167 d24_70 ?_
  refine g_lload C X167 d24_71 rfl ?_
  refine g_ladd C X167 d24_73 ?_
  refine g_lstore C X167 d24_74 (l' := #[.val (.ref xa), .val (.int 2), .val (.ref ya), .val (.int 2), .val (.ref b160), .val (.int 1), .val (.int 1), .val (.long ((((((v164.toInt64) &&& (4294967295 : Int64)) * ((v166.toInt64) &&& (4294967295 : Int64))) + (0 : Int64)).toUInt64 >>> ((32 : Int32) &&& 0x3f).toInt64.toUInt64).toInt64)), .second, .val (.int 0), .val (.int 2), .val (.long ((((v169.toInt64) &&& (4294967295 : Int64)) * ((v171.toInt64) &&& (4294967295 : Int64))) + ((((((v164.toInt64) &&& (4294967295 : Int64)) * ((v166.toInt64) &&& (4294967295 : Int64))) + (0 : Int64)).toUInt64 >>> ((32 : Int32) &&& 0x3f).toInt64.toUInt64).toInt64))), .second, .unset]) rfl ?_
  refine g_aload C X167 d24_76 rfl rfl ?_
  refine g_iload C X167 d24_78 rfl ?_
  refine g_lload C X167 d24_80 rfl ?_
  refine g_l2i C X167 d24_82 ?_
  refine g_iastoreI C X167 V167 n_b160 d24_83 (by decide) (by decide) (fun T172 h172 X172 W172 V172 => ?_)
  refine g_lload C X172 d24_84 rfl ?_
  refine g_bipush 32 C X172 d24_86 rfl ?_
  refine g_lushr C X172 d24_88 ?_
  refine g_lstore C X172 d24_89 (l' := #[.val (.ref xa), .val (.int 2), .val (.ref ya), .val (.int 2), .val (.ref b160), .val (.int 1), .val (.int 1), .val (.long ((((((v169.toInt64) &&& (4294967295 : Int64)) * ((v171.toInt64) &&& (4294967295 : Int64))) + ((((((v164.toInt64) &&& (4294967295 : Int64)) * ((v166.toInt64) &&& (4294967295 : Int64))) + (0 : Int64)).toUInt64 >>> ((32 : Int32) &&& 0x3f).toInt64.toUInt64).toInt64)).toUInt64 >>> ((32 : Int32) &&& 0x3f).toInt64.toUInt64).toInt64)), .second, .val (.int 0), .val (.int 2), .val (.long ((((v169.toInt64) &&& (4294967295 : Int64)) * ((v171.toInt64) &&& (4294967295 : Int64))) + ((((((v164.toInt64) &&& (4294967295 : Int64)) * ((v166.toInt64) &&& (4294967295 : Int64))) + (0 : Int64)).toUInt64 >>> ((32 : Int32) &&& 0x3f).toInt64.toUInt64).toInt64))), .second, .unset]) rfl ?_
  refine g_iinc (-1) C X172 d24_91 rfl rfl (l' := #[.val (.ref xa), .val (.int 2), .val (.ref ya), .val (.int 2), .val (.ref b160), .val (.int 1), .val (.int 1), .val (.long ((((((v169.toInt64) &&& (4294967295 : Int64)) * ((v171.toInt64) &&& (4294967295 : Int64))) + ((((((v164.toInt64) &&& (4294967295 : Int64)) * ((v166.toInt64) &&& (4294967295 : Int64))) + (0 : Int64)).toUInt64 >>> ((32 : Int32) &&& 0x3f).toInt64.toUInt64).toInt64)).toUInt64 >>> ((32 : Int32) &&& 0x3f).toInt64.toUInt64).toInt64)), .second, .val (.int (-1)), .val (.int 2), .val (.long ((((v169.toInt64) &&& (4294967295 : Int64)) * ((v171.toInt64) &&& (4294967295 : Int64))) + ((((((v164.toInt64) &&& (4294967295 : Int64)) * ((v166.toInt64) &&& (4294967295 : Int64))) + (0 : Int64)).toUInt64 >>> ((32 : Int32) &&& 0x3f).toInt64.toUInt64).toInt64))), .second, .unset]) rfl ?_
  refine g_iinc (-1) C X172 d24_94 rfl rfl (l' := #[.val (.ref xa), .val (.int 2), .val (.ref ya), .val (.int 2), .val (.ref b160), .val (.int 1), .val (.int 1), .val (.long ((((((v169.toInt64) &&& (4294967295 : Int64)) * ((v171.toInt64) &&& (4294967295 : Int64))) + ((((((v164.toInt64) &&& (4294967295 : Int64)) * ((v166.toInt64) &&& (4294967295 : Int64))) + (0 : Int64)).toUInt64 >>> ((32 : Int32) &&& 0x3f).toInt64.toUInt64).toInt64)).toUInt64 >>> ((32 : Int32) &&& 0x3f).toInt64.toUInt64).toInt64)), .second, .val (.int (-1)), .val (.int 1), .val (.long ((((v169.toInt64) &&& (4294967295 : Int64)) * ((v171.toInt64) &&& (4294967295 : Int64))) + ((((((v164.toInt64) &&& (4294967295 : Int64)) * ((v166.toInt64) &&& (4294967295 : Int64))) + (0 : Int64)).toUInt64 >>> ((32 : Int32) &&& 0x3f).toInt64.toUInt64).toInt64))), .second, .unset]) rfl ?_
  refine g_goto C X172 d24_97 ?_
  refine g_iload C X172 d24_47 rfl ?_
  refine g_if (h0_lt _) C X172 d24_49 (fun _ => ?_) (fun q => absurd (by decide) q)
  refine g_aload C X172 d24_100 rfl rfl ?_
  refine g_iload C X172 d24_102 rfl ?_
  refine g_lload C X172 d24_104 rfl ?_
  refine g_l2i C X172 d24_106 ?_
  refine g_iastoreI C X172 V172 n_b160 d24_107 (by decide) (by decide) (fun T173 h173 X173 W173 V173 => ?_)
  refine g_iload C X173 d24_108 rfl ?_
  refine g_iconst 1 C X173 d24_110 rfl ?_
  refine g_isub C X173 d24_111 ?_
  refine g_istore C X173 d24_112 (l' := #[.val (.ref xa), .val (.int 2), .val (.ref ya), .val (.int 2), .val (.ref b160), .val (.int 1), .val (.int 1), .val (.long ((((((v169.toInt64) &&& (4294967295 : Int64)) * ((v171.toInt64) &&& (4294967295 : Int64))) + ((((((v164.toInt64) &&& (4294967295 : Int64)) * ((v166.toInt64) &&& (4294967295 : Int64))) + (0 : Int64)).toUInt64 >>> ((32 : Int32) &&& 0x3f).toInt64.toUInt64).toInt64)).toUInt64 >>> ((32 : Int32) &&& 0x3f).toInt64.toUInt64).toInt64)), .second, .val (.int 0), .val (.int 1), .val (.long ((((v169.toInt64) &&& (4294967295 : Int64)) * ((v171.toInt64) &&& (4294967295 : Int64))) + ((((((v164.toInt64) &&& (4294967295 : Int64)) * ((v166.toInt64) &&& (4294967295 : Int64))) + (0 : Int64)).toUInt64 >>> ((32 : Int32) &&& 0x3f).toInt64.toUInt64).toInt64))), .second, .unset]) rfl ?_
  refine g_iload C X173 d24_114 rfl ?_
  refine g_if (h0_lt _) C X173 d24_116 (fun q => absurd q (by decide)) (fun _ => ?_)
  refine g_lconst 0 C X173 d24_119 rfl ?_
  refine g_lstore C X173 d24_120 (l' := #[.val (.ref xa), .val (.int 2), .val (.ref ya), .val (.int 2), .val (.ref b160), .val (.int 1), .val (.int 1), .val (.long 0), .second, .val (.int 0), .val (.int 1), .val (.long ((((v169.toInt64) &&& (4294967295 : Int64)) * ((v171.toInt64) &&& (4294967295 : Int64))) + ((((((v164.toInt64) &&& (4294967295 : Int64)) * ((v166.toInt64) &&& (4294967295 : Int64))) + (0 : Int64)).toUInt64 >>> ((32 : Int32) &&& 0x3f).toInt64.toUInt64).toInt64))), .second, .unset]) rfl ?_
  refine g_iload C X173 d24_122 rfl ?_
  refine g_istore C X173 d24_124 (l' := #[.val (.ref xa), .val (.int 2), .val (.ref ya), .val (.int 2), .val (.ref b160), .val (.int 1), .val (.int 1), .val (.long 0), .second, .val (.int 0), .val (.int 1), .val (.long ((((v169.toInt64) &&& (4294967295 : Int64)) * ((v171.toInt64) &&& (4294967295 : Int64))) + ((((((v164.toInt64) &&& (4294967295 : Int64)) * ((v166.toInt64) &&& (4294967295 : Int64))) + (0 : Int64)).toUInt64 >>> ((32 : Int32) &&& 0x3f).toInt64.toUInt64).toInt64))), .second, .unset]) rfl ?_
  refine g_iload C X173 d24_126 rfl ?_
  refine g_iconst 1 C X173 d24_128 rfl ?_
  refine g_iadd C X173 d24_129 ?_
  refine g_iload C X173 d24_130 rfl ?_
  refine g_iadd C X173 d24_132 ?_
  refine g_istore C X173 d24_133 (l' := #[.val (.ref xa), .val (.int 2), .val (.ref ya), .val (.int 2), .val (.ref b160), .val (.int 1), .val (.int 1), .val (.long 0), .second, .val (.int 0), .val (.int 1), .val (.int 2), .unset, .unset]) rfl ?_
  refine g_iload C X173 d24_135 rfl ?_
  refine g_if (h0_lt _) C X173 d24_137 (fun q => absurd q (by decide)) (fun _ => ?_)
  refine g_aloadN C X173 d24_140 rfl rfl ?_
  refine g_iload C X173 d24_141 rfl ?_
  have f174 := (IaS.other (IaS.other f168 W172 (Nat.ne_of_lt lt162)) W173 (Nat.ne_of_lt lt162))
  refine g_ialoadI C X173 f174 d24_143 (by decide) (by decide) (fun v175 => ?_)
  refine g_i2l C X173 d24_144 ?_
  refine g_ldcJ C X173 (wd hw 98 rfl) d24_145 ?_
  refine g_land C X173 d24_148 ?_
  refine g_aloadN C X173 d24_149 rfl rfl ?_
  refine g_iload C X173 d24_150 rfl ?_
  have f176 := (IaS.other (IaS.other f170 W172 (Nat.ne_of_lt lt161)) W173 (Nat.ne_of_lt lt161))
  refine g_ialoadI C X173 f176 d24_152 (by decide) (by decide) (fun v177 => ?_)
  refine g_i2l C X173 d24_153 ?_
  refine g_ldcJ C X173 (wd hw 98 rfl) d24_154 ?_
  refine g_land C X173 d24_157 ?_
  refine g_lmul C X173 d24_158 ?_
  refine g_aload C X173 d24_159 rfl rfl ?_
  refine g_iload C X173 d24_161 rfl ?_
  refine g_ialoadI C X173 (Ia.toS V173) d24_163 (by decide) (by decide) (fun v178 => ?_)
  refine g_i2l C X173 d24_164 ?_
  refine g_ldcJ C X173 (wd hw 98 rfl) d24_165 ?_
  refine g_land C X173 d24_168 ?_
  refine g_ladd C X173 d24_169 ?_
  refine g_lload C X173 d24_170 rfl ?_
  refine g_ladd C X173 d24_172 ?_
  refine g_lstore C X173 d24_173 (l' := #[.val (.ref xa), .val (.int 2), .val (.ref ya), .val (.int 2), .val (.ref b160), .val (.int 1), .val (.int 1), .val (.long 0), .second, .val (.int 0), .val (.int 1), .val (.int 2), .val (.long (((((v175.toInt64) &&& (4294967295 : Int64)) * ((v177.toInt64) &&& (4294967295 : Int64))) + ((v178.toInt64) &&& (4294967295 : Int64))) + (0 : Int64))), .second]) rfl ?_
  refine g_aload C X173 d24_175 rfl rfl ?_
  refine g_iload C X173 d24_177 rfl ?_
  refine g_lload C X173 d24_179 rfl ?_
  refine g_l2i C X173 d24_181 ?_
  refine g_iastoreI C X173 V173 n_b160 d24_182 (by decide) (by decide) (fun T179 h179 X179 W179 V179 => ?_)
  refine g_lload C X179 d24_183 rfl ?_
  refine g_bipush 32 C X179 d24_185 rfl ?_
  refine g_lushr C X179 d24_187 ?_
  refine g_lstore C X179 d24_188 (l' := #[.val (.ref xa), .val (.int 2), .val (.ref ya), .val (.int 2), .val (.ref b160), .val (.int 1), .val (.int 1), .val (.long (((((((v175.toInt64) &&& (4294967295 : Int64)) * ((v177.toInt64) &&& (4294967295 : Int64))) + ((v178.toInt64) &&& (4294967295 : Int64))) + (0 : Int64)).toUInt64 >>> ((32 : Int32) &&& 0x3f).toInt64.toUInt64).toInt64)), .second, .val (.int 0), .val (.int 1), .val (.int 2), .val (.long (((((v175.toInt64) &&& (4294967295 : Int64)) * ((v177.toInt64) &&& (4294967295 : Int64))) + ((v178.toInt64) &&& (4294967295 : Int64))) + (0 : Int64))), .second]) rfl ?_
  refine g_iinc (-1) C X179 d24_190 rfl rfl (l' := #[.val (.ref xa), .val (.int 2), .val (.ref ya), .val (.int 2), .val (.ref b160), .val (.int 1), .val (.int 1), .val (.long (((((((v175.toInt64) &&& (4294967295 : Int64)) * ((v177.toInt64) &&& (4294967295 : Int64))) + ((v178.toInt64) &&& (4294967295 : Int64))) + (0 : Int64)).toUInt64 >>> ((32 : Int32) &&& 0x3f).toInt64.toUInt64).toInt64)), .second, .val (.int 0), .val (.int 0), .val (.int 2), .val (.long (((((v175.toInt64) &&& (4294967295 : Int64)) * ((v177.toInt64) &&& (4294967295 : Int64))) + ((v178.toInt64) &&& (4294967295 : Int64))) + (0 : Int64))), .second]) rfl ?_
  refine g_iinc (-1) C X179 d24_193 rfl rfl (l' := #[.val (.ref xa), .val (.int 2), .val (.ref ya), .val (.int 2), .val (.ref b160), .val (.int 1), .val (.int 1), .val (.long (((((((v175.toInt64) &&& (4294967295 : Int64)) * ((v177.toInt64) &&& (4294967295 : Int64))) + ((v178.toInt64) &&& (4294967295 : Int64))) + (0 : Int64)).toUInt64 >>> ((32 : Int32) &&& 0x3f).toInt64.toUInt64).toInt64)), .second, .val (.int 0), .val (.int 0), .val (.int 1), .val (.long (((((v175.toInt64) &&& (4294967295 : Int64)) * ((v177.toInt64) &&& (4294967295 : Int64))) + ((v178.toInt64) &&& (4294967295 : Int64))) + (0 : Int64))), .second]) rfl ?_
  refine g_goto C X179 d24_196 ?_
  refine g_iload C X179 d24_135 rfl ?_
  refine g_if (h0_lt _) C X179 d24_137 (fun q => absurd q (by decide)) (fun _ => ?_)
  refine g_aloadN C X179 d24_140 rfl rfl ?_
  refine g_iload C X179 d24_141 rfl ?_
  have f180 := (IaS.other f174 W179 (Nat.ne_of_lt lt162))
  refine g_ialoadI C X179 f180 d24_143 (by decide) (by decide) (fun v181 => ?_)
  refine g_i2l C X179 d24_144 ?_
  refine g_ldcJ C X179 (wd hw 98 rfl) d24_145 ?_
  refine g_land C X179 d24_148 ?_
  refine g_aloadN C X179 d24_149 rfl rfl ?_
  refine g_iload C X179 d24_150 rfl ?_
  have f182 := (IaS.other f176 W179 (Nat.ne_of_lt lt161))
  refine g_ialoadI C X179 f182 d24_152 (by decide) (by decide) (fun v183 => ?_)
  refine g_i2l C X179 d24_153 ?_
  refine g_ldcJ C X179 (wd hw 98 rfl) d24_154 ?_
  refine g_land C X179 d24_157 ?_
  refine g_lmul C X179 d24_158 ?_
  refine g_aload C X179 d24_159 rfl rfl ?_
  refine g_iload C X179 d24_161 rfl ?_
  refine g_ialoadI C X179 (Ia.toS V179) d24_163 (by decide) (by decide) (fun v184 => ?_)
  refine g_i2l C X179 d24_164 ?_
  refine g_ldcJ C X179 (wd hw 98 rfl) d24_165 ?_
  refine g_land C X179 d24_168 ?_
  refine g_ladd C X179 d24_169 ?_
  refine g_lload C X179 d24_170 rfl ?_
  refine g_ladd C X179 d24_172 ?_
  refine g_lstore C X179 d24_173 (l' := #[.val (.ref xa), .val (.int 2), .val (.ref ya), .val (.int 2), .val (.ref b160), .val (.int 1), .val (.int 1), .val (.long (((((((v175.toInt64) &&& (4294967295 : Int64)) * ((v177.toInt64) &&& (4294967295 : Int64))) + ((v178.toInt64) &&& (4294967295 : Int64))) + (0 : Int64)).toUInt64 >>> ((32 : Int32) &&& 0x3f).toInt64.toUInt64).toInt64)), .second, .val (.int 0), .val (.int 0), .val (.int 1), .val (.long (((((v181.toInt64) &&& (4294967295 : Int64)) * ((v183.toInt64) &&& (4294967295 : Int64))) + ((v184.toInt64) &&& (4294967295 : Int64))) + (((((((v175.toInt64) &&& (4294967295 : Int64)) * ((v177.toInt64) &&& (4294967295 : Int64))) + ((v178.toInt64) &&& (4294967295 : Int64))) + (0 : Int64)).toUInt64 >>> ((32 : Int32) &&& 0x3f).toInt64.toUInt64).toInt64))), .second]) rfl ?_
  refine g_aload C X179 d24_175 rfl rfl ?_
  refine g_iload C X179 d24_177 rfl ?_
  refine g_lload C X179 d24_179 rfl ?_
  refine g_l2i C X179 d24_181 ?_
  refine g_iastoreI C X179 V179 n_b160 d24_182 (by decide) (by decide) (fun T185 h185 X185 W185 V185 => ?_)
  refine g_lload C X185 d24_183 rfl ?_
  refine g_bipush 32 C X185 d24_185 rfl ?_
  refine g_lushr C X185 d24_187 ?_
  refine g_lstore C X185 d24_188 (l' := #[.val (.ref xa), .val (.int 2), .val (.ref ya), .val (.int 2), .val (.ref b160), .val (.int 1), .val (.int 1), .val (.long (((((((v181.toInt64) &&& (4294967295 : Int64)) * ((v183.toInt64) &&& (4294967295 : Int64))) + ((v184.toInt64) &&& (4294967295 : Int64))) + (((((((v175.toInt64) &&& (4294967295 : Int64)) * ((v177.toInt64) &&& (4294967295 : Int64))) + ((v178.toInt64) &&& (4294967295 : Int64))) + (0 : Int64)).toUInt64 >>> ((32 : Int32) &&& 0x3f).toInt64.toUInt64).toInt64)).toUInt64 >>> ((32 : Int32) &&& 0x3f).toInt64.toUInt64).toInt64)), .second, .val (.int 0), .val (.int 0), .val (.int 1), .val (.long (((((v181.toInt64) &&& (4294967295 : Int64)) * ((v183.toInt64) &&& (4294967295 : Int64))) + ((v184.toInt64) &&& (4294967295 : Int64))) + (((((((v175.toInt64) &&& (4294967295 : Int64)) * ((v177.toInt64) &&& (4294967295 : Int64))) + ((v178.toInt64) &&& (4294967295 : Int64))) + (0 : Int64)).toUInt64 >>> ((32 : Int32) &&& 0x3f).toInt64.toUInt64).toInt64))), .second]) rfl ?_
  refine g_iinc (-1) C X185 d24_190 rfl rfl (l' := #[.val (.ref xa), .val (.int 2), .val (.ref ya), .val (.int 2), .val (.ref b160), .val (.int 1), .val (.int 1), .val (.long (((((((v181.toInt64) &&& (4294967295 : Int64)) * ((v183.toInt64) &&& (4294967295 : Int64))) + ((v184.toInt64) &&& (4294967295 : Int64))) + (((((((v175.toInt64) &&& (4294967295 : Int64)) * ((v177.toInt64) &&& (4294967295 : Int64))) + ((v178.toInt64) &&& (4294967295 : Int64))) + (0 : Int64)).toUInt64 >>> ((32 : Int32) &&& 0x3f).toInt64.toUInt64).toInt64)).toUInt64 >>> ((32 : Int32) &&& 0x3f).toInt64.toUInt64).toInt64)), .second, .val (.int 0), .val (.int (-1)), .val (.int 1), .val (.long (((((v181.toInt64) &&& (4294967295 : Int64)) * ((v183.toInt64) &&& (4294967295 : Int64))) + ((v184.toInt64) &&& (4294967295 : Int64))) + (((((((v175.toInt64) &&& (4294967295 : Int64)) * ((v177.toInt64) &&& (4294967295 : Int64))) + ((v178.toInt64) &&& (4294967295 : Int64))) + (0 : Int64)).toUInt64 >>> ((32 : Int32) &&& 0x3f).toInt64.toUInt64).toInt64))), .second]) rfl ?_
  refine g_iinc (-1) C X185 d24_193 rfl rfl (l' := #[.val (.ref xa), .val (.int 2), .val (.ref ya), .val (.int 2), .val (.ref b160), .val (.int 1), .val (.int 1), .val (.long (((((((v181.toInt64) &&& (4294967295 : Int64)) * ((v183.toInt64) &&& (4294967295 : Int64))) + ((v184.toInt64) &&& (4294967295 : Int64))) + (((((((v175.toInt64) &&& (4294967295 : Int64)) * ((v177.toInt64) &&& (4294967295 : Int64))) + ((v178.toInt64) &&& (4294967295 : Int64))) + (0 : Int64)).toUInt64 >>> ((32 : Int32) &&& 0x3f).toInt64.toUInt64).toInt64)).toUInt64 >>> ((32 : Int32) &&& 0x3f).toInt64.toUInt64).toInt64)), .second, .val (.int 0), .val (.int (-1)), .val (.int 0), .val (.long (((((v181.toInt64) &&& (4294967295 : Int64)) * ((v183.toInt64) &&& (4294967295 : Int64))) + ((v184.toInt64) &&& (4294967295 : Int64))) + (((((((v175.toInt64) &&& (4294967295 : Int64)) * ((v177.toInt64) &&& (4294967295 : Int64))) + ((v178.toInt64) &&& (4294967295 : Int64))) + (0 : Int64)).toUInt64 >>> ((32 : Int32) &&& 0x3f).toInt64.toUInt64).toInt64))), .second]) rfl ?_
  refine g_goto C X185 d24_196 ?_
  refine g_iload C X185 d24_135 rfl ?_
  refine g_if (h0_lt _) C X185 d24_137 (fun _ => ?_) (fun q => absurd (by decide) q)
  refine g_aload C X185 d24_199 rfl rfl ?_
  refine g_iload C X185 d24_201 rfl ?_
  refine g_lload C X185 d24_203 rfl ?_
  refine g_l2i C X185 d24_205 ?_
  refine g_iastoreI C X185 V185 n_b160 d24_206 (by decide) (by decide) (fun T186 h186 X186 W186 V186 => ?_)
  refine g_iinc (-1) C X186 d24_207 rfl rfl (l' := #[.val (.ref xa), .val (.int 2), .val (.ref ya), .val (.int 2), .val (.ref b160), .val (.int 1), .val (.int 1), .val (.long (((((((v181.toInt64) &&& (4294967295 : Int64)) * ((v183.toInt64) &&& (4294967295 : Int64))) + ((v184.toInt64) &&& (4294967295 : Int64))) + (((((((v175.toInt64) &&& (4294967295 : Int64)) * ((v177.toInt64) &&& (4294967295 : Int64))) + ((v178.toInt64) &&& (4294967295 : Int64))) + (0 : Int64)).toUInt64 >>> ((32 : Int32) &&& 0x3f).toInt64.toUInt64).toInt64)).toUInt64 >>> ((32 : Int32) &&& 0x3f).toInt64.toUInt64).toInt64)), .second, .val (.int (-1)), .val (.int (-1)), .val (.int 0), .val (.long (((((v181.toInt64) &&& (4294967295 : Int64)) * ((v183.toInt64) &&& (4294967295 : Int64))) + ((v184.toInt64) &&& (4294967295 : Int64))) + (((((((v175.toInt64) &&& (4294967295 : Int64)) * ((v177.toInt64) &&& (4294967295 : Int64))) + ((v178.toInt64) &&& (4294967295 : Int64))) + (0 : Int64)).toUInt64 >>> ((32 : Int32) &&& 0x3f).toInt64.toUInt64).toInt64))), .second]) rfl ?_
  refine g_goto C X186 d24_210 ?_
  refine g_iload C X186 d24_114 rfl ?_
  refine g_if (h0_lt _) C X186 d24_116 (fun _ => ?_) (fun q => absurd (by decide) q)
  refine g_aload C X186 d24_213 rfl rfl ?_
  have sz187 : h.size ≤ b160 := by rw [g_b160]; exact (Keep.refl h []).1
  have kp188 := (Keep.refl h []).ext E160
  have kp189 := kp188.wr W167 (Or.inr sz187)
  have kp190 := kp189.wr W172 (Or.inr sz187)
  have kp191 := kp190.wr W173 (Or.inr sz187)
  have kp192 := kp191.wr W179 (Or.inr sz187)
  have kp193 := kp192.wr W185 (Or.inr sz187)
  have kp194 := kp193.wr W186 (Or.inr sz187)
  exact g_retA C X186 rfl rfl d24_215 (by decide) (by decide) ⟨b160, rfl, keep_ext kp194, (Ia.toS V186)⟩
theorem ef_rMT (m : MethodId) (xa : Addr) (ya : Addr) : entryFrame m #[(.ref xa), (.int 2), (.ref ya), (.int 2), .null] 5 = mkF m 0 #[.val (.ref xa), .val (.int 2), .val (.ref ya), .val (.int 2), .val .null] [] := by first | (simp [entryFrame, mkF, argsToLocals, Value.category]; done) | rfl
theorem d21_0 : Dc jdk_2097_method_45_code 0 (.aload_n 0) 1 1 := ⟨by decide +kernel, rfl⟩
theorem d21_1 : Dc jdk_2097_method_45_code 1 (.iload_n 1) 1 2 := ⟨by decide +kernel, rfl⟩
theorem d21_2 : Dc jdk_2097_method_45_code 2 (.invokestatic 441) 3 5 := ⟨by decide +kernel, rfl⟩
theorem pd_6 : parseMethodDescriptor "([II)V" = some ⟨[(.array .int), .int], none⟩ := by decide +kernel
theorem d21_5 : Dc jdk_2097_method_45_code 5 (.aload_n 2) 1 6 := ⟨by decide +kernel, rfl⟩
theorem d21_6 : Dc jdk_2097_method_45_code 6 (.iload_n 3) 1 7 := ⟨by decide +kernel, rfl⟩
theorem d21_7 : Dc jdk_2097_method_45_code 7 (.invokestatic 441) 3 10 := ⟨by decide +kernel, rfl⟩
theorem d21_10 : Dc jdk_2097_method_45_code 10 (.aload_n 0) 1 11 := ⟨by decide +kernel, rfl⟩
theorem d21_11 : Dc jdk_2097_method_45_code 11 (.iload_n 1) 1 12 := ⟨by decide +kernel, rfl⟩
theorem d21_12 : Dc jdk_2097_method_45_code 12 (.aload_n 2) 1 13 := ⟨by decide +kernel, rfl⟩
theorem d21_13 : Dc jdk_2097_method_45_code 13 (.iload_n 3) 1 14 := ⟨by decide +kernel, rfl⟩
theorem d21_14 : Dc jdk_2097_method_45_code 14 (.aload 4) 2 16 := ⟨by decide +kernel, rfl⟩
theorem d21_16 : Dc jdk_2097_method_45_code 16 (.invokestatic 444) 3 19 := ⟨by decide +kernel, rfl⟩
theorem pd_7 : parseMethodDescriptor "([II[II[I)[I" = some ⟨[(.array .int), .int, (.array .int), .int, (.array .int)], some (.array .int)⟩ := by decide +kernel
theorem d21_19 : Dc jdk_2097_method_45_code 19 (.areturn) 1 20 := ⟨by decide +kernel, rfl⟩
theorem rMT (l : Launch) {Z : State} {a0 : Array Value} (hw : ∀ d ∈ tables_1, d.before a0 Z = true) {h : Heap} (hE : Ext Z.heap h) (xa : Addr) (ya : Addr)  (VX : IaS Z h xa 2) (VY : IaS Z h ya 2) :
    Con l (⟨"java/math/BigInteger", "multiplyToLen", "([II[II[I)[I"⟩ : MethodName) jdk_2097_method_45_code 5 (some (.array .int)) [] ({ frames := 2, cells := 1, slots := 4, locals := 48 } : Room) Z #[(.ref xa), (.int 2), (.ref ya), (.int 2), .null] h (fun v' h' => ∃ br : Addr, v' = some (.ref br) ∧ Ext h h' ∧ IaS Z h' br 4) := by
  refine con_of (plainFor_of_name pn_3) hE (fun m => ef_rMT m xa ya) ?_
  intro p e s m below meth c T0 C X0
  have C : Cx p s m meth c Z "java/math/BigInteger" "multiplyToLen" jdk_2097_method_45_code 5 (some (.array .int)) := C
  show Goes p e below _ T0 (mkF m 0 #[.val (.ref xa), .val (.int 2), .val (.ref ya), .val (.int 2), .val .null] [])
  refine g_aloadN C X0 d21_0 rfl rfl ?_
  refine g_iloadN C X0 d21_1 rfl ?_
  refine g_staticPV (argsL := [(.ref xa), (.int 2)]) (st := []) C X0 (wd hw 157 rfl) (wd hw 158 rfl) (wd hw 36 rfl) (wd hw 159 rfl) (by decide) (pay_of (W' := 0) (rMC l hw X0.ext xa VX) C.hZ (wd hw 159 rfl) (wd hw 36 rfl) (by decide) (by decide)) pd_6 rfl rfl _ rfl (Nat.le_of_eq rfl) d21_2 (by decide) (by decide) (fun T195 X195 => ?_)
  refine g_aloadN C X195 d21_5 rfl rfl ?_
  refine g_iloadN C X195 d21_6 rfl ?_
  refine g_staticPV (argsL := [(.ref ya), (.int 2)]) (st := []) C X195 (wd hw 157 rfl) (wd hw 158 rfl) (wd hw 36 rfl) (wd hw 159 rfl) (by decide) (pay_of (W' := 0) (rMC l hw X195.ext ya VY) C.hZ (wd hw 159 rfl) (wd hw 36 rfl) (by decide) (by decide)) pd_6 rfl rfl _ rfl (Nat.le_of_eq rfl) d21_7 (by decide) (by decide) (fun T196 X196 => ?_)
  refine g_aloadN C X196 d21_10 rfl rfl ?_
  refine g_iloadN C X196 d21_11 rfl ?_
  refine g_aloadN C X196 d21_12 rfl rfl ?_
  refine g_iloadN C X196 d21_13 rfl ?_
  refine g_aload C X196 d21_14 rfl rfl ?_
  refine g_static (argsL := [(.ref xa), (.int 2), (.ref ya), (.int 2), .null]) (st := []) C X196 (wd hw 164 rfl) (wd hw 165 rfl) (wd hw 36 rfl) (wd hw 166 rfl) (by decide) (pay_of (W' := 0) (rIM l hw X196.ext xa ya VX VY) C.hZ (wd hw 166 rfl) (wd hw 36 rfl) (by decide) (by decide)) pd_7 rfl rfl _ rfl (Nat.le_of_eq rfl) d21_16 (by decide) (by decide) (fun T197 h197 v197 q197 X197 => ?_)
  obtain ⟨b197, rfl, E197, V197⟩ := q197
  show Goes p e below _ T197 (mkF m 19 #[.val (.ref xa), .val (.int 2), .val (.ref ya), .val (.int 2), .val .null] [(.ref b197)])
  have kp198 := (Keep.refl h []).ext E197
  exact g_retA C X197 rfl rfl d21_19 (by decide) (by decide) ⟨b197, rfl, keep_ext kp198, V197⟩
theorem pn_5 : plainName "jdk/internal/util/Preconditions" = true := by first | (simp [plainName, overriddenIn]; done) | decide +kernel
theorem ef_rPC (m : MethodId) (fa : Int32) (fb : Int32) (fc : Int32) : entryFrame m #[(.int fa), (.int fb), (.int fc), .null] 4 = mkF m 0 #[.val (.int fa), .val (.int fb), .val (.int fc), .val .null] [] := by first | (simp [entryFrame, mkF, argsToLocals, Value.category]; done) | rfl
theorem d29_0 : Dc jdk_41_method_12_code 0 (.iload_n 0) 1 1 := ⟨by decide +kernel, rfl⟩
theorem d29_1 : Dj jdk_41_method_12_code 1 (.ifCond .lt 13) 13 3 4 14 := ⟨by decide +kernel, rfl, by decide, by decide⟩
theorem d29_4 : Dc jdk_41_method_12_code 4 (.iload_n 0) 1 5 := ⟨by decide +kernel, rfl⟩
theorem d29_5 : Dc jdk_41_method_12_code 5 (.iload_n 1) 1 6 := ⟨by decide +kernel, rfl⟩
theorem d29_6 : Dj jdk_41_method_12_code 6 (.if_icmp .gt 8) 8 3 9 14 := ⟨by decide +kernel, rfl, by decide, by decide⟩
theorem d29_9 : Dc jdk_41_method_12_code 9 (.iload_n 1) 1 10 := ⟨by decide +kernel, rfl⟩
theorem d29_10 : Dc jdk_41_method_12_code 10 (.iload_n 2) 1 11 := ⟨by decide +kernel, rfl⟩
theorem d29_11 : Dj jdk_41_method_12_code 11 (.if_icmp .le 11) 11 3 14 22 := ⟨by decide +kernel, rfl, by decide, by decide⟩
theorem d29_22 : Dc jdk_41_method_12_code 22 (.iload_n 0) 1 23 := ⟨by decide +kernel, rfl⟩
theorem d29_23 : Dc jdk_41_method_12_code 23 (.ireturn) 1 24 := ⟨by decide +kernel, rfl⟩
theorem rPC (l : Launch) {Z : State} {a0 : Array Value} (hw : ∀ d ∈ tables_1, d.before a0 Z = true) {h : Heap} (hE : Ext Z.heap h) (fa : Int32) (fb : Int32) (fc : Int32)  (h1 : ¬ fa < 0) (h2 : ¬ fb < fa) (h3 : ¬ fc < fb) :
    Con l (⟨"jdk/internal/util/Preconditions", "checkFromToIndex", "(IIILjava/util/function/BiFunction;)I"⟩ : MethodName) jdk_41_method_12_code 4 (some .int) [] ({ frames := 0, cells := 0, slots := 0, locals := 0 } : Room) Z #[(.int fa), (.int fb), (.int fc), .null] h (fun v' h' => v' = some (.int fa) ∧ h' = h) := by
  refine con_of (plainFor_of_name pn_5) hE (fun m => ef_rPC m fa fb fc) ?_
  intro p e s m below meth c T0 C X0
  have C : Cx p s m meth c Z "jdk/internal/util/Preconditions" "checkFromToIndex" jdk_41_method_12_code 4 (some .int) := C
  show Goes p e below _ T0 (mkF m 0 #[.val (.int fa), .val (.int fb), .val (.int fc), .val .null] [])
  refine g_iloadN C X0 d29_0 rfl ?_
  refine g_if (h0_lt _) C X0 d29_1 (fun q => absurd q h1) (fun _ => ?_)
  refine g_iloadN C X0 d29_4 rfl ?_
  refine g_iloadN C X0 d29_5 rfl ?_
  refine g_icmp (hI_gt _ _) C X0 d29_6 (fun q => absurd q h2) (fun _ => ?_)
  refine g_iloadN C X0 d29_9 rfl ?_
  refine g_iloadN C X0 d29_10 rfl ?_
  refine g_icmpn (hI_le _ _) C X0 d29_11 (fun _ => ?_) (fun q => absurd q h3)
  refine g_iloadN C X0 d29_22 rfl ?_
  exact g_retI C X0 d29_23 (by decide) (by decide) ⟨rfl, rfl⟩
theorem ef_rCF (m : MethodId) (fa : Int32) (fb : Int32) (fc : Int32) : entryFrame m #[(.int fa), (.int fb), (.int fc)] 3 = mkF m 0 #[.val (.int fa), .val (.int fb), .val (.int fc)] [] := by first | (simp [entryFrame, mkF, argsToLocals, Value.category]; done) | rfl
theorem d28_0 : Dc jdk_31_method_18_code 0 (.iload_n 0) 1 1 := ⟨by decide +kernel, rfl⟩
theorem d28_1 : Dc jdk_31_method_18_code 1 (.iload_n 1) 1 2 := ⟨by decide +kernel, rfl⟩
theorem d28_2 : Dc jdk_31_method_18_code 2 (.iload_n 2) 1 3 := ⟨by decide +kernel, rfl⟩
theorem d28_3 : Dc jdk_31_method_18_code 3 (.aconst_null) 1 4 := ⟨by decide +kernel, rfl⟩
theorem d28_4 : Dc jdk_31_method_18_code 4 (.invokestatic 111) 3 7 := ⟨by decide +kernel, rfl⟩
theorem pd_8 : parseMethodDescriptor "(IIILjava/util/function/BiFunction;)I" = some ⟨[.int, .int, .int, (.object "java/util/function/BiFunction")], some .int⟩ := by decide +kernel
theorem d28_7 : Dc jdk_31_method_18_code 7 (.ireturn) 1 8 := ⟨by decide +kernel, rfl⟩
theorem rCF (l : Launch) {Z : State} {a0 : Array Value} (hw : ∀ d ∈ tables_1, d.before a0 Z = true) {h : Heap} (hE : Ext Z.heap h) (fa : Int32) (fb : Int32) (fc : Int32)  (h1 : ¬ fa < 0) (h2 : ¬ fb < fa) (h3 : ¬ fc < fb) :
    Con l (⟨"java/util/Objects", "checkFromToIndex", "(III)I"⟩ : MethodName) jdk_31_method_18_code 3 (some .int) [] ({ frames := 1, cells := 0, slots := 0, locals := 24 } : Room) Z #[(.int fa), (.int fb), (.int fc)] h (fun v' h' => v' = some (.int fa) ∧ h' = h) := by
  refine con_of (plainFor_of_name pn_4) hE (fun m => ef_rCF m fa fb fc) ?_
  intro p e s m below meth c T0 C X0
  have C : Cx p s m meth c Z "java/util/Objects" "checkFromToIndex" jdk_31_method_18_code 3 (some .int) := C
  show Goes p e below _ T0 (mkF m 0 #[.val (.int fa), .val (.int fb), .val (.int fc)] [])
  refine g_iloadN C X0 d28_0 rfl ?_
  refine g_iloadN C X0 d28_1 rfl ?_
  refine g_iloadN C X0 d28_2 rfl ?_
  refine g_aconst_null C X0 d28_3 ?_
  refine g_staticP (argsL := [(.int fa), (.int fb), (.int fc), .null]) (st := []) C X0 (wd hw 181 rfl) (wd hw 182 rfl) (wd hw 183 rfl) (wd hw 184 rfl) (by decide) (pay_of (W' := 0) (rPC l hw X0.ext fa fb fc h1 h2 h3) C.hZ (wd hw 184 rfl) (wd hw 183 rfl) (by decide) (by decide)) pd_8 rfl rfl _ rfl (Nat.le_of_eq rfl) d28_4 (by decide) (by decide) (fun T199 X199 => ?_)
  exact g_retI C X199 d28_7 (by decide) (by decide) ⟨rfl, rfl⟩
theorem ef_rWk10 (m : MethodId) (nw : Addr) (ar : Addr) (nb : Int32) : entryFrame m #[(.ref nw), (.ref ar), (.int 0), (.int nb), (.int 0)] 7 = mkF m 0 #[.val (.ref nw), .val (.ref ar), .val (.int 0), .val (.int nb), .val (.int 0), .unset, .unset] [] := by first | (simp [entryFrame, mkF, argsToLocals, Value.category]; done) | rfl
theorem d30_0 : Dc jdk_2097_method_103_code 0 (.bipush 32) 2 2 := ⟨by decide +kernel, rfl⟩
theorem d30_2 : Dc jdk_2097_method_103_code 2 (.iload_n 3) 1 3 := ⟨by decide +kernel, rfl⟩
theorem d30_3 : Dc jdk_2097_method_103_code 3 (.isub) 1 4 := ⟨by decide +kernel, rfl⟩
theorem d30_4 : Dc jdk_2097_method_103_code 4 (.istore 5) 2 6 := ⟨by decide +kernel, rfl⟩
theorem d30_6 : Dc jdk_2097_method_103_code 6 (.iconst 0) 1 7 := ⟨by decide +kernel, rfl⟩
theorem d30_7 : Dc jdk_2097_method_103_code 7 (.istore 6) 2 9 := ⟨by decide +kernel, rfl⟩
theorem d30_9 : Dc jdk_2097_method_103_code 9 (.iload 6) 2 11 := ⟨by decide +kernel, rfl⟩
theorem d30_11 : Dc jdk_2097_method_103_code 11 (.iload 4) 2 13 := ⟨by decide +kernel, rfl⟩
theorem d30_13 : Dj jdk_2097_method_103_code 13 (.if_icmp .ge 29) 29 3 16 42 := ⟨by decide +kernel, rfl, by decide, by decide⟩
theorem d30_42 : Dc jdk_2097_method_103_code 42 (.return_) 1 43 := ⟨by decide +kernel, rfl⟩
theorem rWk10 (l : Launch) {Z : State} {a0 : Array Value} (hw : ∀ d ∈ tables_1, d.before a0 Z = true) {h : Heap} (hE : Ext Z.heap h) (nw : Addr) (ar : Addr) (nb : Int32) (ln : Int32) (VN : Ia Z h nw ln) (VA : IaS Z h ar 1) (nn_ : Z.heap.size ≤ nw) (na_ : ar ≠ nw) (k0 : 1 ≤ ln.toInt) :
    Con l (⟨"java/math/BigInteger", "shiftLeftImplWorker", "([I[IIII)V"⟩ : MethodName) jdk_2097_method_103_code 7 none [] ({ frames := 0, cells := 0, slots := 0, locals := 0 } : Room) Z #[(.ref nw), (.ref ar), (.int 0), (.int nb), (.int 0)] h (fun v' h' => v' = none ∧ Keep h h' [nw] ∧ Ia Z h' nw ln) := by
  refine con_of (plainFor_of_name pn_3) hE (fun m => ef_rWk10 m nw ar nb) ?_
  intro p e s m below meth c T0 C X0
  have C : Cx p s m meth c Z "java/math/BigInteger" "shiftLeftImplWorker" jdk_2097_method_103_code 7 none := C
  show Goes p e below _ T0 (mkF m 0 #[.val (.ref nw), .val (.ref ar), .val (.int 0), .val (.int nb), .val (.int 0), .unset, .unset] [])
  refine g_bipush 32 C X0 d30_0 rfl ?_
  refine g_iloadN C X0 d30_2 rfl ?_
  refine g_isub C X0 d30_3 ?_
  refine g_istore C X0 d30_4 (l' := #[.val (.ref nw), .val (.ref ar), .val (.int 0), .val (.int nb), .val (.int 0), .val (.int ((32 : Int32) - nb)), .unset]) rfl ?_
  refine g_iconst 0 C X0 d30_6 rfl ?_
  refine g_istore C X0 d30_7 (l' := #[.val (.ref nw), .val (.ref ar), .val (.int 0), .val (.int nb), .val (.int 0), .val (.int ((32 : Int32) - nb)), .val (.int 0)]) rfl ?_
  refine g_iload C X0 d30_9 rfl ?_
  refine g_iload C X0 d30_11 rfl ?_
  refine g_icmpn (hI_ge _ _) C X0 d30_13 (fun _ => ?_) (fun q => absurd q (by decide))
  exact g_retV C X0 d30_42 (by decide) (by decide) ⟨rfl, (Keep.refl h [nw]), VN⟩
theorem ef_rWk11 (m : MethodId) (nw : Addr) (ar : Addr) (nb : Int32) : entryFrame m #[(.ref nw), (.ref ar), (.int 1), (.int nb), (.int 0)] 7 = mkF m 0 #[.val (.ref nw), .val (.ref ar), .val (.int 1), .val (.int nb), .val (.int 0), .unset, .unset] [] := by first | (simp [entryFrame, mkF, argsToLocals, Value.category]; done) | rfl
theorem rWk11 (l : Launch) {Z : State} {a0 : Array Value} (hw : ∀ d ∈ tables_1, d.before a0 Z = true) {h : Heap} (hE : Ext Z.heap h) (nw : Addr) (ar : Addr) (nb : Int32) (ln : Int32) (VN : Ia Z h nw ln) (VA : IaS Z h ar 1) (nn_ : Z.heap.size ≤ nw) (na_ : ar ≠ nw) (k0 : 2 ≤ ln.toInt) :
    Con l (⟨"java/math/BigInteger", "shiftLeftImplWorker", "([I[IIII)V"⟩ : MethodName) jdk_2097_method_103_code 7 none [] ({ frames := 0, cells := 0, slots := 0, locals := 0 } : Room) Z #[(.ref nw), (.ref ar), (.int 1), (.int nb), (.int 0)] h (fun v' h' => v' = none ∧ Keep h h' [nw] ∧ Ia Z h' nw ln) := by
  refine con_of (plainFor_of_name pn_3) hE (fun m => ef_rWk11 m nw ar nb) ?_
  intro p e s m below meth c T0 C X0
  have C : Cx p s m meth c Z "java/math/BigInteger" "shiftLeftImplWorker" jdk_2097_method_103_code 7 none := C
  show Goes p e below _ T0 (mkF m 0 #[.val (.ref nw), .val (.ref ar), .val (.int 1), .val (.int nb), .val (.int 0), .unset, .unset] [])
  refine g_bipush 32 C X0 d30_0 rfl ?_
  refine g_iloadN C X0 d30_2 rfl ?_
  refine g_isub C X0 d30_3 ?_
  refine g_istore C X0 d30_4 (l' := #[.val (.ref nw), .val (.ref ar), .val (.int 1), .val (.int nb), .val (.int 0), .val (.int ((32 : Int32) - nb)), .unset]) rfl ?_
  refine g_iconst 0 C X0 d30_6 rfl ?_
  refine g_istore C X0 d30_7 (l' := #[.val (.ref nw), .val (.ref ar), .val (.int 1), .val (.int nb), .val (.int 0), .val (.int ((32 : Int32) - nb)), .val (.int 0)]) rfl ?_
  refine g_iload C X0 d30_9 rfl ?_
  refine g_iload C X0 d30_11 rfl ?_
  refine g_icmpn (hI_ge _ _) C X0 d30_13 (fun _ => ?_) (fun q => absurd q (by decide))
  exact g_retV C X0 d30_42 (by decide) (by decide) ⟨rfl, (Keep.refl h [nw]), VN⟩
theorem ef_rSL1 (m : MethodId) (ar : Addr) (kk : Int32) : entryFrame m #[(.ref ar), (.int kk)] 10 = mkF m 0 #[.val (.ref ar), .val (.int kk), .unset, .unset, .unset, .unset, .unset, .unset, .unset, .unset] [] := by first | (simp [entryFrame, mkF, argsToLocals, Value.category]; done) | rfl
theorem d27_0 : Dc jdk_2097_method_102_code 0 (.iload_n 1) 1 1 := ⟨by decide +kernel, rfl⟩
theorem d27_1 : Dc jdk_2097_method_102_code 1 (.iconst 5) 1 2 := ⟨by decide +kernel, rfl⟩
theorem d27_2 : Dc jdk_2097_method_102_code 2 (.iushr) 1 3 := ⟨by decide +kernel, rfl⟩
theorem d27_3 : Dc jdk_2097_method_102_code 3 (.istore_n 2) 1 4 := ⟨by decide +kernel, rfl⟩
theorem d27_4 : Dc jdk_2097_method_102_code 4 (.iload_n 1) 1 5 := ⟨by decide +kernel, rfl⟩
theorem d27_5 : Dc jdk_2097_method_102_code 5 (.bipush 31) 2 7 := ⟨by decide +kernel, rfl⟩
theorem d27_7 : Dc jdk_2097_method_102_code 7 (.iand) 1 8 := ⟨by decide +kernel, rfl⟩
theorem d27_8 : Dc jdk_2097_method_102_code 8 (.istore_n 3) 1 9 := ⟨by decide +kernel, rfl⟩
theorem d27_9 : Dc jdk_2097_method_102_code 9 (.aload_n 0) 1 10 := ⟨by decide +kernel, rfl⟩
theorem d27_10 : Dc jdk_2097_method_102_code 10 (.arraylength) 1 11 := ⟨by decide +kernel, rfl⟩
theorem d27_11 : Dc jdk_2097_method_102_code 11 (.istore 4) 2 13 := ⟨by decide +kernel, rfl⟩
theorem d27_13 : Dc jdk_2097_method_102_code 13 (.aconst_null) 1 14 := ⟨by decide +kernel, rfl⟩
theorem d27_14 : Dc jdk_2097_method_102_code 14 (.astore 5) 2 16 := ⟨by decide +kernel, rfl⟩
theorem d27_16 : Dc jdk_2097_method_102_code 16 (.iload_n 3) 1 17 := ⟨by decide +kernel, rfl⟩
theorem d27_17 : Dj jdk_2097_method_102_code 17 (.ifCond .ne 24) 24 3 20 41 := ⟨by decide +kernel, rfl, by decide, by decide⟩
theorem d27_41 : Dc jdk_2097_method_102_code 41 (.iconst 0) 1 42 := ⟨by decide +kernel, rfl⟩
theorem d27_42 : Dc jdk_2097_method_102_code 42 (.istore 6) 2 44 := ⟨by decide +kernel, rfl⟩
theorem d27_44 : Dc jdk_2097_method_102_code 44 (.bipush 32) 2 46 := ⟨by decide +kernel, rfl⟩
theorem d27_46 : Dc jdk_2097_method_102_code 46 (.iload_n 3) 1 47 := ⟨by decide +kernel, rfl⟩
theorem d27_47 : Dc jdk_2097_method_102_code 47 (.isub) 1 48 := ⟨by decide +kernel, rfl⟩
theorem d27_48 : Dc jdk_2097_method_102_code 48 (.istore 7) 2 50 := ⟨by decide +kernel, rfl⟩
theorem d27_50 : Dc jdk_2097_method_102_code 50 (.aload_n 0) 1 51 := ⟨by decide +kernel, rfl⟩
theorem d27_51 : Dc jdk_2097_method_102_code 51 (.iconst 0) 1 52 := ⟨by decide +kernel, rfl⟩
theorem d27_52 : Dc jdk_2097_method_102_code 52 (.iaload) 1 53 := ⟨by decide +kernel, rfl⟩
theorem d27_53 : Dc jdk_2097_method_102_code 53 (.iload 7) 2 55 := ⟨by decide +kernel, rfl⟩
theorem d27_55 : Dc jdk_2097_method_102_code 55 (.iushr) 1 56 := ⟨by decide +kernel, rfl⟩
theorem d27_56 : Dc jdk_2097_method_102_code 56 (.istore 8) 2 58 := ⟨by decide +kernel, rfl⟩
theorem d27_58 : Dc jdk_2097_method_102_code 58 (.iload 8) 2 60 := ⟨by decide +kernel, rfl⟩
theorem d27_60 : Dj jdk_2097_method_102_code 60 (.ifCond .eq 26) 26 3 63 86 := ⟨by decide +kernel, rfl, by decide, by decide⟩
theorem d27_86 : Dc jdk_2097_method_102_code 86 (.iload 4) 2 88 := ⟨by decide +kernel, rfl⟩
theorem d27_88 : Dc jdk_2097_method_102_code 88 (.iload_n 2) 1 89 := ⟨by decide +kernel, rfl⟩
theorem d27_89 : Dc jdk_2097_method_102_code 89 (.iadd) 1 90 := ⟨by decide +kernel, rfl⟩
theorem d27_90 : Dc jdk_2097_method_102_code 90 (.newarray .int) 2 92 := ⟨by decide +kernel, rfl⟩
theorem d27_92 : Dc jdk_2097_method_102_code 92 (.astore 5) 2 94 := ⟨by decide +kernel, rfl⟩
theorem d27_94 : Dc jdk_2097_method_102_code 94 (.iload 4) 2 96 := ⟨by decide +kernel, rfl⟩
theorem d27_96 : Dc jdk_2097_method_102_code 96 (.iconst 1) 1 97 := ⟨by decide +kernel, rfl⟩
theorem d27_97 : Dc jdk_2097_method_102_code 97 (.isub) 1 98 := ⟨by decide +kernel, rfl⟩
theorem d27_98 : Dc jdk_2097_method_102_code 98 (.istore 9) 2 100 := ⟨by decide +kernel, rfl⟩
theorem d27_100 : Dc jdk_2097_method_102_code 100 (.iconst 0) 1 101 := ⟨by decide +kernel, rfl⟩
theorem d27_101 : Dc jdk_2097_method_102_code 101 (.iload 9) 2 103 := ⟨by decide +kernel, rfl⟩
theorem d27_103 : Dc jdk_2097_method_102_code 103 (.iconst 1) 1 104 := ⟨by decide +kernel, rfl⟩
theorem d27_104 : Dc jdk_2097_method_102_code 104 (.iadd) 1 105 := ⟨by decide +kernel, rfl⟩
theorem d27_105 : Dc jdk_2097_method_102_code 105 (.aload_n 0) 1 106 := ⟨by decide +kernel, rfl⟩
theorem d27_106 : Dc jdk_2097_method_102_code 106 (.arraylength) 1 107 := ⟨by decide +kernel, rfl⟩
theorem d27_107 : Dc jdk_2097_method_102_code 107 (.invokestatic 611) 3 110 := ⟨by decide +kernel, rfl⟩
theorem pd_9 : parseMethodDescriptor "(III)I" = some ⟨[.int, .int, .int], some .int⟩ := by decide +kernel
theorem d27_110 : Dc jdk_2097_method_102_code 110 (.pop) 1 111 := ⟨by decide +kernel, rfl⟩
theorem d27_111 : Dc jdk_2097_method_102_code 111 (.iload 6) 2 113 := ⟨by decide +kernel, rfl⟩
theorem d27_113 : Dc jdk_2097_method_102_code 113 (.iload 9) 2 115 := ⟨by decide +kernel, rfl⟩
theorem d27_115 : Dc jdk_2097_method_102_code 115 (.iload 6) 2 117 := ⟨by decide +kernel, rfl⟩
theorem d27_117 : Dc jdk_2097_method_102_code 117 (.iadd) 1 118 := ⟨by decide +kernel, rfl⟩
theorem d27_118 : Dc jdk_2097_method_102_code 118 (.iconst 1) 1 119 := ⟨by decide +kernel, rfl⟩
theorem d27_119 : Dc jdk_2097_method_102_code 119 (.iadd) 1 120 := ⟨by decide +kernel, rfl⟩
theorem d27_120 : Dc jdk_2097_method_102_code 120 (.aload 5) 2 122 := ⟨by decide +kernel, rfl⟩
theorem d27_122 : Dc jdk_2097_method_102_code 122 (.arraylength) 1 123 := ⟨by decide +kernel, rfl⟩
theorem d27_123 : Dc jdk_2097_method_102_code 123 (.invokestatic 611) 3 126 := ⟨by decide +kernel, rfl⟩
theorem d27_126 : Dc jdk_2097_method_102_code 126 (.pop) 1 127 := ⟨by decide +kernel, rfl⟩
theorem d27_127 : Dc jdk_2097_method_102_code 127 (.aload 5) 2 129 := ⟨by decide +kernel, rfl⟩
theorem d27_129 : Dc jdk_2097_method_102_code 129 (.aload_n 0) 1 130 := ⟨by decide +kernel, rfl⟩
theorem d27_130 : Dc jdk_2097_method_102_code 130 (.iload 6) 2 132 := ⟨by decide +kernel, rfl⟩
theorem d27_132 : Dc jdk_2097_method_102_code 132 (.iload_n 3) 1 133 := ⟨by decide +kernel, rfl⟩
theorem d27_133 : Dc jdk_2097_method_102_code 133 (.iload 9) 2 135 := ⟨by decide +kernel, rfl⟩
theorem d27_135 : Dc jdk_2097_method_102_code 135 (.invokestatic 618) 3 138 := ⟨by decide +kernel, rfl⟩
theorem pd_10 : parseMethodDescriptor "([I[IIII)V" = some ⟨[(.array .int), (.array .int), .int, .int, .int], none⟩ := by decide +kernel
theorem d27_138 : Dc jdk_2097_method_102_code 138 (.aload 5) 2 140 := ⟨by decide +kernel, rfl⟩
theorem d27_140 : Dc jdk_2097_method_102_code 140 (.iload 9) 2 142 := ⟨by decide +kernel, rfl⟩
theorem d27_142 : Dc jdk_2097_method_102_code 142 (.iload 6) 2 144 := ⟨by decide +kernel, rfl⟩
theorem d27_144 : Dc jdk_2097_method_102_code 144 (.iadd) 1 145 := ⟨by decide +kernel, rfl⟩
theorem d27_145 : Dc jdk_2097_method_102_code 145 (.aload_n 0) 1 146 := ⟨by decide +kernel, rfl⟩
theorem d27_146 : Dc jdk_2097_method_102_code 146 (.iload 9) 2 148 := ⟨by decide +kernel, rfl⟩
theorem d27_148 : Dc jdk_2097_method_102_code 148 (.iaload) 1 149 := ⟨by decide +kernel, rfl⟩
theorem d27_149 : Dc jdk_2097_method_102_code 149 (.iload_n 3) 1 150 := ⟨by decide +kernel, rfl⟩
theorem d27_150 : Dc jdk_2097_method_102_code 150 (.ishl) 1 151 := ⟨by decide +kernel, rfl⟩
theorem d27_151 : Dc jdk_2097_method_102_code 151 (.iastore) 1 152 := ⟨by decide +kernel, rfl⟩
theorem d27_152 : Dc jdk_2097_method_102_code 152 (.aload 5) 2 154 := ⟨by decide +kernel, rfl⟩
theorem d27_154 : Dc jdk_2097_method_102_code 154 (.areturn) 1 155 := ⟨by decide +kernel, rfl⟩
theorem d27_63 : Dc jdk_2097_method_102_code 63 (.iload 4) 2 65 := ⟨by decide +kernel, rfl⟩
theorem d27_65 : Dc jdk_2097_method_102_code 65 (.iload_n 2) 1 66 := ⟨by decide +kernel, rfl⟩
theorem d27_66 : Dc jdk_2097_method_102_code 66 (.iadd) 1 67 := ⟨by decide +kernel, rfl⟩
theorem d27_67 : Dc jdk_2097_method_102_code 67 (.iconst 1) 1 68 := ⟨by decide +kernel, rfl⟩
theorem d27_68 : Dc jdk_2097_method_102_code 68 (.iadd) 1 69 := ⟨by decide +kernel, rfl⟩
theorem d27_69 : Dc jdk_2097_method_102_code 69 (.newarray .int) 2 71 := ⟨by decide +kernel, rfl⟩
theorem d27_71 : Dc jdk_2097_method_102_code 71 (.astore 5) 2 73 := ⟨by decide +kernel, rfl⟩
theorem d27_73 : Dc jdk_2097_method_102_code 73 (.aload 5) 2 75 := ⟨by decide +kernel, rfl⟩
theorem d27_75 : Dc jdk_2097_method_102_code 75 (.iload 6) 2 77 := ⟨by decide +kernel, rfl⟩
theorem d27_77 : Dc jdk_2097_method_102_code 77 (.iinc 6 1) 3 80 := ⟨by decide +kernel, rfl⟩
theorem d27_80 : Dc jdk_2097_method_102_code 80 (.iload 8) 2 82 := ⟨by decide +kernel, rfl⟩
theorem d27_82 : Dc jdk_2097_method_102_code 82 (.iastore) 1 83 := ⟨by decide +kernel, rfl⟩
theorem d27_83 : Dj jdk_2097_method_102_code 83 (.goto 11) 11 3 86 94 := ⟨by decide +kernel, rfl, by decide, by decide⟩
theorem d27_20 : Dc jdk_2097_method_102_code 20 (.iload 4) 2 22 := ⟨by decide +kernel, rfl⟩
theorem d27_22 : Dc jdk_2097_method_102_code 22 (.iload_n 2) 1 23 := ⟨by decide +kernel, rfl⟩
theorem d27_23 : Dc jdk_2097_method_102_code 23 (.iadd) 1 24 := ⟨by decide +kernel, rfl⟩
theorem d27_24 : Dc jdk_2097_method_102_code 24 (.newarray .int) 2 26 := ⟨by decide +kernel, rfl⟩
theorem d27_26 : Dc jdk_2097_method_102_code 26 (.astore 5) 2 28 := ⟨by decide +kernel, rfl⟩
theorem d27_28 : Dc jdk_2097_method_102_code 28 (.aload_n 0) 1 29 := ⟨by decide +kernel, rfl⟩
theorem d27_29 : Dc jdk_2097_method_102_code 29 (.iconst 0) 1 30 := ⟨by decide +kernel, rfl⟩
theorem d27_30 : Dc jdk_2097_method_102_code 30 (.aload 5) 2 32 := ⟨by decide +kernel, rfl⟩
theorem d27_32 : Dc jdk_2097_method_102_code 32 (.iconst 0) 1 33 := ⟨by decide +kernel, rfl⟩
theorem d27_33 : Dc jdk_2097_method_102_code 33 (.iload 4) 2 35 := ⟨by decide +kernel, rfl⟩
theorem d27_35 : Dc jdk_2097_method_102_code 35 (.invokestatic 388) 3 38 := ⟨by decide +kernel, rfl⟩
theorem d27_38 : Dj jdk_2097_method_102_code 38 (.goto 114) 114 3 41 152 := ⟨by decide +kernel, rfl, by decide, by decide⟩
theorem rSL1 (l : Launch) {Z : State} {a0 : Array Value} (hw : ∀ d ∈ tables_1, d.before a0 Z = true) {h : Heap} (hE : Ext Z.heap h) (ar : Addr) (kk : Int32)  (VA : IaS Z h ar 1) (k0 : 0 ≤ kk.toInt) (k1 : kk.toInt ≤ 40) :
    Con l (⟨"java/math/BigInteger", "shiftLeft", "([II)[I"⟩ : MethodName) jdk_2097_method_102_code 10 (some (.array .int)) [] ({ frames := 2, cells := 1, slots := 5, locals := 48 } : Room) Z #[(.ref ar), (.int kk)] h (fun v' h' => ∃ (br : Addr) (nn : Int32), v' = some (.ref br) ∧ Ext h h' ∧ IaS Z h' br nn ∧ 1 ≤ nn.toInt ∧ nn.toInt ≤ 5) := by
  refine con_of (plainFor_of_name pn_3) hE (fun m => ef_rSL1 m ar kk) ?_
  intro p e s m below meth c T0 C X0
  have C : Cx p s m meth c Z "java/math/BigInteger" "shiftLeft" jdk_2097_method_102_code 10 (some (.array .int)) := C
  show Goes p e below _ T0 (mkF m 0 #[.val (.ref ar), .val (.int kk), .unset, .unset, .unset, .unset, .unset, .unset, .unset, .unset] [])
  refine g_iloadN C X0 d27_0 rfl ?_
  refine g_iconst 5 C X0 d27_1 rfl ?_
  refine g_iushr C X0 d27_2 ?_
  refine g_istoreN C X0 d27_3 (l' := #[.val (.ref ar), .val (.int kk), .val (.int ((kk.toUInt32 >>> ((5 : Int32) &&& 31).toUInt32).toInt32)), .unset, .unset, .unset, .unset, .unset, .unset, .unset]) rfl ?_
  have e0 := own_ush5 kk k0
  obtain ⟨ni, hni⟩ : ∃ z : Int32, ((kk.toUInt32 >>> ((5 : Int32) &&& 31).toUInt32).toInt32) = z := ⟨_, rfl⟩
  rw [hni] at e0 ⊢
  have c1 : (1 : Int32).toInt = 1 := rfl
  have c2 : (1 : Int32).toInt = 1 := rfl
  have a1 := own_add (1 : Int32) ni (by omega) (by omega)
  have a2 := own_add ((1 : Int32) + ni) 1 (by omega) (by omega)
  show Goes p e below _ T0 (mkF m 4 #[.val (.ref ar), .val (.int kk), .val (.int ni), .unset, .unset, .unset, .unset, .unset, .unset, .unset] [])
  refine g_iloadN C X0 d27_4 rfl ?_
  refine g_bipush 31 C X0 d27_5 rfl ?_
  refine g_iand C X0 d27_7 ?_
  refine g_istoreN C X0 d27_8 (l' := #[.val (.ref ar), .val (.int kk), .val (.int ni), .val (.int (kk &&& (31 : Int32))), .unset, .unset, .unset, .unset, .unset, .unset]) rfl ?_
  obtain ⟨nb, hnb⟩ : ∃ z : Int32, (kk &&& (31 : Int32)) = z := ⟨_, rfl⟩
  rw [hnb]
  show Goes p e below _ T0 (mkF m 9 #[.val (.ref ar), .val (.int kk), .val (.int ni), .val (.int nb), .unset, .unset, .unset, .unset, .unset, .unset] [])
  refine g_aloadN C X0 d27_9 rfl rfl ?_
  refine g_arraylengthI C X0 VA d27_10 ?_
  refine g_istore C X0 d27_11 (l' := #[.val (.ref ar), .val (.int kk), .val (.int ni), .val (.int nb), .val (.int 1), .unset, .unset, .unset, .unset, .unset]) rfl ?_
  refine g_aconst_null C X0 d27_13 ?_
  refine g_astore C X0 d27_14 rfl (l' := #[.val (.ref ar), .val (.int kk), .val (.int ni), .val (.int nb), .val (.int 1), .val .null, .unset, .unset, .unset, .unset]) rfl ?_
  refine g_iloadN C X0 d27_16 rfl ?_
  refine g_ifn (h0_ne _) C X0 d27_17 (fun c17_200 => ?_) (fun c17_200 => ?_)
  · refine g_iconst 0 C X0 d27_41 rfl ?_
    refine g_istore C X0 d27_42 (l' := #[.val (.ref ar), .val (.int kk), .val (.int ni), .val (.int nb), .val (.int 1), .val .null, .val (.int 0), .unset, .unset, .unset]) rfl ?_
    refine g_bipush 32 C X0 d27_44 rfl ?_
    refine g_iloadN C X0 d27_46 rfl ?_
    refine g_isub C X0 d27_47 ?_
    refine g_istore C X0 d27_48 (l' := #[.val (.ref ar), .val (.int kk), .val (.int ni), .val (.int nb), .val (.int 1), .val .null, .val (.int 0), .val (.int ((32 : Int32) - nb)), .unset, .unset]) rfl ?_
    refine g_aloadN C X0 d27_50 rfl rfl ?_
    refine g_iconst 0 C X0 d27_51 rfl ?_
    refine g_ialoadI C X0 VA d27_52 (by decide) (by decide) (fun v201 => ?_)
    refine g_iload C X0 d27_53 rfl ?_
    refine g_iushr C X0 d27_55 ?_
    refine g_istore C X0 d27_56 (l' := #[.val (.ref ar), .val (.int kk), .val (.int ni), .val (.int nb), .val (.int 1), .val .null, .val (.int 0), .val (.int ((32 : Int32) - nb)), .val (.int ((v201.toUInt32 >>> (((32 : Int32) - nb) &&& 31).toUInt32).toInt32)), .unset]) rfl ?_
    refine g_iload C X0 d27_58 rfl ?_
    refine g_if (h0_eq _) C X0 d27_60 (fun c60_202 => ?_) (fun c60_202 => ?_)
    · refine g_iload C X0 d27_86 rfl ?_
      refine g_iloadN C X0 d27_88 rfl ?_
      refine g_iadd C X0 d27_89 ?_
      refine g_newarrayI C X0 (wd hw 97 rfl) d27_90 (own_nn (by omega)) 5 (by have := own_tn (x := ((1 : Int32) + ni)) (by omega); omega) (by decide) (by decide) (by decide) (fun T203 h203 b203 g_b203 n_b203 X203 E203 V203 => ?_)
      have lt204 : ar < b203 := by rw [g_b203]; exact IaS.lt VA
      refine g_astore C X203 d27_92 rfl (l' := #[.val (.ref ar), .val (.int kk), .val (.int ni), .val (.int nb), .val (.int 1), .val (.ref b203), .val (.int 0), .val (.int ((32 : Int32) - nb)), .val (.int ((v201.toUInt32 >>> (((32 : Int32) - nb) &&& 31).toUInt32).toInt32)), .unset]) rfl ?_
      refine g_iload C X203 d27_94 rfl ?_
      refine g_iconst 1 C X203 d27_96 rfl ?_
      refine g_isub C X203 d27_97 ?_
      refine g_istore C X203 d27_98 (l' := #[.val (.ref ar), .val (.int kk), .val (.int ni), .val (.int nb), .val (.int 1), .val (.ref b203), .val (.int 0), .val (.int ((32 : Int32) - nb)), .val (.int ((v201.toUInt32 >>> (((32 : Int32) - nb) &&& 31).toUInt32).toInt32)), .val (.int 0)]) rfl ?_
      refine g_iconst 0 C X203 d27_100 rfl ?_
      refine g_iload C X203 d27_101 rfl ?_
      refine g_iconst 1 C X203 d27_103 rfl ?_
      refine g_iadd C X203 d27_104 ?_
      refine g_aloadN C X203 d27_105 rfl rfl ?_
      have f205 := (IaS.ext VA E203)
      refine g_arraylengthI C X203 f205 d27_106 ?_
      refine g_staticP (argsL := [(.int 0), (.int 1), (.int 1)]) (st := []) C X203 (wd hw 178 rfl) (wd hw 179 rfl) (wd hw 162 rfl) (wd hw 180 rfl) (by decide) (pay_of (W' := 0) (rCF l hw X203.ext (0 : Int32) (1 : Int32) (1 : Int32) (by decide) (by decide) (by decide)) C.hZ (wd hw 180 rfl) (wd hw 162 rfl) (by decide) (by decide)) pd_9 rfl rfl _ rfl (Nat.le_of_eq rfl) d27_107 (by decide) (by decide) (fun T206 X206 => ?_)
      refine g_pop C X206 d27_110 rfl ?_
      refine g_iload C X206 d27_111 rfl ?_
      refine g_iload C X206 d27_113 rfl ?_
      refine g_iload C X206 d27_115 rfl ?_
      refine g_iadd C X206 d27_117 ?_
      refine g_iconst 1 C X206 d27_118 rfl ?_
      refine g_iadd C X206 d27_119 ?_
      refine g_aload C X206 d27_120 rfl rfl ?_
      refine g_arraylengthI C X206 (Ia.toS V203) d27_122 ?_
      refine g_staticP (argsL := [(.int 0), (.int 1), (.int ((1 : Int32) + ni))]) (st := []) C X206 (wd hw 178 rfl) (wd hw 179 rfl) (wd hw 162 rfl) (wd hw 180 rfl) (by decide) (pay_of (W' := 0) (rCF l hw X206.ext (0 : Int32) (1 : Int32) ((1 : Int32) + ni) (by decide) (by decide) (own_nlt (by rw [show (1 : Int32).toInt = 1 from rfl]; omega))) C.hZ (wd hw 180 rfl) (wd hw 162 rfl) (by decide) (by decide)) pd_9 rfl rfl _ rfl (Nat.le_of_eq rfl) d27_123 (by decide) (by decide) (fun T207 X207 => ?_)
      refine g_pop C X207 d27_126 rfl ?_
      refine g_aload C X207 d27_127 rfl rfl ?_
      refine g_aloadN C X207 d27_129 rfl rfl ?_
      refine g_iload C X207 d27_130 rfl ?_
      refine g_iloadN C X207 d27_132 rfl ?_
      refine g_iload C X207 d27_133 rfl ?_
      refine g_static (argsL := [(.ref b203), (.ref ar), (.int 0), (.int nb), (.int 0)]) (st := []) C X207 (wd hw 185 rfl) (wd hw 186 rfl) (wd hw 36 rfl) (wd hw 187 rfl) (by decide) (pay_of (W' := 0) (rWk10 l hw X207.ext b203 ar nb ((1 : Int32) + ni) V203 f205 n_b203 (Nat.ne_of_lt lt204) (by omega)) C.hZ (wd hw 187 rfl) (wd hw 36 rfl) (by decide) (by decide)) pd_10 rfl rfl _ rfl (Nat.le_of_eq rfl) d27_135 (by decide) (by decide) (fun T208 h208 v208 q208 X208 => ?_)
      obtain ⟨rfl, K208, V208⟩ := q208
      show Goes p e below _ T208 (mkF m 138 #[.val (.ref ar), .val (.int kk), .val (.int ni), .val (.int nb), .val (.int 1), .val (.ref b203), .val (.int 0), .val (.int ((32 : Int32) - nb)), .val (.int ((v201.toUInt32 >>> (((32 : Int32) - nb) &&& 31).toUInt32).toInt32)), .val (.int 0)] [])
      refine g_aload C X208 d27_138 rfl rfl ?_
      refine g_iload C X208 d27_140 rfl ?_
      refine g_iload C X208 d27_142 rfl ?_
      refine g_iadd C X208 d27_144 ?_
      refine g_aloadN C X208 d27_145 rfl rfl ?_
      refine g_iload C X208 d27_146 rfl ?_
      have f209 := (IaS.keep f205 K208 (ninS (Nat.ne_of_lt lt204) nin0))
      refine g_ialoadI C X208 f209 d27_148 (by decide) (by decide) (fun v210 => ?_)
      refine g_iloadN C X208 d27_149 rfl ?_
      refine g_ishl C X208 d27_150 ?_
      show Goes p e below _ T208 (mkF m 151 #[.val (.ref ar), .val (.int kk), .val (.int ni), .val (.int nb), .val (.int 1), .val (.ref b203), .val (.int 0), .val (.int ((32 : Int32) - nb)), .val (.int ((v201.toUInt32 >>> (((32 : Int32) - nb) &&& 31).toUInt32).toInt32)), .val (.int 0)] [(.int (v210 <<< (nb &&& 31))), (.int 0), (.ref b203)])
      refine g_iastoreI C X208 V208 n_b203 d27_151 (by decide) (own_lt (by rw [show (0 : Int32).toInt = 0 from rfl]; omega)) (fun T211 h211 X211 W211 V211 => ?_)
      refine g_aload C X211 d27_152 rfl rfl ?_
      have sz212 : h.size ≤ b203 := by rw [g_b203]; exact (Keep.refl h []).1
      have kp213 := (Keep.refl h []).ext E203
      have kp214 := kp213.trans K208 (allS (Or.inr sz212) all0)
      have kp215 := kp214.wr W211 (Or.inr sz212)
      exact g_retA C X211 rfl rfl d27_154 (by decide) (by decide) ⟨b203, ((1 : Int32) + ni), rfl, keep_ext kp215, (Ia.toS V211), by omega, by omega⟩
    · refine g_iload C X0 d27_63 rfl ?_
      refine g_iloadN C X0 d27_65 rfl ?_
      refine g_iadd C X0 d27_66 ?_
      refine g_iconst 1 C X0 d27_67 rfl ?_
      refine g_iadd C X0 d27_68 ?_
      refine g_newarrayI C X0 (wd hw 97 rfl) d27_69 (own_nn (by omega)) 5 (by have := own_tn (x := (((1 : Int32) + ni) + (1 : Int32))) (by omega); omega) (by decide) (by decide) (by decide) (fun T216 h216 b216 g_b216 n_b216 X216 E216 V216 => ?_)
      have lt217 : ar < b216 := by rw [g_b216]; exact IaS.lt VA
      refine g_astore C X216 d27_71 rfl (l' := #[.val (.ref ar), .val (.int kk), .val (.int ni), .val (.int nb), .val (.int 1), .val (.ref b216), .val (.int 0), .val (.int ((32 : Int32) - nb)), .val (.int ((v201.toUInt32 >>> (((32 : Int32) - nb) &&& 31).toUInt32).toInt32)), .unset]) rfl ?_
      refine g_aload C X216 d27_73 rfl rfl ?_
      refine g_iload C X216 d27_75 rfl ?_
      refine g_iinc 1 C X216 d27_77 rfl rfl (l' := #[.val (.ref ar), .val (.int kk), .val (.int ni), .val (.int nb), .val (.int 1), .val (.ref b216), .val (.int 1), .val (.int ((32 : Int32) - nb)), .val (.int ((v201.toUInt32 >>> (((32 : Int32) - nb) &&& 31).toUInt32).toInt32)), .unset]) rfl ?_
      refine g_iload C X216 d27_80 rfl ?_
      show Goes p e below _ T216 (mkF m 82 #[.val (.ref ar), .val (.int kk), .val (.int ni), .val (.int nb), .val (.int 1), .val (.ref b216), .val (.int 1), .val (.int ((32 : Int32) - nb)), .val (.int ((v201.toUInt32 >>> (((32 : Int32) - nb) &&& 31).toUInt32).toInt32)), .unset] [(.int ((v201.toUInt32 >>> (((32 : Int32) - nb) &&& 31).toUInt32).toInt32)), (.int 0), (.ref b216)])
      refine g_iastoreI C X216 V216 n_b216 d27_82 (by decide) (own_lt (by rw [show (0 : Int32).toInt = 0 from rfl]; omega)) (fun T218 h218 X218 W218 V218 => ?_)
      refine g_goto C X218 d27_83 ?_
      refine g_iload C X218 d27_94 rfl ?_
      refine g_iconst 1 C X218 d27_96 rfl ?_
      refine g_isub C X218 d27_97 ?_
      refine g_istore C X218 d27_98 (l' := #[.val (.ref ar), .val (.int kk), .val (.int ni), .val (.int nb), .val (.int 1), .val (.ref b216), .val (.int 1), .val (.int ((32 : Int32) - nb)), .val (.int ((v201.toUInt32 >>> (((32 : Int32) - nb) &&& 31).toUInt32).toInt32)), .val (.int 0)]) rfl ?_
      refine g_iconst 0 C X218 d27_100 rfl ?_
      refine g_iload C X218 d27_101 rfl ?_
      refine g_iconst 1 C X218 d27_103 rfl ?_
      refine g_iadd C X218 d27_104 ?_
      refine g_aloadN C X218 d27_105 rfl rfl ?_
      have f219 := (IaS.other (IaS.ext VA E216) W218 (Nat.ne_of_lt lt217))
      refine g_arraylengthI C X218 f219 d27_106 ?_
      refine g_staticP (argsL := [(.int 0), (.int 1), (.int 1)]) (st := []) C X218 (wd hw 178 rfl) (wd hw 179 rfl) (wd hw 162 rfl) (wd hw 180 rfl) (by decide) (pay_of (W' := 0) (rCF l hw X218.ext (0 : Int32) (1 : Int32) (1 : Int32) (by decide) (by decide) (by decide)) C.hZ (wd hw 180 rfl) (wd hw 162 rfl) (by decide) (by decide)) pd_9 rfl rfl _ rfl (Nat.le_of_eq rfl) d27_107 (by decide) (by decide) (fun T220 X220 => ?_)
      refine g_pop C X220 d27_110 rfl ?_
      refine g_iload C X220 d27_111 rfl ?_
      refine g_iload C X220 d27_113 rfl ?_
      refine g_iload C X220 d27_115 rfl ?_
      refine g_iadd C X220 d27_117 ?_
      refine g_iconst 1 C X220 d27_118 rfl ?_
      refine g_iadd C X220 d27_119 ?_
      refine g_aload C X220 d27_120 rfl rfl ?_
      refine g_arraylengthI C X220 (Ia.toS V218) d27_122 ?_
      refine g_staticP (argsL := [(.int 1), (.int 2), (.int (((1 : Int32) + ni) + (1 : Int32)))]) (st := []) C X220 (wd hw 178 rfl) (wd hw 179 rfl) (wd hw 162 rfl) (wd hw 180 rfl) (by decide) (pay_of (W' := 0) (rCF l hw X220.ext (1 : Int32) (2 : Int32) (((1 : Int32) + ni) + (1 : Int32)) (by decide) (by decide) (own_nlt (by rw [show (2 : Int32).toInt = 2 from rfl]; omega))) C.hZ (wd hw 180 rfl) (wd hw 162 rfl) (by decide) (by decide)) pd_9 rfl rfl _ rfl (Nat.le_of_eq rfl) d27_123 (by decide) (by decide) (fun T221 X221 => ?_)
      refine g_pop C X221 d27_126 rfl ?_
      refine g_aload C X221 d27_127 rfl rfl ?_
      refine g_aloadN C X221 d27_129 rfl rfl ?_
      refine g_iload C X221 d27_130 rfl ?_
      refine g_iloadN C X221 d27_132 rfl ?_
      refine g_iload C X221 d27_133 rfl ?_
      refine g_static (argsL := [(.ref b216), (.ref ar), (.int 1), (.int nb), (.int 0)]) (st := []) C X221 (wd hw 185 rfl) (wd hw 186 rfl) (wd hw 36 rfl) (wd hw 187 rfl) (by decide) (pay_of (W' := 0) (rWk11 l hw X221.ext b216 ar nb (((1 : Int32) + ni) + (1 : Int32)) V218 f219 n_b216 (Nat.ne_of_lt lt217) (by omega)) C.hZ (wd hw 187 rfl) (wd hw 36 rfl) (by decide) (by decide)) pd_10 rfl rfl _ rfl (Nat.le_of_eq rfl) d27_135 (by decide) (by decide) (fun T222 h222 v222 q222 X222 => ?_)
      obtain ⟨rfl, K222, V222⟩ := q222
      show Goes p e below _ T222 (mkF m 138 #[.val (.ref ar), .val (.int kk), .val (.int ni), .val (.int nb), .val (.int 1), .val (.ref b216), .val (.int 1), .val (.int ((32 : Int32) - nb)), .val (.int ((v201.toUInt32 >>> (((32 : Int32) - nb) &&& 31).toUInt32).toInt32)), .val (.int 0)] [])
      refine g_aload C X222 d27_138 rfl rfl ?_
      refine g_iload C X222 d27_140 rfl ?_
      refine g_iload C X222 d27_142 rfl ?_
      refine g_iadd C X222 d27_144 ?_
      refine g_aloadN C X222 d27_145 rfl rfl ?_
      refine g_iload C X222 d27_146 rfl ?_
      have f223 := (IaS.keep f219 K222 (ninS (Nat.ne_of_lt lt217) nin0))
      refine g_ialoadI C X222 f223 d27_148 (by decide) (by decide) (fun v224 => ?_)
      refine g_iloadN C X222 d27_149 rfl ?_
      refine g_ishl C X222 d27_150 ?_
      show Goes p e below _ T222 (mkF m 151 #[.val (.ref ar), .val (.int kk), .val (.int ni), .val (.int nb), .val (.int 1), .val (.ref b216), .val (.int 1), .val (.int ((32 : Int32) - nb)), .val (.int ((v201.toUInt32 >>> (((32 : Int32) - nb) &&& 31).toUInt32).toInt32)), .val (.int 0)] [(.int (v224 <<< (nb &&& 31))), (.int 1), (.ref b216)])
      refine g_iastoreI C X222 V222 n_b216 d27_151 (by decide) (own_lt (by rw [show (1 : Int32).toInt = 1 from rfl]; omega)) (fun T225 h225 X225 W225 V225 => ?_)
      refine g_aload C X225 d27_152 rfl rfl ?_
      have sz226 : h.size ≤ b216 := by rw [g_b216]; exact (Keep.refl h []).1
      have kp227 := (Keep.refl h []).ext E216
      have kp228 := kp227.wr W218 (Or.inr sz226)
      have kp229 := kp228.trans K222 (allS (Or.inr sz226) all0)
      have kp230 := kp229.wr W225 (Or.inr sz226)
      exact g_retA C X225 rfl rfl d27_154 (by decide) (by decide) ⟨b216, (((1 : Int32) + ni) + (1 : Int32)), rfl, keep_ext kp230, (Ia.toS V225), by omega, by omega⟩
  · refine g_iload C X0 d27_20 rfl ?_
    refine g_iloadN C X0 d27_22 rfl ?_
    refine g_iadd C X0 d27_23 ?_
    refine g_newarrayI C X0 (wd hw 97 rfl) d27_24 (own_nn (by omega)) 5 (by have := own_tn (x := ((1 : Int32) + ni)) (by omega); omega) (by decide) (by decide) (by decide) (fun T231 h231 b231 g_b231 n_b231 X231 E231 V231 => ?_)
    have lt232 : ar < b231 := by rw [g_b231]; exact IaS.lt VA
    refine g_astore C X231 d27_26 rfl (l' := #[.val (.ref ar), .val (.int kk), .val (.int ni), .val (.int nb), .val (.int 1), .val (.ref b231), .unset, .unset, .unset, .unset]) rfl ?_
    refine g_aloadN C X231 d27_28 rfl rfl ?_
    refine g_iconst 0 C X231 d27_29 rfl ?_
    refine g_aload C X231 d27_30 rfl rfl ?_
    refine g_iconst 0 C X231 d27_32 rfl ?_
    refine g_iload C X231 d27_33 rfl ?_
    have f233 := (IaS.ext VA E231)
    refine g_arraycopyI C X231 (wd hw 176 rfl) (wd hw 116 rfl) (wd hw 114 rfl) (wd hw 115 rfl) f233 V231 (by decide) (by decide) (by decide) (by decide) (by rw [show (0 : Int32).toInt = 0 from rfl, show (1 : Int32).toInt = 1 from rfl]; omega) n_b231 rfl d27_35 (by decide) 0 (Nat.le_of_eq rfl) (by decide) (fun T234 h234 X234 K234 V234 => ?_)
    show Goes p e below _ T234 (mkF m 38 #[.val (.ref ar), .val (.int kk), .val (.int ni), .val (.int nb), .val (.int 1), .val (.ref b231), .unset, .unset, .unset, .unset] [])
    refine g_goto C X234 d27_38 ?_
    refine g_aload C X234 d27_152 rfl rfl ?_
    have sz235 : h.size ≤ b231 := by rw [g_b231]; exact (Keep.refl h []).1
    have kp236 := (Keep.refl h []).ext E231
    have kp237 := kp236.trans K234 (allS (Or.inr sz235) all0)
    exact g_retA C X234 rfl rfl d27_154 (by decide) (by decide) ⟨b231, ((1 : Int32) + ni), rfl, keep_ext kp237, (Ia.toS V234), by omega, by omega⟩
theorem ef_rMB1 (m : MethodId) (ar : Addr) (y : Int32) : entryFrame m #[(.ref ar), (.int y), (.int 1)] 13 = mkF m 0 #[.val (.ref ar), .val (.int y), .val (.int 1), .unset, .unset, .unset, .unset, .unset, .unset, .unset, .unset, .unset, .unset] [] := by first | (simp [entryFrame, mkF, argsToLocals, Value.category]; done) | rfl
theorem d9_0 : Dc jdk_2097_method_43_code 0 (.iload_n 1) 1 1 := ⟨by decide +kernel, rfl⟩
theorem d9_1 : Dc jdk_2097_method_43_code 1 (.invokestatic 423) 3 4 := ⟨by decide +kernel, rfl⟩
theorem pd_11 : parseMethodDescriptor "(I)I" = some ⟨[.int], some .int⟩ := by decide +kernel
theorem d9_4 : Dc jdk_2097_method_43_code 4 (.iconst 1) 1 5 := ⟨by decide +kernel, rfl⟩
theorem d9_5 : Dj jdk_2097_method_43_code 5 (.if_icmp .ne 20) 20 3 8 25 := ⟨by decide +kernel, rfl, by decide, by decide⟩
theorem d9_25 : Dc jdk_2097_method_43_code 25 (.aload_n 0) 1 26 := ⟨by decide +kernel, rfl⟩
theorem d9_26 : Dc jdk_2097_method_43_code 26 (.arraylength) 1 27 := ⟨by decide +kernel, rfl⟩
theorem d9_27 : Dc jdk_2097_method_43_code 27 (.istore_n 3) 1 28 := ⟨by decide +kernel, rfl⟩
theorem d9_28 : Dc jdk_2097_method_43_code 28 (.iload_n 3) 1 29 := ⟨by decide +kernel, rfl⟩
theorem d9_29 : Dc jdk_2097_method_43_code 29 (.iconst 1) 1 30 := ⟨by decide +kernel, rfl⟩
theorem d9_30 : Dc jdk_2097_method_43_code 30 (.iadd) 1 31 := ⟨by decide +kernel, rfl⟩
theorem d9_31 : Dc jdk_2097_method_43_code 31 (.newarray .int) 2 33 := ⟨by decide +kernel, rfl⟩
theorem d9_33 : Dc jdk_2097_method_43_code 33 (.astore 4) 2 35 := ⟨by decide +kernel, rfl⟩
theorem d9_35 : Dc jdk_2097_method_43_code 35 (.lconst 0) 1 36 := ⟨by decide +kernel, rfl⟩
theorem d9_36 : Dc jdk_2097_method_43_code 36 (.lstore 5) 2 38 := ⟨by decide +kernel, rfl⟩
theorem d9_38 : Dc jdk_2097_method_43_code 38 (.iload_n 1) 1 39 := ⟨by decide +kernel, rfl⟩
theorem d9_39 : Dc jdk_2097_method_43_code 39 (.i2l) 1 40 := ⟨by decide +kernel, rfl⟩
theorem d9_40 : Dc jdk_2097_method_43_code 40 (.ldc2_w 130) 3 43 := ⟨by decide +kernel, rfl⟩
theorem d9_43 : Dc jdk_2097_method_43_code 43 (.land) 1 44 := ⟨by decide +kernel, rfl⟩
theorem d9_44 : Dc jdk_2097_method_43_code 44 (.lstore 7) 2 46 := ⟨by decide +kernel, rfl⟩
theorem d9_46 : Dc jdk_2097_method_43_code 46 (.aload 4) 2 48 := ⟨by decide +kernel, rfl⟩
theorem d9_48 : Dc jdk_2097_method_43_code 48 (.arraylength) 1 49 := ⟨by decide +kernel, rfl⟩
theorem d9_49 : Dc jdk_2097_method_43_code 49 (.iconst 1) 1 50 := ⟨by decide +kernel, rfl⟩
theorem d9_50 : Dc jdk_2097_method_43_code 50 (.isub) 1 51 := ⟨by decide +kernel, rfl⟩
theorem d9_51 : Dc jdk_2097_method_43_code 51 (.istore 9) 2 53 := ⟨by decide +kernel, rfl⟩
theorem d9_53 : Dc jdk_2097_method_43_code 53 (.iload_n 3) 1 54 := ⟨by decide +kernel, rfl⟩
theorem d9_54 : Dc jdk_2097_method_43_code 54 (.iconst 1) 1 55 := ⟨by decide +kernel, rfl⟩
theorem d9_55 : Dc jdk_2097_method_43_code 55 (.isub) 1 56 := ⟨by decide +kernel, rfl⟩
theorem d9_56 : Dc jdk_2097_method_43_code 56 (.istore 10) 2 58 := ⟨by decide +kernel, rfl⟩
theorem d9_58 : Dc jdk_2097_method_43_code 58 (.iload 10) 2 60 := ⟨by decide +kernel, rfl⟩
theorem d9_60 : Dj jdk_2097_method_43_code 60 (.ifCond .lt 44) 44 3 63 104 := ⟨by decide +kernel, rfl, by decide, by decide⟩
theorem d9_63 : Dc jdk_2097_method_43_code 63 (.aload_n 0) 1 64 := ⟨by decide +kernel, rfl⟩
theorem d9_64 : Dc jdk_2097_method_43_code 64 (.iload 10) 2 66 := ⟨by decide +kernel, rfl⟩
theorem d9_66 : Dc jdk_2097_method_43_code 66 (.iaload) 1 67 := ⟨by decide +kernel, rfl⟩
theorem d9_67 : Dc jdk_2097_method_43_code 67 (.i2l) 1 68 := ⟨by decide +kernel, rfl⟩
theorem d9_68 : Dc jdk_2097_method_43_code 68 (.ldc2_w 130) 3 71 := ⟨by decide +kernel, rfl⟩
theorem d9_71 : Dc jdk_2097_method_43_code 71 (.land) 1 72 := ⟨by decide +kernel, rfl⟩
theorem d9_72 : Dc jdk_2097_method_43_code 72 (.lload 7) 2 74 := ⟨by decide +kernel, rfl⟩
theorem d9_74 : Dc jdk_2097_method_43_code 74 (.lmul) 1 75 := ⟨by decide +kernel, rfl⟩
theorem d9_75 : Dc jdk_2097_method_43_code 75 (.lload 5) 2 77 := ⟨by decide +kernel, rfl⟩
theorem d9_77 : Dc jdk_2097_method_43_code 77 (.ladd) 1 78 := ⟨by decide +kernel, rfl⟩
theorem d9_78 : Dc jdk_2097_method_43_code 78 (.lstore 11) 2 80 := ⟨by decide +kernel, rfl⟩
theorem d9_80 : Dc jdk_2097_method_43_code 80 (.aload 4) 2 82 := ⟨by decide +kernel, rfl⟩
theorem d9_82 : Dc jdk_2097_method_43_code 82 (.iload 9) 2 84 := ⟨by decide +kernel, rfl⟩
theorem d9_84 : Dc jdk_2097_method_43_code 84 (.iinc 9 (-1)) 3 87 := ⟨by decide +kernel, rfl⟩
theorem d9_87 : Dc jdk_2097_method_43_code 87 (.lload 11) 2 89 := ⟨by decide +kernel, rfl⟩
theorem d9_89 : Dc jdk_2097_method_43_code 89 (.l2i) 1 90 := ⟨by decide +kernel, rfl⟩
theorem d9_90 : Dc jdk_2097_method_43_code 90 (.iastore) 1 91 := ⟨by decide +kernel, rfl⟩
theorem d9_91 : Dc jdk_2097_method_43_code 91 (.lload 11) 2 93 := ⟨by decide +kernel, rfl⟩
theorem d9_93 : Dc jdk_2097_method_43_code 93 (.bipush 32) 2 95 := ⟨by decide +kernel, rfl⟩
theorem d9_95 : Dc jdk_2097_method_43_code 95 (.lushr) 1 96 := ⟨by decide +kernel, rfl⟩
theorem d9_96 : Dc jdk_2097_method_43_code 96 (.lstore 5) 2 98 := ⟨by decide +kernel, rfl⟩
theorem d9_98 : Dc jdk_2097_method_43_code 98 (.iinc 10 (-1)) 3 101 := ⟨by decide +kernel, rfl⟩
theorem d9_101 : Dj jdk_2097_method_43_code 101 (.goto (-43)) (-43) 3 104 58 := ⟨by decide +kernel, rfl, by decide, by decide⟩
theorem d9_104 : Dc jdk_2097_method_43_code 104 (.lload 5) 2 106 := ⟨by decide +kernel, rfl⟩
theorem d9_106 : Dc jdk_2097_method_43_code 106 (.lconst 0) 1 107 := ⟨by decide +kernel, rfl⟩
theorem d9_107 : Dc jdk_2097_method_43_code 107 (.lcmp) 1 108 := ⟨by decide +kernel, rfl⟩
theorem d9_108 : Dj jdk_2097_method_43_code 108 (.ifCond .ne 17) 17 3 111 125 := ⟨by decide +kernel, rfl, by decide, by decide⟩
theorem d9_125 : Dc jdk_2097_method_43_code 125 (.aload 4) 2 127 := ⟨by decide +kernel, rfl⟩
theorem d9_127 : Dc jdk_2097_method_43_code 127 (.iload 9) 2 129 := ⟨by decide +kernel, rfl⟩
theorem d9_129 : Dc jdk_2097_method_43_code 129 (.lload 5) 2 131 := ⟨by decide +kernel, rfl⟩
theorem d9_131 : Dc jdk_2097_method_43_code 131 (.l2i) 1 132 := ⟨by decide +kernel, rfl⟩
theorem d9_132 : Dc jdk_2097_method_43_code 132 (.iastore) 1 133 := ⟨by decide +kernel, rfl⟩
theorem d9_133 : Dc jdk_2097_method_43_code 133 (.new 23) 3 136 := ⟨by decide +kernel, rfl⟩
theorem d9_136 : Dc jdk_2097_method_43_code 136 (.dup) 1 137 := ⟨by decide +kernel, rfl⟩
theorem d9_137 : Dc jdk_2097_method_43_code 137 (.aload 4) 2 139 := ⟨by decide +kernel, rfl⟩
theorem d9_139 : Dc jdk_2097_method_43_code 139 (.iload_n 2) 1 140 := ⟨by decide +kernel, rfl⟩
theorem d9_140 : Dc jdk_2097_method_43_code 140 (.invokespecial 175) 3 143 := ⟨by decide +kernel, rfl⟩
theorem d9_143 : Dc jdk_2097_method_43_code 143 (.areturn) 1 144 := ⟨by decide +kernel, rfl⟩
theorem d9_111 : Dc jdk_2097_method_43_code 111 (.aload 4) 2 113 := ⟨by decide +kernel, rfl⟩
theorem d9_113 : Dc jdk_2097_method_43_code 113 (.iconst 1) 1 114 := ⟨by decide +kernel, rfl⟩
theorem d9_114 : Dc jdk_2097_method_43_code 114 (.aload 4) 2 116 := ⟨by decide +kernel, rfl⟩
theorem d9_116 : Dc jdk_2097_method_43_code 116 (.arraylength) 1 117 := ⟨by decide +kernel, rfl⟩
theorem d9_117 : Dc jdk_2097_method_43_code 117 (.invokestatic 433) 3 120 := ⟨by decide +kernel, rfl⟩
theorem d9_120 : Dc jdk_2097_method_43_code 120 (.astore 4) 2 122 := ⟨by decide +kernel, rfl⟩
theorem d9_122 : Dj jdk_2097_method_43_code 122 (.goto 11) 11 3 125 133 := ⟨by decide +kernel, rfl, by decide, by decide⟩
theorem d9_8 : Dc jdk_2097_method_43_code 8 (.new 23) 3 11 := ⟨by decide +kernel, rfl⟩
theorem d9_11 : Dc jdk_2097_method_43_code 11 (.dup) 1 12 := ⟨by decide +kernel, rfl⟩
theorem d9_12 : Dc jdk_2097_method_43_code 12 (.aload_n 0) 1 13 := ⟨by decide +kernel, rfl⟩
theorem d9_13 : Dc jdk_2097_method_43_code 13 (.iload_n 1) 1 14 := ⟨by decide +kernel, rfl⟩
theorem d9_14 : Dc jdk_2097_method_43_code 14 (.invokestatic 426) 3 17 := ⟨by decide +kernel, rfl⟩
theorem d9_17 : Dc jdk_2097_method_43_code 17 (.invokestatic 429) 3 20 := ⟨by decide +kernel, rfl⟩
theorem pd_12 : parseMethodDescriptor "([II)[I" = some ⟨[(.array .int), .int], some (.array .int)⟩ := by decide +kernel
theorem d9_20 : Dc jdk_2097_method_43_code 20 (.iload_n 2) 1 21 := ⟨by decide +kernel, rfl⟩
theorem d9_21 : Dc jdk_2097_method_43_code 21 (.invokespecial 175) 3 24 := ⟨by decide +kernel, rfl⟩
theorem d9_24 : Dc jdk_2097_method_43_code 24 (.areturn) 1 25 := ⟨by decide +kernel, rfl⟩
theorem rMB1 (l : Launch) {Z : State} {a0 : Array Value} (hw : ∀ d ∈ tables_1, d.before a0 Z = true) {h : Heap} (hE : Ext Z.heap h) (ar : Addr) (y : Int32)  (VA : IaS Z h ar 1) :
    Con l (⟨"java/math/BigInteger", "multiplyByInt", "([III)Ljava/math/BigInteger;"⟩ : MethodName) jdk_2097_method_43_code 13 (some (.object "java/math/BigInteger")) [] ({ frames := 4, cells := 3, slots := 40, locals := 96 } : Room) Z #[(.ref ar), (.int y), (.int 1)] h (fun v' h' => ∃ (x mg : Addr) (sg nn : Int32), v' = some (.ref x) ∧ Ext h h' ∧ Exa Z h' x "java/math/BigInteger" ∧ Fld Z h' x "java/math/BigInteger" "signum" "I" (.int sg) ∧ Fld Z h' x "java/math/BigInteger" "mag" "[I" (.ref mg) ∧ IaS Z h' mg nn ∧ (sg = 0 ∨ (sg = 1 ∧ 1 ≤ nn.toInt)) ∧ nn.toInt ≤ 5) := by
  refine con_of (plainFor_of_name pn_3) hE (fun m => ef_rMB1 m ar y) ?_
  intro p e s m below meth c T0 C X0
  have C : Cx p s m meth c Z "java/math/BigInteger" "multiplyByInt" jdk_2097_method_43_code 13 (some (.object "java/math/BigInteger")) := C
  show Goes p e below _ T0 (mkF m 0 #[.val (.ref ar), .val (.int y), .val (.int 1), .unset, .unset, .unset, .unset, .unset, .unset, .unset, .unset, .unset, .unset] [])
  refine g_iloadN C X0 d9_0 rfl ?_
  refine g_static (argsL := [(.int y)]) (st := []) C X0 (wd hw 91 rfl) (wd hw 92 rfl) (wd hw 23 rfl) (wd hw 93 rfl) (by decide) (pay_of (W' := 0) (rBC l hw X0.ext y) C.hZ (wd hw 93 rfl) (wd hw 23 rfl) (by decide) (by decide)) pd_11 rfl rfl _ rfl (Nat.le_of_eq rfl) d9_1 (by decide) (by decide) (fun T238 h238 v238 q238 X238 => ?_)
  obtain ⟨bc238, rfl, hh238⟩ := q238
  obtain rfl := hh238.symm
  show Goes p e below _ T238 (mkF m 4 #[.val (.ref ar), .val (.int y), .val (.int 1), .unset, .unset, .unset, .unset, .unset, .unset, .unset, .unset, .unset, .unset] [(.int bc238)])
  refine g_iconst 1 C X238 d9_4 rfl ?_
  refine g_icmpn (hI_ne _ _) C X238 d9_5 (fun c5_239 => ?_) (fun c5_239 => ?_)
  · refine g_aloadN C X238 d9_25 rfl rfl ?_
    refine g_arraylengthI C X238 VA d9_26 ?_
    refine g_istoreN C X238 d9_27 (l' := #[.val (.ref ar), .val (.int y), .val (.int 1), .val (.int 1), .unset, .unset, .unset, .unset, .unset, .unset, .unset, .unset, .unset]) rfl ?_
    refine g_iloadN C X238 d9_28 rfl ?_
    refine g_iconst 1 C X238 d9_29 rfl ?_
    refine g_iadd C X238 d9_30 ?_
    refine g_newarrayI C X238 (wd hw 97 rfl) d9_31 (by decide) 2 (by decide) (by decide) (by decide) (by decide) (fun T240 h240 b240 g_b240 n_b240 X240 E240 V240 => ?_)
    have lt241 : ar < b240 := by rw [g_b240]; exact IaS.lt VA
    refine g_astore C X240 d9_33 rfl (l' := #[.val (.ref ar), .val (.int y), .val (.int 1), .val (.int 1), .val (.ref b240), .unset, .unset, .unset, .unset, .unset, .unset, .unset, .unset]) rfl ?_
    refine g_lconst 0 C X240 d9_35 rfl ?_
    refine g_lstore C X240 d9_36 (l' := #[.val (.ref ar), .val (.int y), .val (.int 1), .val (.int 1), .val (.ref b240), .val (.long 0), .second, .unset, .unset, .unset, .unset, .unset, .unset]) rfl ?_
    refine g_iloadN C X240 d9_38 rfl ?_
    refine g_i2l C X240 d9_39 ?_
    refine g_ldcJ C X240 (wd hw 98 rfl) d9_40 ?_
    refine g_land C X240 d9_43 ?_
    refine g_lstore C X240 d9_44 (l' := #[.val (.ref ar), .val (.int y), .val (.int 1), .val (.int 1), .val (.ref b240), .val (.long 0), .second, .val (.long ((y.toInt64) &&& (4294967295 : Int64))), .second, .unset, .unset, .unset, .unset]) rfl ?_
    refine g_aload C X240 d9_46 rfl rfl ?_
    refine g_arraylengthI C X240 (Ia.toS V240) d9_48 ?_
    refine g_iconst 1 C X240 d9_49 rfl ?_
    refine g_isub C X240 d9_50 ?_
    refine g_istore C X240 d9_51 (l' := #[.val (.ref ar), .val (.int y), .val (.int 1), .val (.int 1), .val (.ref b240), .val (.long 0), .second, .val (.long ((y.toInt64) &&& (4294967295 : Int64))), .second, .val (.int 1), .unset, .unset, .unset]) rfl ?_
    refine g_iloadN C X240 d9_53 rfl ?_
    refine g_iconst 1 C X240 d9_54 rfl ?_
    refine g_isub C X240 d9_55 ?_
    refine g_istore C X240 d9_56 (l' := #[.val (.ref ar), .val (.int y), .val (.int 1), .val (.int 1), .val (.ref b240), .val (.long 0), .second, .val (.long ((y.toInt64) &&& (4294967295 : Int64))), .second, .val (.int 1), .val (.int 0), .unset, .unset]) rfl ?_
    refine g_iload C X240 d9_58 rfl ?_
    refine g_if (h0_lt _) C X240 d9_60 (fun q => absurd q (by decide)) (fun _ => ?_)
    refine g_aloadN C X240 d9_63 rfl rfl ?_
    refine g_iload C X240 d9_64 rfl ?_
    have f242 := (IaS.ext VA E240)
    refine g_ialoadI C X240 f242 d9_66 (by decide) (by decide) (fun v243 => ?_)
    refine g_i2l C X240 d9_67 ?_
    refine g_ldcJ C X240 (wd hw 98 rfl) d9_68 ?_
    refine g_land C X240 d9_71 ?_
    refine g_lload C X240 d9_72 rfl ?_
    refine g_lmul C X240 d9_74 ?_
    refine g_lload C X240 d9_75 rfl ?_
    refine g_ladd C X240 d9_77 ?_
    refine g_lstore C X240 d9_78 (l' := #[.val (.ref ar), .val (.int y), .val (.int 1), .val (.int 1), .val (.ref b240), .val (.long 0), .second, .val (.long ((y.toInt64) &&& (4294967295 : Int64))), .second, .val (.int 1), .val (.int 0), .val (.long ((((v243.toInt64) &&& (4294967295 : Int64)) * ((y.toInt64) &&& (4294967295 : Int64))) + (0 : Int64))), .second]) rfl ?_
    refine g_aload C X240 d9_80 rfl rfl ?_
    refine g_iload C X240 d9_82 rfl ?_
    refine g_iinc (-1) C X240 d9_84 rfl rfl (l' := #[.val (.ref ar), .val (.int y), .val (.int 1), .val (.int 1), .val (.ref b240), .val (.long 0), .second, .val (.long ((y.toInt64) &&& (4294967295 : Int64))), .second, .val (.int 0), .val (.int 0), .val (.long ((((v243.toInt64) &&& (4294967295 : Int64)) * ((y.toInt64) &&& (4294967295 : Int64))) + (0 : Int64))), .second]) rfl ?_
    refine g_lload C X240 d9_87 rfl ?_
    refine g_l2i C X240 d9_89 ?_
    refine g_iastoreI C X240 V240 n_b240 d9_90 (by decide) (by decide) (fun T244 h244 X244 W244 V244 => ?_)
    refine g_lload C X244 d9_91 rfl ?_
    refine g_bipush 32 C X244 d9_93 rfl ?_
    refine g_lushr C X244 d9_95 ?_
    refine g_lstore C X244 d9_96 (l' := #[.val (.ref ar), .val (.int y), .val (.int 1), .val (.int 1), .val (.ref b240), .val (.long ((((((v243.toInt64) &&& (4294967295 : Int64)) * ((y.toInt64) &&& (4294967295 : Int64))) + (0 : Int64)).toUInt64 >>> ((32 : Int32) &&& 0x3f).toInt64.toUInt64).toInt64)), .second, .val (.long ((y.toInt64) &&& (4294967295 : Int64))), .second, .val (.int 0), .val (.int 0), .val (.long ((((v243.toInt64) &&& (4294967295 : Int64)) * ((y.toInt64) &&& (4294967295 : Int64))) + (0 : Int64))), .second]) rfl ?_
    refine g_iinc (-1) C X244 d9_98 rfl rfl (l' := #[.val (.ref ar), .val (.int y), .val (.int 1), .val (.int 1), .val (.ref b240), .val (.long ((((((v243.toInt64) &&& (4294967295 : Int64)) * ((y.toInt64) &&& (4294967295 : Int64))) + (0 : Int64)).toUInt64 >>> ((32 : Int32) &&& 0x3f).toInt64.toUInt64).toInt64)), .second, .val (.long ((y.toInt64) &&& (4294967295 : Int64))), .second, .val (.int 0), .val (.int (-1)), .val (.long ((((v243.toInt64) &&& (4294967295 : Int64)) * ((y.toInt64) &&& (4294967295 : Int64))) + (0 : Int64))), .second]) rfl ?_
    refine g_goto C X244 d9_101 ?_
    refine g_iload C X244 d9_58 rfl ?_
    refine g_if (h0_lt _) C X244 d9_60 (fun _ => ?_) (fun q => absurd (by decide) q)
    refine g_lload C X244 d9_104 rfl ?_
    refine g_lconst 0 C X244 d9_106 rfl ?_
    refine g_lcmp C X244 d9_107 ?_
    refine g_ifn (hL_ne _ _) C X244 d9_108 (fun c108_245 => ?_) (fun c108_245 => ?_)
    · refine g_aload C X244 d9_125 rfl rfl ?_
      refine g_iload C X244 d9_127 rfl ?_
      refine g_lload C X244 d9_129 rfl ?_
      refine g_l2i C X244 d9_131 ?_
      refine g_iastoreI C X244 V244 n_b240 d9_132 (by decide) (by decide) (fun T246 h246 X246 W246 V246 => ?_)
      refine g_new C X246 (wd hw 117 rfl) (wd hw 118 rfl) (wd hw 36 rfl) d9_133 (by decide) (by decide) (fun T247 h247 b247 g_b247 n_b247 X247 E247 A247 D247 M247 => ?_)
      have f248 := (IaS.other (IaS.other f242 W244 (Nat.ne_of_lt lt241)) W246 (Nat.ne_of_lt lt241))
      have lt249 : ar < b247 := by rw [g_b247]; exact IaS.lt f248
      have lt250 : b240 < b247 := by rw [g_b247]; exact Ia.lt V246
      have F_signum_b247 : Fld Z h247 b247 "java/math/BigInteger" "signum" "I" (.int 0) := D247 (Or.inr (wd hw 85 rfl)) (ty := .int) (by decide)
      have F_mag_b247 : Fld Z h247 b247 "java/math/BigInteger" "mag" "[I" .null := D247 (Or.inr (wd hw 87 rfl)) (ty := (.array .int)) (by decide)
      refine g_dup C X247 d9_136 rfl ?_
      refine g_aload C X247 d9_137 rfl rfl ?_
      refine g_iloadN C X247 d9_139 rfl ?_
      have f252 := (Ia.ext V246 E247)
      have ne251 := own_neI A247 (Ia.toS f252) (wd hw 118 rfl)
      refine g_special (argsL := [(.ref b240), (.int 1)]) (st := [(.ref b247)]) C X247 rfl (wd hw 119 rfl) (wd hw 120 rfl) (wd hw 122 rfl) (by decide) (pay_of (W' := 1) (rBA l hw X247.ext b247 b240 (2 : Int32) A247 F_signum_b247 F_mag_b247 n_b247 (Ia.toS f252) (by decide)) C.hZ (wd hw 122 rfl) (wd hw 36 rfl) (by decide) (by decide)) pd_6 rfl rfl _ rfl (Nat.le_of_eq rfl) d9_140 (by decide) (by decide) (fun T253 h253 v253 q253 X253 => ?_)
      obtain ⟨rfl, K253, EX253, sg253, FS253, FM253, hs253⟩ := q253
      show Goes p e below _ T253 (mkF m 143 #[.val (.ref ar), .val (.int y), .val (.int 1), .val (.int 1), .val (.ref b240), .val (.long ((((((v243.toInt64) &&& (4294967295 : Int64)) * ((y.toInt64) &&& (4294967295 : Int64))) + (0 : Int64)).toUInt64 >>> ((32 : Int32) &&& 0x3f).toInt64.toUInt64).toInt64)), .second, .val (.long ((y.toInt64) &&& (4294967295 : Int64))), .second, .val (.int 0), .val (.int (-1)), .val (.long ((((v243.toInt64) &&& (4294967295 : Int64)) * ((y.toInt64) &&& (4294967295 : Int64))) + (0 : Int64))), .second] [(.ref b247)])
      have sz254 : h.size ≤ b240 := by rw [g_b240]; exact (Keep.refl h []).1
      have kp255 := (Keep.refl h []).ext E240
      have kp256 := kp255.wr W244 (Or.inr sz254)
      have kp257 := kp256.wr W246 (Or.inr sz254)
      have sz258 : h.size ≤ b247 := by rw [g_b247]; exact kp257.1
      have kp259 := kp257.ext E247
      have kp260 := kp259.trans K253 (allS (Or.inr sz258) all0)
      have f261 := (Ia.keep f252 K253 (ninS (Ne.symm ne251) nin0))
      exact g_retA C X253 rfl rfl d9_143 (by decide) (by decide) ⟨b247, b240, sg253, (2 : Int32), rfl, keep_ext kp260, EX253, FS253, FM253, (Ia.toS f261), hs253, (by decide)⟩
    · refine g_aload C X244 d9_111 rfl rfl ?_
      refine g_iconst 1 C X244 d9_113 rfl ?_
      refine g_aload C X244 d9_114 rfl rfl ?_
      refine g_arraylengthI C X244 (Ia.toS V244) d9_116 ?_
      refine g_static (argsL := [(.ref b240), (.int 1), (.int 2)]) (st := []) C X244 (wd hw 99 rfl) (wd hw 100 rfl) (wd hw 101 rfl) (wd hw 102 rfl) (by decide) (pay_of (W' := 0) (rCR l hw X244.ext b240 (1 : Int32) (2 : Int32) (Ia.toS V244) (by decide) (by decide) (by decide)) C.hZ (wd hw 102 rfl) (wd hw 101 rfl) (by decide) (by decide)) pd_2 rfl rfl _ rfl (Nat.le_of_eq rfl) d9_117 (by decide) (by decide) (fun T262 h262 v262 q262 X262 => ?_)
      obtain ⟨b262, rfl, n_b262, g262, E262, V262⟩ := q262
      have f264 := (IaS.other f242 W244 (Nat.ne_of_lt lt241))
      have lt263 : ar < b262 := Nat.lt_of_lt_of_le (IaS.lt f264) g262
      have lt265 : b240 < b262 := Nat.lt_of_lt_of_le (Ia.lt V244) g262
      show Goes p e below _ T262 (mkF m 120 #[.val (.ref ar), .val (.int y), .val (.int 1), .val (.int 1), .val (.ref b240), .val (.long ((((((v243.toInt64) &&& (4294967295 : Int64)) * ((y.toInt64) &&& (4294967295 : Int64))) + (0 : Int64)).toUInt64 >>> ((32 : Int32) &&& 0x3f).toInt64.toUInt64).toInt64)), .second, .val (.long ((y.toInt64) &&& (4294967295 : Int64))), .second, .val (.int 0), .val (.int (-1)), .val (.long ((((v243.toInt64) &&& (4294967295 : Int64)) * ((y.toInt64) &&& (4294967295 : Int64))) + (0 : Int64))), .second] [(.ref b262)])
      refine g_astore C X262 d9_120 rfl (l' := #[.val (.ref ar), .val (.int y), .val (.int 1), .val (.int 1), .val (.ref b262), .val (.long ((((((v243.toInt64) &&& (4294967295 : Int64)) * ((y.toInt64) &&& (4294967295 : Int64))) + (0 : Int64)).toUInt64 >>> ((32 : Int32) &&& 0x3f).toInt64.toUInt64).toInt64)), .second, .val (.long ((y.toInt64) &&& (4294967295 : Int64))), .second, .val (.int 0), .val (.int (-1)), .val (.long ((((v243.toInt64) &&& (4294967295 : Int64)) * ((y.toInt64) &&& (4294967295 : Int64))) + (0 : Int64))), .second]) rfl ?_
      refine g_goto C X262 d9_122 ?_
      refine g_new C X262 (wd hw 117 rfl) (wd hw 118 rfl) (wd hw 36 rfl) d9_133 (by decide) (by decide) (fun T266 h266 b266 g_b266 n_b266 X266 E266 A266 D266 M266 => ?_)
      have f267 := (IaS.ext f264 E262)
      have lt268 : ar < b266 := by rw [g_b266]; exact IaS.lt f267
      have f269 := (Ia.ext V244 E262)
      have lt270 : b240 < b266 := by rw [g_b266]; exact Ia.lt f269
      have lt271 : b262 < b266 := by rw [g_b266]; exact IaS.lt V262
      have F_signum_b266 : Fld Z h266 b266 "java/math/BigInteger" "signum" "I" (.int 0) := D266 (Or.inr (wd hw 85 rfl)) (ty := .int) (by decide)
      have F_mag_b266 : Fld Z h266 b266 "java/math/BigInteger" "mag" "[I" .null := D266 (Or.inr (wd hw 87 rfl)) (ty := (.array .int)) (by decide)
      refine g_dup C X266 d9_136 rfl ?_
      refine g_aload C X266 d9_137 rfl rfl ?_
      refine g_iloadN C X266 d9_139 rfl ?_
      have f273 := (IaS.ext V262 E266)
      have ne272 := own_neI A266 f273 (wd hw 118 rfl)
      refine g_special (argsL := [(.ref b262), (.int 1)]) (st := [(.ref b266)]) C X266 rfl (wd hw 119 rfl) (wd hw 120 rfl) (wd hw 122 rfl) (by decide) (pay_of (W' := 1) (rBA l hw X266.ext b266 b262 ((2 : Int32) - (1 : Int32)) A266 F_signum_b266 F_mag_b266 n_b266 f273 (by decide)) C.hZ (wd hw 122 rfl) (wd hw 36 rfl) (by decide) (by decide)) pd_6 rfl rfl _ rfl (Nat.le_of_eq rfl) d9_140 (by decide) (by decide) (fun T274 h274 v274 q274 X274 => ?_)
      obtain ⟨rfl, K274, EX274, sg274, FS274, FM274, hs274⟩ := q274
      show Goes p e below _ T274 (mkF m 143 #[.val (.ref ar), .val (.int y), .val (.int 1), .val (.int 1), .val (.ref b262), .val (.long ((((((v243.toInt64) &&& (4294967295 : Int64)) * ((y.toInt64) &&& (4294967295 : Int64))) + (0 : Int64)).toUInt64 >>> ((32 : Int32) &&& 0x3f).toInt64.toUInt64).toInt64)), .second, .val (.long ((y.toInt64) &&& (4294967295 : Int64))), .second, .val (.int 0), .val (.int (-1)), .val (.long ((((v243.toInt64) &&& (4294967295 : Int64)) * ((y.toInt64) &&& (4294967295 : Int64))) + (0 : Int64))), .second] [(.ref b266)])
      have sz275 : h.size ≤ b240 := by rw [g_b240]; exact (Keep.refl h []).1
      have kp276 := (Keep.refl h []).ext E240
      have kp277 := kp276.wr W244 (Or.inr sz275)
      have sz278 : h.size ≤ b262 := Nat.le_trans kp277.1 g262
      have kp279 := kp277.ext E262
      have sz280 : h.size ≤ b266 := by rw [g_b266]; exact kp279.1
      have kp281 := kp279.ext E266
      have kp282 := kp281.trans K274 (allS (Or.inr sz280) all0)
      have f283 := (IaS.keep f273 K274 (ninS (Ne.symm ne272) nin0))
      exact g_retA C X274 rfl rfl d9_143 (by decide) (by decide) ⟨b266, b262, sg274, ((2 : Int32) - (1 : Int32)), rfl, keep_ext kp282, EX274, FS274, FM274, f283, hs274, (by decide)⟩
  · refine g_new C X238 (wd hw 117 rfl) (wd hw 118 rfl) (wd hw 36 rfl) d9_8 (by decide) (by decide) (fun T284 h284 b284 g_b284 n_b284 X284 E284 A284 D284 M284 => ?_)
    have lt285 : ar < b284 := by rw [g_b284]; exact IaS.lt VA
    have F_signum_b284 : Fld Z h284 b284 "java/math/BigInteger" "signum" "I" (.int 0) := D284 (Or.inr (wd hw 85 rfl)) (ty := .int) (by decide)
    have F_mag_b284 : Fld Z h284 b284 "java/math/BigInteger" "mag" "[I" .null := D284 (Or.inr (wd hw 87 rfl)) (ty := (.array .int)) (by decide)
    refine g_dup C X284 d9_11 rfl ?_
    refine g_aloadN C X284 d9_12 rfl rfl ?_
    refine g_iloadN C X284 d9_13 rfl ?_
    refine g_static (argsL := [(.int y)]) (st := [(.ref ar), (.ref b284), (.ref b284)]) C X284 (wd hw 170 rfl) (wd hw 171 rfl) (wd hw 23 rfl) (wd hw 172 rfl) (by decide) (pay_of (W' := 3) (rNZ l hw X284.ext y) C.hZ (wd hw 172 rfl) (wd hw 23 rfl) (by decide) (by decide)) pd_11 rfl rfl _ rfl (Nat.le_of_eq rfl) d9_14 (by decide) (by decide) (fun T286 h286 v286 q286 X286 => ?_)
    obtain ⟨nz286, rfl, hh286, na286, nb286⟩ := q286
    obtain rfl := hh286.symm
    show Goes p e below _ T286 (mkF m 17 #[.val (.ref ar), .val (.int y), .val (.int 1), .unset, .unset, .unset, .unset, .unset, .unset, .unset, .unset, .unset, .unset] [(.int nz286), (.ref ar), (.ref b284), (.ref b284)])
    have f287 := (IaS.ext VA E284)
    refine g_static (argsL := [(.ref ar), (.int nz286)]) (st := [(.ref b284), (.ref b284)]) C X286 (wd hw 173 rfl) (wd hw 174 rfl) (wd hw 36 rfl) (wd hw 175 rfl) (by decide) (pay_of (W' := 2) (rSL1 l hw X286.ext ar nz286 f287 na286 nb286) C.hZ (wd hw 175 rfl) (wd hw 36 rfl) (by decide) (by decide)) pd_12 rfl rfl _ rfl (Nat.le_of_eq rfl) d9_17 (by decide) (by decide) (fun T288 h288 v288 q288 X288 => ?_)
    obtain ⟨b288, nn288, rfl, E288, V288, nc288, nd288⟩ := q288
    show Goes p e below _ T288 (mkF m 20 #[.val (.ref ar), .val (.int y), .val (.int 1), .unset, .unset, .unset, .unset, .unset, .unset, .unset, .unset, .unset, .unset] [(.ref b288), (.ref b284), (.ref b284)])
    refine g_iloadN C X288 d9_20 rfl ?_
    have f290 := (Exa.ext E288 A284)
    have ne289 := own_neI f290 V288 (wd hw 118 rfl)
    have f291 := (Fld.ext E288 F_signum_b284)
    have f292 := (Fld.ext E288 F_mag_b284)
    refine g_special (argsL := [(.ref b288), (.int 1)]) (st := [(.ref b284)]) C X288 rfl (wd hw 119 rfl) (wd hw 120 rfl) (wd hw 122 rfl) (by decide) (pay_of (W' := 1) (rBA l hw X288.ext b284 b288 nn288 f290 f291 f292 n_b284 V288 (by omega)) C.hZ (wd hw 122 rfl) (wd hw 36 rfl) (by decide) (by decide)) pd_6 rfl rfl _ rfl (Nat.le_of_eq rfl) d9_21 (by decide) (by decide) (fun T293 h293 v293 q293 X293 => ?_)
    obtain ⟨rfl, K293, EX293, sg293, FS293, FM293, hs293⟩ := q293
    show Goes p e below _ T293 (mkF m 24 #[.val (.ref ar), .val (.int y), .val (.int 1), .unset, .unset, .unset, .unset, .unset, .unset, .unset, .unset, .unset, .unset] [(.ref b284)])
    have sz294 : h.size ≤ b284 := by rw [g_b284]; exact (Keep.refl h []).1
    have kp295 := (Keep.refl h []).ext E284
    have kp296 := kp295.ext E288
    have kp297 := kp296.trans K293 (allS (Or.inr sz294) all0)
    have f298 := (IaS.keep V288 K293 (ninS (Ne.symm ne289) nin0))
    exact g_retA C X293 rfl rfl d9_24 (by decide) (by decide) ⟨b284, b288, sg293, nn288, rfl, keep_ext kp297, EX293, FS293, FM293, f298, hs293, (by omega)⟩
theorem ef_rWk20 (m : MethodId) (nw : Addr) (ar : Addr) (nb : Int32) : entryFrame m #[(.ref nw), (.ref ar), (.int 0), (.int nb), (.int 1)] 7 = mkF m 0 #[.val (.ref nw), .val (.ref ar), .val (.int 0), .val (.int nb), .val (.int 1), .unset, .unset] [] := by first | (simp [entryFrame, mkF, argsToLocals, Value.category]; done) | rfl
theorem d30_16 : Dc jdk_2097_method_103_code 16 (.aload_n 0) 1 17 := ⟨by decide +kernel, rfl⟩
theorem d30_17 : Dc jdk_2097_method_103_code 17 (.iload_n 2) 1 18 := ⟨by decide +kernel, rfl⟩
theorem d30_18 : Dc jdk_2097_method_103_code 18 (.iinc 2 1) 3 21 := ⟨by decide +kernel, rfl⟩
theorem d30_21 : Dc jdk_2097_method_103_code 21 (.aload_n 1) 1 22 := ⟨by decide +kernel, rfl⟩
theorem d30_22 : Dc jdk_2097_method_103_code 22 (.iload 6) 2 24 := ⟨by decide +kernel, rfl⟩
theorem d30_24 : Dc jdk_2097_method_103_code 24 (.iinc 6 1) 3 27 := ⟨by decide +kernel, rfl⟩
theorem d30_27 : Dc jdk_2097_method_103_code 27 (.iaload) 1 28 := ⟨by decide +kernel, rfl⟩
theorem d30_28 : Dc jdk_2097_method_103_code 28 (.iload_n 3) 1 29 := ⟨by decide +kernel, rfl⟩
theorem d30_29 : Dc jdk_2097_method_103_code 29 (.ishl) 1 30 := ⟨by decide +kernel, rfl⟩
theorem d30_30 : Dc jdk_2097_method_103_code 30 (.aload_n 1) 1 31 := ⟨by decide +kernel, rfl⟩
theorem d30_31 : Dc jdk_2097_method_103_code 31 (.iload 6) 2 33 := ⟨by decide +kernel, rfl⟩
theorem d30_33 : Dc jdk_2097_method_103_code 33 (.iaload) 1 34 := ⟨by decide +kernel, rfl⟩
theorem d30_34 : Dc jdk_2097_method_103_code 34 (.iload 5) 2 36 := ⟨by decide +kernel, rfl⟩
theorem d30_36 : Dc jdk_2097_method_103_code 36 (.iushr) 1 37 := ⟨by decide +kernel, rfl⟩
theorem d30_37 : Dc jdk_2097_method_103_code 37 (.ior) 1 38 := ⟨by decide +kernel, rfl⟩
theorem d30_38 : Dc jdk_2097_method_103_code 38 (.iastore) 1 39 := ⟨by decide +kernel, rfl⟩
theorem d30_39 : Dj jdk_2097_method_103_code 39 (.goto (-30)) (-30) 3 42 9 := ⟨by decide +kernel, rfl, by decide, by decide⟩
theorem rWk20 (l : Launch) {Z : State} {a0 : Array Value} (hw : ∀ d ∈ tables_1, d.before a0 Z = true) {h : Heap} (hE : Ext Z.heap h) (nw : Addr) (ar : Addr) (nb : Int32) (ln : Int32) (VN : Ia Z h nw ln) (VA : IaS Z h ar 2) (nn_ : Z.heap.size ≤ nw) (na_ : ar ≠ nw) (k0 : 2 ≤ ln.toInt) :
    Con l (⟨"java/math/BigInteger", "shiftLeftImplWorker", "([I[IIII)V"⟩ : MethodName) jdk_2097_method_103_code 7 none [] ({ frames := 0, cells := 0, slots := 0, locals := 0 } : Room) Z #[(.ref nw), (.ref ar), (.int 0), (.int nb), (.int 1)] h (fun v' h' => v' = none ∧ Keep h h' [nw] ∧ Ia Z h' nw ln) := by
  refine con_of (plainFor_of_name pn_3) hE (fun m => ef_rWk20 m nw ar nb) ?_
  intro p e s m below meth c T0 C X0
  have C : Cx p s m meth c Z "java/math/BigInteger" "shiftLeftImplWorker" jdk_2097_method_103_code 7 none := C
  show Goes p e below _ T0 (mkF m 0 #[.val (.ref nw), .val (.ref ar), .val (.int 0), .val (.int nb), .val (.int 1), .unset, .unset] [])
  refine g_bipush 32 C X0 d30_0 rfl ?_
  refine g_iloadN C X0 d30_2 rfl ?_
  refine g_isub C X0 d30_3 ?_
  refine g_istore C X0 d30_4 (l' := #[.val (.ref nw), .val (.ref ar), .val (.int 0), .val (.int nb), .val (.int 1), .val (.int ((32 : Int32) - nb)), .unset]) rfl ?_
  refine g_iconst 0 C X0 d30_6 rfl ?_
  refine g_istore C X0 d30_7 (l' := #[.val (.ref nw), .val (.ref ar), .val (.int 0), .val (.int nb), .val (.int 1), .val (.int ((32 : Int32) - nb)), .val (.int 0)]) rfl ?_
  refine g_iload C X0 d30_9 rfl ?_
  refine g_iload C X0 d30_11 rfl ?_
  refine g_icmpn (hI_ge _ _) C X0 d30_13 (fun q => absurd (by decide) q) (fun _ => ?_)
  refine g_aloadN C X0 d30_16 rfl rfl ?_
  refine g_iloadN C X0 d30_17 rfl ?_
  refine g_iinc 1 C X0 d30_18 rfl rfl (l' := #[.val (.ref nw), .val (.ref ar), .val (.int 1), .val (.int nb), .val (.int 1), .val (.int ((32 : Int32) - nb)), .val (.int 0)]) rfl ?_
  refine g_aloadN C X0 d30_21 rfl rfl ?_
  refine g_iload C X0 d30_22 rfl ?_
  refine g_iinc 1 C X0 d30_24 rfl rfl (l' := #[.val (.ref nw), .val (.ref ar), .val (.int 1), .val (.int nb), .val (.int 1), .val (.int ((32 : Int32) - nb)), .val (.int 1)]) rfl ?_
  refine g_ialoadI C X0 VA d30_27 (by decide) (by decide) (fun v299 => ?_)
  refine g_iloadN C X0 d30_28 rfl ?_
  refine g_ishl C X0 d30_29 ?_
  refine g_aloadN C X0 d30_30 rfl rfl ?_
  refine g_iload C X0 d30_31 rfl ?_
  refine g_ialoadI C X0 VA d30_33 (by decide) (by decide) (fun v300 => ?_)
  refine g_iload C X0 d30_34 rfl ?_
  refine g_iushr C X0 d30_36 ?_
  refine g_ior C X0 d30_37 ?_
  refine g_iastoreI C X0 VN nn_ d30_38 (by decide) (own_lt (by rw [show (0 : Int32).toInt = 0 from rfl]; omega)) (fun T301 h301 X301 W301 V301 => ?_)
  refine g_goto C X301 d30_39 ?_
  refine g_iload C X301 d30_9 rfl ?_
  refine g_iload C X301 d30_11 rfl ?_
  refine g_icmpn (hI_ge _ _) C X301 d30_13 (fun _ => ?_) (fun q => absurd q (by decide))
  have kp302 := (Keep.refl h [nw]).wr W301 (Or.inl (by simp))
  exact g_retV C X301 d30_42 (by decide) (by decide) ⟨rfl, kp302, V301⟩
theorem ef_rWk21 (m : MethodId) (nw : Addr) (ar : Addr) (nb : Int32) : entryFrame m #[(.ref nw), (.ref ar), (.int 1), (.int nb), (.int 1)] 7 = mkF m 0 #[.val (.ref nw), .val (.ref ar), .val (.int 1), .val (.int nb), .val (.int 1), .unset, .unset] [] := by first | (simp [entryFrame, mkF, argsToLocals, Value.category]; done) | rfl
theorem rWk21 (l : Launch) {Z : State} {a0 : Array Value} (hw : ∀ d ∈ tables_1, d.before a0 Z = true) {h : Heap} (hE : Ext Z.heap h) (nw : Addr) (ar : Addr) (nb : Int32) (ln : Int32) (VN : Ia Z h nw ln) (VA : IaS Z h ar 2) (nn_ : Z.heap.size ≤ nw) (na_ : ar ≠ nw) (k0 : 3 ≤ ln.toInt) :
    Con l (⟨"java/math/BigInteger", "shiftLeftImplWorker", "([I[IIII)V"⟩ : MethodName) jdk_2097_method_103_code 7 none [] ({ frames := 0, cells := 0, slots := 0, locals := 0 } : Room) Z #[(.ref nw), (.ref ar), (.int 1), (.int nb), (.int 1)] h (fun v' h' => v' = none ∧ Keep h h' [nw] ∧ Ia Z h' nw ln) := by
  refine con_of (plainFor_of_name pn_3) hE (fun m => ef_rWk21 m nw ar nb) ?_
  intro p e s m below meth c T0 C X0
  have C : Cx p s m meth c Z "java/math/BigInteger" "shiftLeftImplWorker" jdk_2097_method_103_code 7 none := C
  show Goes p e below _ T0 (mkF m 0 #[.val (.ref nw), .val (.ref ar), .val (.int 1), .val (.int nb), .val (.int 1), .unset, .unset] [])
  refine g_bipush 32 C X0 d30_0 rfl ?_
  refine g_iloadN C X0 d30_2 rfl ?_
  refine g_isub C X0 d30_3 ?_
  refine g_istore C X0 d30_4 (l' := #[.val (.ref nw), .val (.ref ar), .val (.int 1), .val (.int nb), .val (.int 1), .val (.int ((32 : Int32) - nb)), .unset]) rfl ?_
  refine g_iconst 0 C X0 d30_6 rfl ?_
  refine g_istore C X0 d30_7 (l' := #[.val (.ref nw), .val (.ref ar), .val (.int 1), .val (.int nb), .val (.int 1), .val (.int ((32 : Int32) - nb)), .val (.int 0)]) rfl ?_
  refine g_iload C X0 d30_9 rfl ?_
  refine g_iload C X0 d30_11 rfl ?_
  refine g_icmpn (hI_ge _ _) C X0 d30_13 (fun q => absurd (by decide) q) (fun _ => ?_)
  refine g_aloadN C X0 d30_16 rfl rfl ?_
  refine g_iloadN C X0 d30_17 rfl ?_
  refine g_iinc 1 C X0 d30_18 rfl rfl (l' := #[.val (.ref nw), .val (.ref ar), .val (.int 2), .val (.int nb), .val (.int 1), .val (.int ((32 : Int32) - nb)), .val (.int 0)]) rfl ?_
  refine g_aloadN C X0 d30_21 rfl rfl ?_
  refine g_iload C X0 d30_22 rfl ?_
  refine g_iinc 1 C X0 d30_24 rfl rfl (l' := #[.val (.ref nw), .val (.ref ar), .val (.int 2), .val (.int nb), .val (.int 1), .val (.int ((32 : Int32) - nb)), .val (.int 1)]) rfl ?_
  refine g_ialoadI C X0 VA d30_27 (by decide) (by decide) (fun v303 => ?_)
  refine g_iloadN C X0 d30_28 rfl ?_
  refine g_ishl C X0 d30_29 ?_
  refine g_aloadN C X0 d30_30 rfl rfl ?_
  refine g_iload C X0 d30_31 rfl ?_
  refine g_ialoadI C X0 VA d30_33 (by decide) (by decide) (fun v304 => ?_)
  refine g_iload C X0 d30_34 rfl ?_
  refine g_iushr C X0 d30_36 ?_
  refine g_ior C X0 d30_37 ?_
  refine g_iastoreI C X0 VN nn_ d30_38 (by decide) (own_lt (by rw [show (1 : Int32).toInt = 1 from rfl]; omega)) (fun T305 h305 X305 W305 V305 => ?_)
  refine g_goto C X305 d30_39 ?_
  refine g_iload C X305 d30_9 rfl ?_
  refine g_iload C X305 d30_11 rfl ?_
  refine g_icmpn (hI_ge _ _) C X305 d30_13 (fun _ => ?_) (fun q => absurd q (by decide))
  have kp306 := (Keep.refl h [nw]).wr W305 (Or.inl (by simp))
  exact g_retV C X305 d30_42 (by decide) (by decide) ⟨rfl, kp306, V305⟩
theorem ef_rSL2 (m : MethodId) (ar : Addr) (kk : Int32) : entryFrame m #[(.ref ar), (.int kk)] 10 = mkF m 0 #[.val (.ref ar), .val (.int kk), .unset, .unset, .unset, .unset, .unset, .unset, .unset, .unset] [] := by first | (simp [entryFrame, mkF, argsToLocals, Value.category]; done) | rfl
theorem rSL2 (l : Launch) {Z : State} {a0 : Array Value} (hw : ∀ d ∈ tables_1, d.before a0 Z = true) {h : Heap} (hE : Ext Z.heap h) (ar : Addr) (kk : Int32)  (VA : IaS Z h ar 2) (k0 : 0 ≤ kk.toInt) (k1 : kk.toInt ≤ 40) :
    Con l (⟨"java/math/BigInteger", "shiftLeft", "([II)[I"⟩ : MethodName) jdk_2097_method_102_code 10 (some (.array .int)) [] ({ frames := 2, cells := 1, slots := 5, locals := 48 } : Room) Z #[(.ref ar), (.int kk)] h (fun v' h' => ∃ (br : Addr) (nn : Int32), v' = some (.ref br) ∧ Ext h h' ∧ IaS Z h' br nn ∧ 1 ≤ nn.toInt ∧ nn.toInt ≤ 5) := by
  refine con_of (plainFor_of_name pn_3) hE (fun m => ef_rSL2 m ar kk) ?_
  intro p e s m below meth c T0 C X0
  have C : Cx p s m meth c Z "java/math/BigInteger" "shiftLeft" jdk_2097_method_102_code 10 (some (.array .int)) := C
  show Goes p e below _ T0 (mkF m 0 #[.val (.ref ar), .val (.int kk), .unset, .unset, .unset, .unset, .unset, .unset, .unset, .unset] [])
  refine g_iloadN C X0 d27_0 rfl ?_
  refine g_iconst 5 C X0 d27_1 rfl ?_
  refine g_iushr C X0 d27_2 ?_
  refine g_istoreN C X0 d27_3 (l' := #[.val (.ref ar), .val (.int kk), .val (.int ((kk.toUInt32 >>> ((5 : Int32) &&& 31).toUInt32).toInt32)), .unset, .unset, .unset, .unset, .unset, .unset, .unset]) rfl ?_
  have e0 := own_ush5 kk k0
  obtain ⟨ni, hni⟩ : ∃ z : Int32, ((kk.toUInt32 >>> ((5 : Int32) &&& 31).toUInt32).toInt32) = z := ⟨_, rfl⟩
  rw [hni] at e0 ⊢
  have c1 : (1 : Int32).toInt = 1 := rfl
  have c2 : (2 : Int32).toInt = 2 := rfl
  have a1 := own_add (2 : Int32) ni (by omega) (by omega)
  have a2 := own_add ((2 : Int32) + ni) 1 (by omega) (by omega)
  show Goes p e below _ T0 (mkF m 4 #[.val (.ref ar), .val (.int kk), .val (.int ni), .unset, .unset, .unset, .unset, .unset, .unset, .unset] [])
  refine g_iloadN C X0 d27_4 rfl ?_
  refine g_bipush 31 C X0 d27_5 rfl ?_
  refine g_iand C X0 d27_7 ?_
  refine g_istoreN C X0 d27_8 (l' := #[.val (.ref ar), .val (.int kk), .val (.int ni), .val (.int (kk &&& (31 : Int32))), .unset, .unset, .unset, .unset, .unset, .unset]) rfl ?_
  obtain ⟨nb, hnb⟩ : ∃ z : Int32, (kk &&& (31 : Int32)) = z := ⟨_, rfl⟩
  rw [hnb]
  show Goes p e below _ T0 (mkF m 9 #[.val (.ref ar), .val (.int kk), .val (.int ni), .val (.int nb), .unset, .unset, .unset, .unset, .unset, .unset] [])
  refine g_aloadN C X0 d27_9 rfl rfl ?_
  refine g_arraylengthI C X0 VA d27_10 ?_
  refine g_istore C X0 d27_11 (l' := #[.val (.ref ar), .val (.int kk), .val (.int ni), .val (.int nb), .val (.int 2), .unset, .unset, .unset, .unset, .unset]) rfl ?_
  refine g_aconst_null C X0 d27_13 ?_
  refine g_astore C X0 d27_14 rfl (l' := #[.val (.ref ar), .val (.int kk), .val (.int ni), .val (.int nb), .val (.int 2), .val .null, .unset, .unset, .unset, .unset]) rfl ?_
  refine g_iloadN C X0 d27_16 rfl ?_
  refine g_ifn (h0_ne _) C X0 d27_17 (fun c17_307 => ?_) (fun c17_307 => ?_)
  · refine g_iconst 0 C X0 d27_41 rfl ?_
    refine g_istore C X0 d27_42 (l' := #[.val (.ref ar), .val (.int kk), .val (.int ni), .val (.int nb), .val (.int 2), .val .null, .val (.int 0), .unset, .unset, .unset]) rfl ?_
    refine g_bipush 32 C X0 d27_44 rfl ?_
    refine g_iloadN C X0 d27_46 rfl ?_
    refine g_isub C X0 d27_47 ?_
    refine g_istore C X0 d27_48 (l' := #[.val (.ref ar), .val (.int kk), .val (.int ni), .val (.int nb), .val (.int 2), .val .null, .val (.int 0), .val (.int ((32 : Int32) - nb)), .unset, .unset]) rfl ?_
    refine g_aloadN C X0 d27_50 rfl rfl ?_
    refine g_iconst 0 C X0 d27_51 rfl ?_
    refine g_ialoadI C X0 VA d27_52 (by decide) (by decide) (fun v308 => ?_)
    refine g_iload C X0 d27_53 rfl ?_
    refine g_iushr C X0 d27_55 ?_
    refine g_istore C X0 d27_56 (l' := #[.val (.ref ar), .val (.int kk), .val (.int ni), .val (.int nb), .val (.int 2), .val .null, .val (.int 0), .val (.int ((32 : Int32) - nb)), .val (.int ((v308.toUInt32 >>> (((32 : Int32) - nb) &&& 31).toUInt32).toInt32)), .unset]) rfl ?_
    refine g_iload C X0 d27_58 rfl ?_
    refine g_if (h0_eq _) C X0 d27_60 (fun c60_309 => ?_) (fun c60_309 => ?_)
    · refine g_iload C X0 d27_86 rfl ?_
      refine g_iloadN C X0 d27_88 rfl ?_
      refine g_iadd C X0 d27_89 ?_
      refine g_newarrayI C X0 (wd hw 97 rfl) d27_90 (own_nn (by omega)) 5 (by have := own_tn (x := ((2 : Int32) + ni)) (by omega); omega) (by decide) (by decide) (by decide) (fun T310 h310 b310 g_b310 n_b310 X310 E310 V310 => ?_)
      have lt311 : ar < b310 := by rw [g_b310]; exact IaS.lt VA
      refine g_astore C X310 d27_92 rfl (l' := #[.val (.ref ar), .val (.int kk), .val (.int ni), .val (.int nb), .val (.int 2), .val (.ref b310), .val (.int 0), .val (.int ((32 : Int32) - nb)), .val (.int ((v308.toUInt32 >>> (((32 : Int32) - nb) &&& 31).toUInt32).toInt32)), .unset]) rfl ?_
      refine g_iload C X310 d27_94 rfl ?_
      refine g_iconst 1 C X310 d27_96 rfl ?_
      refine g_isub C X310 d27_97 ?_
      refine g_istore C X310 d27_98 (l' := #[.val (.ref ar), .val (.int kk), .val (.int ni), .val (.int nb), .val (.int 2), .val (.ref b310), .val (.int 0), .val (.int ((32 : Int32) - nb)), .val (.int ((v308.toUInt32 >>> (((32 : Int32) - nb) &&& 31).toUInt32).toInt32)), .val (.int 1)]) rfl ?_
      refine g_iconst 0 C X310 d27_100 rfl ?_
      refine g_iload C X310 d27_101 rfl ?_
      refine g_iconst 1 C X310 d27_103 rfl ?_
      refine g_iadd C X310 d27_104 ?_
      refine g_aloadN C X310 d27_105 rfl rfl ?_
      have f312 := (IaS.ext VA E310)
      refine g_arraylengthI C X310 f312 d27_106 ?_
      refine g_staticP (argsL := [(.int 0), (.int 2), (.int 2)]) (st := []) C X310 (wd hw 178 rfl) (wd hw 179 rfl) (wd hw 162 rfl) (wd hw 180 rfl) (by decide) (pay_of (W' := 0) (rCF l hw X310.ext (0 : Int32) (2 : Int32) (2 : Int32) (by decide) (by decide) (by decide)) C.hZ (wd hw 180 rfl) (wd hw 162 rfl) (by decide) (by decide)) pd_9 rfl rfl _ rfl (Nat.le_of_eq rfl) d27_107 (by decide) (by decide) (fun T313 X313 => ?_)
      refine g_pop C X313 d27_110 rfl ?_
      refine g_iload C X313 d27_111 rfl ?_
      refine g_iload C X313 d27_113 rfl ?_
      refine g_iload C X313 d27_115 rfl ?_
      refine g_iadd C X313 d27_117 ?_
      refine g_iconst 1 C X313 d27_118 rfl ?_
      refine g_iadd C X313 d27_119 ?_
      refine g_aload C X313 d27_120 rfl rfl ?_
      refine g_arraylengthI C X313 (Ia.toS V310) d27_122 ?_
      refine g_staticP (argsL := [(.int 0), (.int 2), (.int ((2 : Int32) + ni))]) (st := []) C X313 (wd hw 178 rfl) (wd hw 179 rfl) (wd hw 162 rfl) (wd hw 180 rfl) (by decide) (pay_of (W' := 0) (rCF l hw X313.ext (0 : Int32) (2 : Int32) ((2 : Int32) + ni) (by decide) (by decide) (own_nlt (by rw [show (2 : Int32).toInt = 2 from rfl]; omega))) C.hZ (wd hw 180 rfl) (wd hw 162 rfl) (by decide) (by decide)) pd_9 rfl rfl _ rfl (Nat.le_of_eq rfl) d27_123 (by decide) (by decide) (fun T314 X314 => ?_)
      refine g_pop C X314 d27_126 rfl ?_
      refine g_aload C X314 d27_127 rfl rfl ?_
      refine g_aloadN C X314 d27_129 rfl rfl ?_
      refine g_iload C X314 d27_130 rfl ?_
      refine g_iloadN C X314 d27_132 rfl ?_
      refine g_iload C X314 d27_133 rfl ?_
      refine g_static (argsL := [(.ref b310), (.ref ar), (.int 0), (.int nb), (.int 1)]) (st := []) C X314 (wd hw 185 rfl) (wd hw 186 rfl) (wd hw 36 rfl) (wd hw 187 rfl) (by decide) (pay_of (W' := 0) (rWk20 l hw X314.ext b310 ar nb ((2 : Int32) + ni) V310 f312 n_b310 (Nat.ne_of_lt lt311) (by omega)) C.hZ (wd hw 187 rfl) (wd hw 36 rfl) (by decide) (by decide)) pd_10 rfl rfl _ rfl (Nat.le_of_eq rfl) d27_135 (by decide) (by decide) (fun T315 h315 v315 q315 X315 => ?_)
      obtain ⟨rfl, K315, V315⟩ := q315
      show Goes p e below _ T315 (mkF m 138 #[.val (.ref ar), .val (.int kk), .val (.int ni), .val (.int nb), .val (.int 2), .val (.ref b310), .val (.int 0), .val (.int ((32 : Int32) - nb)), .val (.int ((v308.toUInt32 >>> (((32 : Int32) - nb) &&& 31).toUInt32).toInt32)), .val (.int 1)] [])
      refine g_aload C X315 d27_138 rfl rfl ?_
      refine g_iload C X315 d27_140 rfl ?_
      refine g_iload C X315 d27_142 rfl ?_
      refine g_iadd C X315 d27_144 ?_
      refine g_aloadN C X315 d27_145 rfl rfl ?_
      refine g_iload C X315 d27_146 rfl ?_
      have f316 := (IaS.keep f312 K315 (ninS (Nat.ne_of_lt lt311) nin0))
      refine g_ialoadI C X315 f316 d27_148 (by decide) (by decide) (fun v317 => ?_)
      refine g_iloadN C X315 d27_149 rfl ?_
      refine g_ishl C X315 d27_150 ?_
      show Goes p e below _ T315 (mkF m 151 #[.val (.ref ar), .val (.int kk), .val (.int ni), .val (.int nb), .val (.int 2), .val (.ref b310), .val (.int 0), .val (.int ((32 : Int32) - nb)), .val (.int ((v308.toUInt32 >>> (((32 : Int32) - nb) &&& 31).toUInt32).toInt32)), .val (.int 1)] [(.int (v317 <<< (nb &&& 31))), (.int 1), (.ref b310)])
      refine g_iastoreI C X315 V315 n_b310 d27_151 (by decide) (own_lt (by rw [show (1 : Int32).toInt = 1 from rfl]; omega)) (fun T318 h318 X318 W318 V318 => ?_)
      refine g_aload C X318 d27_152 rfl rfl ?_
      have sz319 : h.size ≤ b310 := by rw [g_b310]; exact (Keep.refl h []).1
      have kp320 := (Keep.refl h []).ext E310
      have kp321 := kp320.trans K315 (allS (Or.inr sz319) all0)
      have kp322 := kp321.wr W318 (Or.inr sz319)
      exact g_retA C X318 rfl rfl d27_154 (by decide) (by decide) ⟨b310, ((2 : Int32) + ni), rfl, keep_ext kp322, (Ia.toS V318), by omega, by omega⟩
    · refine g_iload C X0 d27_63 rfl ?_
      refine g_iloadN C X0 d27_65 rfl ?_
      refine g_iadd C X0 d27_66 ?_
      refine g_iconst 1 C X0 d27_67 rfl ?_
      refine g_iadd C X0 d27_68 ?_
      refine g_newarrayI C X0 (wd hw 97 rfl) d27_69 (own_nn (by omega)) 5 (by have := own_tn (x := (((2 : Int32) + ni) + (1 : Int32))) (by omega); omega) (by decide) (by decide) (by decide) (fun T323 h323 b323 g_b323 n_b323 X323 E323 V323 => ?_)
      have lt324 : ar < b323 := by rw [g_b323]; exact IaS.lt VA
      refine g_astore C X323 d27_71 rfl (l' := #[.val (.ref ar), .val (.int kk), .val (.int ni), .val (.int nb), .val (.int 2), .val (.ref b323), .val (.int 0), .val (.int ((32 : Int32) - nb)), .val (.int ((v308.toUInt32 >>> (((32 : Int32) - nb) &&& 31).toUInt32).toInt32)), .unset]) rfl ?_
      refine g_aload C X323 d27_73 rfl rfl ?_
      refine g_iload C X323 d27_75 rfl ?_
      refine g_iinc 1 C X323 d27_77 rfl rfl (l' := #[.val (.ref ar), .val (.int kk), .val (.int ni), .val (.int nb), .val (.int 2), .val (.ref b323), .val (.int 1), .val (.int ((32 : Int32) - nb)), .val (.int ((v308.toUInt32 >>> (((32 : Int32) - nb) &&& 31).toUInt32).toInt32)), .unset]) rfl ?_
      refine g_iload C X323 d27_80 rfl ?_
      show Goes p e below _ T323 (mkF m 82 #[.val (.ref ar), .val (.int kk), .val (.int ni), .val (.int nb), .val (.int 2), .val (.ref b323), .val (.int 1), .val (.int ((32 : Int32) - nb)), .val (.int ((v308.toUInt32 >>> (((32 : Int32) - nb) &&& 31).toUInt32).toInt32)), .unset] [(.int ((v308.toUInt32 >>> (((32 : Int32) - nb) &&& 31).toUInt32).toInt32)), (.int 0), (.ref b323)])
      refine g_iastoreI C X323 V323 n_b323 d27_82 (by decide) (own_lt (by rw [show (0 : Int32).toInt = 0 from rfl]; omega)) (fun T325 h325 X325 W325 V325 => ?_)
      refine g_goto C X325 d27_83 ?_
      refine g_iload C X325 d27_94 rfl ?_
      refine g_iconst 1 C X325 d27_96 rfl ?_
      refine g_isub C X325 d27_97 ?_
      refine g_istore C X325 d27_98 (l' := #[.val (.ref ar), .val (.int kk), .val (.int ni), .val (.int nb), .val (.int 2), .val (.ref b323), .val (.int 1), .val (.int ((32 : Int32) - nb)), .val (.int ((v308.toUInt32 >>> (((32 : Int32) - nb) &&& 31).toUInt32).toInt32)), .val (.int 1)]) rfl ?_
      refine g_iconst 0 C X325 d27_100 rfl ?_
      refine g_iload C X325 d27_101 rfl ?_
      refine g_iconst 1 C X325 d27_103 rfl ?_
      refine g_iadd C X325 d27_104 ?_
      refine g_aloadN C X325 d27_105 rfl rfl ?_
      have f326 := (IaS.other (IaS.ext VA E323) W325 (Nat.ne_of_lt lt324))
      refine g_arraylengthI C X325 f326 d27_106 ?_
      refine g_staticP (argsL := [(.int 0), (.int 2), (.int 2)]) (st := []) C X325 (wd hw 178 rfl) (wd hw 179 rfl) (wd hw 162 rfl) (wd hw 180 rfl) (by decide) (pay_of (W' := 0) (rCF l hw X325.ext (0 : Int32) (2 : Int32) (2 : Int32) (by decide) (by decide) (by decide)) C.hZ (wd hw 180 rfl) (wd hw 162 rfl) (by decide) (by decide)) pd_9 rfl rfl _ rfl (Nat.le_of_eq rfl) d27_107 (by decide) (by decide) (fun T327 X327 => ?_)
      refine g_pop C X327 d27_110 rfl ?_
      refine g_iload C X327 d27_111 rfl ?_
      refine g_iload C X327 d27_113 rfl ?_
      refine g_iload C X327 d27_115 rfl ?_
      refine g_iadd C X327 d27_117 ?_
      refine g_iconst 1 C X327 d27_118 rfl ?_
      refine g_iadd C X327 d27_119 ?_
      refine g_aload C X327 d27_120 rfl rfl ?_
      refine g_arraylengthI C X327 (Ia.toS V325) d27_122 ?_
      refine g_staticP (argsL := [(.int 1), (.int 3), (.int (((2 : Int32) + ni) + (1 : Int32)))]) (st := []) C X327 (wd hw 178 rfl) (wd hw 179 rfl) (wd hw 162 rfl) (wd hw 180 rfl) (by decide) (pay_of (W' := 0) (rCF l hw X327.ext (1 : Int32) (3 : Int32) (((2 : Int32) + ni) + (1 : Int32)) (by decide) (by decide) (own_nlt (by rw [show (3 : Int32).toInt = 3 from rfl]; omega))) C.hZ (wd hw 180 rfl) (wd hw 162 rfl) (by decide) (by decide)) pd_9 rfl rfl _ rfl (Nat.le_of_eq rfl) d27_123 (by decide) (by decide) (fun T328 X328 => ?_)
      refine g_pop C X328 d27_126 rfl ?_
      refine g_aload C X328 d27_127 rfl rfl ?_
      refine g_aloadN C X328 d27_129 rfl rfl ?_
      refine g_iload C X328 d27_130 rfl ?_
      refine g_iloadN C X328 d27_132 rfl ?_
      refine g_iload C X328 d27_133 rfl ?_
      refine g_static (argsL := [(.ref b323), (.ref ar), (.int 1), (.int nb), (.int 1)]) (st := []) C X328 (wd hw 185 rfl) (wd hw 186 rfl) (wd hw 36 rfl) (wd hw 187 rfl) (by decide) (pay_of (W' := 0) (rWk21 l hw X328.ext b323 ar nb (((2 : Int32) + ni) + (1 : Int32)) V325 f326 n_b323 (Nat.ne_of_lt lt324) (by omega)) C.hZ (wd hw 187 rfl) (wd hw 36 rfl) (by decide) (by decide)) pd_10 rfl rfl _ rfl (Nat.le_of_eq rfl) d27_135 (by decide) (by decide) (fun T329 h329 v329 q329 X329 => ?_)
      obtain ⟨rfl, K329, V329⟩ := q329
      show Goes p e below _ T329 (mkF m 138 #[.val (.ref ar), .val (.int kk), .val (.int ni), .val (.int nb), .val (.int 2), .val (.ref b323), .val (.int 1), .val (.int ((32 : Int32) - nb)), .val (.int ((v308.toUInt32 >>> (((32 : Int32) - nb) &&& 31).toUInt32).toInt32)), .val (.int 1)] [])
      refine g_aload C X329 d27_138 rfl rfl ?_
      refine g_iload C X329 d27_140 rfl ?_
      refine g_iload C X329 d27_142 rfl ?_
      refine g_iadd C X329 d27_144 ?_
      refine g_aloadN C X329 d27_145 rfl rfl ?_
      refine g_iload C X329 d27_146 rfl ?_
      have f330 := (IaS.keep f326 K329 (ninS (Nat.ne_of_lt lt324) nin0))
      refine g_ialoadI C X329 f330 d27_148 (by decide) (by decide) (fun v331 => ?_)
      refine g_iloadN C X329 d27_149 rfl ?_
      refine g_ishl C X329 d27_150 ?_
      show Goes p e below _ T329 (mkF m 151 #[.val (.ref ar), .val (.int kk), .val (.int ni), .val (.int nb), .val (.int 2), .val (.ref b323), .val (.int 1), .val (.int ((32 : Int32) - nb)), .val (.int ((v308.toUInt32 >>> (((32 : Int32) - nb) &&& 31).toUInt32).toInt32)), .val (.int 1)] [(.int (v331 <<< (nb &&& 31))), (.int 2), (.ref b323)])
      refine g_iastoreI C X329 V329 n_b323 d27_151 (by decide) (own_lt (by rw [show (2 : Int32).toInt = 2 from rfl]; omega)) (fun T332 h332 X332 W332 V332 => ?_)
      refine g_aload C X332 d27_152 rfl rfl ?_
      have sz333 : h.size ≤ b323 := by rw [g_b323]; exact (Keep.refl h []).1
      have kp334 := (Keep.refl h []).ext E323
      have kp335 := kp334.wr W325 (Or.inr sz333)
      have kp336 := kp335.trans K329 (allS (Or.inr sz333) all0)
      have kp337 := kp336.wr W332 (Or.inr sz333)
      exact g_retA C X332 rfl rfl d27_154 (by decide) (by decide) ⟨b323, (((2 : Int32) + ni) + (1 : Int32)), rfl, keep_ext kp337, (Ia.toS V332), by omega, by omega⟩
  · refine g_iload C X0 d27_20 rfl ?_
    refine g_iloadN C X0 d27_22 rfl ?_
    refine g_iadd C X0 d27_23 ?_
    refine g_newarrayI C X0 (wd hw 97 rfl) d27_24 (own_nn (by omega)) 5 (by have := own_tn (x := ((2 : Int32) + ni)) (by omega); omega) (by decide) (by decide) (by decide) (fun T338 h338 b338 g_b338 n_b338 X338 E338 V338 => ?_)
    have lt339 : ar < b338 := by rw [g_b338]; exact IaS.lt VA
    refine g_astore C X338 d27_26 rfl (l' := #[.val (.ref ar), .val (.int kk), .val (.int ni), .val (.int nb), .val (.int 2), .val (.ref b338), .unset, .unset, .unset, .unset]) rfl ?_
    refine g_aloadN C X338 d27_28 rfl rfl ?_
    refine g_iconst 0 C X338 d27_29 rfl ?_
    refine g_aload C X338 d27_30 rfl rfl ?_
    refine g_iconst 0 C X338 d27_32 rfl ?_
    refine g_iload C X338 d27_33 rfl ?_
    have f340 := (IaS.ext VA E338)
    refine g_arraycopyI C X338 (wd hw 176 rfl) (wd hw 116 rfl) (wd hw 114 rfl) (wd hw 115 rfl) f340 V338 (by decide) (by decide) (by decide) (by decide) (by rw [show (0 : Int32).toInt = 0 from rfl, show (2 : Int32).toInt = 2 from rfl]; omega) n_b338 rfl d27_35 (by decide) 0 (Nat.le_of_eq rfl) (by decide) (fun T341 h341 X341 K341 V341 => ?_)
    show Goes p e below _ T341 (mkF m 38 #[.val (.ref ar), .val (.int kk), .val (.int ni), .val (.int nb), .val (.int 2), .val (.ref b338), .unset, .unset, .unset, .unset] [])
    refine g_goto C X341 d27_38 ?_
    refine g_aload C X341 d27_152 rfl rfl ?_
    have sz342 : h.size ≤ b338 := by rw [g_b338]; exact (Keep.refl h []).1
    have kp343 := (Keep.refl h []).ext E338
    have kp344 := kp343.trans K341 (allS (Or.inr sz342) all0)
    exact g_retA C X341 rfl rfl d27_154 (by decide) (by decide) ⟨b338, ((2 : Int32) + ni), rfl, keep_ext kp344, (Ia.toS V341), by omega, by omega⟩
theorem ef_rMB2 (m : MethodId) (ar : Addr) (y : Int32) : entryFrame m #[(.ref ar), (.int y), (.int 1)] 13 = mkF m 0 #[.val (.ref ar), .val (.int y), .val (.int 1), .unset, .unset, .unset, .unset, .unset, .unset, .unset, .unset, .unset, .unset] [] := by first | (simp [entryFrame, mkF, argsToLocals, Value.category]; done) | rfl
theorem rMB2 (l : Launch) {Z : State} {a0 : Array Value} (hw : ∀ d ∈ tables_1, d.before a0 Z = true) {h : Heap} (hE : Ext Z.heap h) (ar : Addr) (y : Int32)  (VA : IaS Z h ar 2) :
    Con l (⟨"java/math/BigInteger", "multiplyByInt", "([III)Ljava/math/BigInteger;"⟩ : MethodName) jdk_2097_method_43_code 13 (some (.object "java/math/BigInteger")) [] ({ frames := 4, cells := 3, slots := 40, locals := 96 } : Room) Z #[(.ref ar), (.int y), (.int 1)] h (fun v' h' => ∃ (x mg : Addr) (sg nn : Int32), v' = some (.ref x) ∧ Ext h h' ∧ Exa Z h' x "java/math/BigInteger" ∧ Fld Z h' x "java/math/BigInteger" "signum" "I" (.int sg) ∧ Fld Z h' x "java/math/BigInteger" "mag" "[I" (.ref mg) ∧ IaS Z h' mg nn ∧ (sg = 0 ∨ (sg = 1 ∧ 1 ≤ nn.toInt)) ∧ nn.toInt ≤ 5) := by
  refine con_of (plainFor_of_name pn_3) hE (fun m => ef_rMB2 m ar y) ?_
  intro p e s m below meth c T0 C X0
  have C : Cx p s m meth c Z "java/math/BigInteger" "multiplyByInt" jdk_2097_method_43_code 13 (some (.object "java/math/BigInteger")) := C
  show Goes p e below _ T0 (mkF m 0 #[.val (.ref ar), .val (.int y), .val (.int 1), .unset, .unset, .unset, .unset, .unset, .unset, .unset, .unset, .unset, .unset] [])
  refine g_iloadN C X0 d9_0 rfl ?_
  refine g_static (argsL := [(.int y)]) (st := []) C X0 (wd hw 91 rfl) (wd hw 92 rfl) (wd hw 23 rfl) (wd hw 93 rfl) (by decide) (pay_of (W' := 0) (rBC l hw X0.ext y) C.hZ (wd hw 93 rfl) (wd hw 23 rfl) (by decide) (by decide)) pd_11 rfl rfl _ rfl (Nat.le_of_eq rfl) d9_1 (by decide) (by decide) (fun T345 h345 v345 q345 X345 => ?_)
  obtain ⟨bc345, rfl, hh345⟩ := q345
  obtain rfl := hh345.symm
  show Goes p e below _ T345 (mkF m 4 #[.val (.ref ar), .val (.int y), .val (.int 1), .unset, .unset, .unset, .unset, .unset, .unset, .unset, .unset, .unset, .unset] [(.int bc345)])
  refine g_iconst 1 C X345 d9_4 rfl ?_
  refine g_icmpn (hI_ne _ _) C X345 d9_5 (fun c5_346 => ?_) (fun c5_346 => ?_)
  · refine g_aloadN C X345 d9_25 rfl rfl ?_
    refine g_arraylengthI C X345 VA d9_26 ?_
    refine g_istoreN C X345 d9_27 (l' := #[.val (.ref ar), .val (.int y), .val (.int 1), .val (.int 2), .unset, .unset, .unset, .unset, .unset, .unset, .unset, .unset, .unset]) rfl ?_
    refine g_iloadN C X345 d9_28 rfl ?_
    refine g_iconst 1 C X345 d9_29 rfl ?_
    refine g_iadd C X345 d9_30 ?_
    refine g_newarrayI C X345 (wd hw 97 rfl) d9_31 (by decide) 3 (by decide) (by decide) (by decide) (by decide) (fun T347 h347 b347 g_b347 n_b347 X347 E347 V347 => ?_)
    have lt348 : ar < b347 := by rw [g_b347]; exact IaS.lt VA
    refine g_astore C X347 d9_33 rfl (l' := #[.val (.ref ar), .val (.int y), .val (.int 1), .val (.int 2), .val (.ref b347), .unset, .unset, .unset, .unset, .unset, .unset, .unset, .unset]) rfl ?_
    refine g_lconst 0 C X347 d9_35 rfl ?_
    refine g_lstore C X347 d9_36 (l' := #[.val (.ref ar), .val (.int y), .val (.int 1), .val (.int 2), .val (.ref b347), .val (.long 0), .second, .unset, .unset, .unset, .unset, .unset, .unset]) rfl ?_
    refine g_iloadN C X347 d9_38 rfl ?_
    refine g_i2l C X347 d9_39 ?_
    refine g_ldcJ C X347 (wd hw 98 rfl) d9_40 ?_
    refine g_land C X347 d9_43 ?_
    refine g_lstore C X347 d9_44 (l' := #[.val (.ref ar), .val (.int y), .val (.int 1), .val (.int 2), .val (.ref b347), .val (.long 0), .second, .val (.long ((y.toInt64) &&& (4294967295 : Int64))), .second, .unset, .unset, .unset, .unset]) rfl ?_
    refine g_aload C X347 d9_46 rfl rfl ?_
    refine g_arraylengthI C X347 (Ia.toS V347) d9_48 ?_
    refine g_iconst 1 C X347 d9_49 rfl ?_
    refine g_isub C X347 d9_50 ?_
    refine g_istore C X347 d9_51 (l' := #[.val (.ref ar), .val (.int y), .val (.int 1), .val (.int 2), .val (.ref b347), .val (.long 0), .second, .val (.long ((y.toInt64) &&& (4294967295 : Int64))), .second, .val (.int 2), .unset, .unset, .unset]) rfl ?_
    refine g_iloadN C X347 d9_53 rfl ?_
    refine g_iconst 1 C X347 d9_54 rfl ?_
    refine g_isub C X347 d9_55 ?_
    refine g_istore C X347 d9_56 (l' := #[.val (.ref ar), .val (.int y), .val (.int 1), .val (.int 2), .val (.ref b347), .val (.long 0), .second, .val (.long ((y.toInt64) &&& (4294967295 : Int64))), .second, .val (.int 2), .val (.int 1), .unset, .unset]) rfl ?_
    refine g_iload C X347 d9_58 rfl ?_
    refine g_if (h0_lt _) C X347 d9_60 (fun q => absurd q (by decide)) (fun _ => ?_)
    refine g_aloadN C X347 d9_63 rfl rfl ?_
    refine g_iload C X347 d9_64 rfl ?_
    have f349 := (IaS.ext VA E347)
    refine g_ialoadI C X347 f349 d9_66 (by decide) (by decide) (fun v350 => ?_)
    refine g_i2l C X347 d9_67 ?_
    refine g_ldcJ C X347 (wd hw 98 rfl) d9_68 ?_
    refine g_land C X347 d9_71 ?_
    refine g_lload C X347 d9_72 rfl ?_
    refine g_lmul C X347 d9_74 ?_
    refine g_lload C X347 d9_75 rfl ?_
    refine g_ladd C X347 d9_77 ?_
    refine g_lstore C X347 d9_78 (l' := #[.val (.ref ar), .val (.int y), .val (.int 1), .val (.int 2), .val (.ref b347), .val (.long 0), .second, .val (.long ((y.toInt64) &&& (4294967295 : Int64))), .second, .val (.int 2), .val (.int 1), .val (.long ((((v350.toInt64) &&& (4294967295 : Int64)) * ((y.toInt64) &&& (4294967295 : Int64))) + (0 : Int64))), .second]) rfl ?_
    refine g_aload C X347 d9_80 rfl rfl ?_
    refine g_iload C X347 d9_82 rfl ?_
    refine g_iinc (-1) C X347 d9_84 rfl rfl (l' := #[.val (.ref ar), .val (.int y), .val (.int 1), .val (.int 2), .val (.ref b347), .val (.long 0), .second, .val (.long ((y.toInt64) &&& (4294967295 : Int64))), .second, .val (.int 1), .val (.int 1), .val (.long ((((v350.toInt64) &&& (4294967295 : Int64)) * ((y.toInt64) &&& (4294967295 : Int64))) + (0 : Int64))), .second]) rfl ?_
    refine g_lload C X347 d9_87 rfl ?_
    refine g_l2i C X347 d9_89 ?_
    refine g_iastoreI C X347 V347 n_b347 d9_90 (by decide) (by decide) (fun T351 h351 X351 W351 V351 => ?_)
    refine g_lload C X351 d9_91 rfl ?_
    refine g_bipush 32 C X351 d9_93 rfl ?_
    refine g_lushr C X351 d9_95 ?_
    refine g_lstore C X351 d9_96 (l' := #[.val (.ref ar), .val (.int y), .val (.int 1), .val (.int 2), .val (.ref b347), .val (.long ((((((v350.toInt64) &&& (4294967295 : Int64)) * ((y.toInt64) &&& (4294967295 : Int64))) + (0 : Int64)).toUInt64 >>> ((32 : Int32) &&& 0x3f).toInt64.toUInt64).toInt64)), .second, .val (.long ((y.toInt64) &&& (4294967295 : Int64))), .second, .val (.int 1), .val (.int 1), .val (.long ((((v350.toInt64) &&& (4294967295 : Int64)) * ((y.toInt64) &&& (4294967295 : Int64))) + (0 : Int64))), .second]) rfl ?_
    refine g_iinc (-1) C X351 d9_98 rfl rfl (l' := #[.val (.ref ar), .val (.int y), .val (.int 1), .val (.int 2), .val (.ref b347), .val (.long ((((((v350.toInt64) &&& (4294967295 : Int64)) * ((y.toInt64) &&& (4294967295 : Int64))) + (0 : Int64)).toUInt64 >>> ((32 : Int32) &&& 0x3f).toInt64.toUInt64).toInt64)), .second, .val (.long ((y.toInt64) &&& (4294967295 : Int64))), .second, .val (.int 1), .val (.int 0), .val (.long ((((v350.toInt64) &&& (4294967295 : Int64)) * ((y.toInt64) &&& (4294967295 : Int64))) + (0 : Int64))), .second]) rfl ?_
    refine g_goto C X351 d9_101 ?_
    refine g_iload C X351 d9_58 rfl ?_
    refine g_if (h0_lt _) C X351 d9_60 (fun q => absurd q (by decide)) (fun _ => ?_)
    refine g_aloadN C X351 d9_63 rfl rfl ?_
    refine g_iload C X351 d9_64 rfl ?_
    have f352 := (IaS.other f349 W351 (Nat.ne_of_lt lt348))
    refine g_ialoadI C X351 f352 d9_66 (by decide) (by decide) (fun v353 => ?_)
    refine g_i2l C X351 d9_67 ?_
    refine g_ldcJ C X351 (wd hw 98 rfl) d9_68 ?_
    refine g_land C X351 d9_71 ?_
    refine g_lload C X351 d9_72 rfl ?_
    refine g_lmul C X351 d9_74 ?_
    refine g_lload C X351 d9_75 rfl ?_
    refine g_ladd C X351 d9_77 ?_
    refine g_lstore C X351 d9_78 (l' := #[.val (.ref ar), .val (.int y), .val (.int 1), .val (.int 2), .val (.ref b347), .val (.long ((((((v350.toInt64) &&& (4294967295 : Int64)) * ((y.toInt64) &&& (4294967295 : Int64))) + (0 : Int64)).toUInt64 >>> ((32 : Int32) &&& 0x3f).toInt64.toUInt64).toInt64)), .second, .val (.long ((y.toInt64) &&& (4294967295 : Int64))), .second, .val (.int 1), .val (.int 0), .val (.long ((((v353.toInt64) &&& (4294967295 : Int64)) * ((y.toInt64) &&& (4294967295 : Int64))) + ((((((v350.toInt64) &&& (4294967295 : Int64)) * ((y.toInt64) &&& (4294967295 : Int64))) + (0 : Int64)).toUInt64 >>> ((32 : Int32) &&& 0x3f).toInt64.toUInt64).toInt64))), .second]) rfl ?_
    refine g_aload C X351 d9_80 rfl rfl ?_
    refine g_iload C X351 d9_82 rfl ?_
    refine g_iinc (-1) C X351 d9_84 rfl rfl (l' := #[.val (.ref ar), .val (.int y), .val (.int 1), .val (.int 2), .val (.ref b347), .val (.long ((((((v350.toInt64) &&& (4294967295 : Int64)) * ((y.toInt64) &&& (4294967295 : Int64))) + (0 : Int64)).toUInt64 >>> ((32 : Int32) &&& 0x3f).toInt64.toUInt64).toInt64)), .second, .val (.long ((y.toInt64) &&& (4294967295 : Int64))), .second, .val (.int 0), .val (.int 0), .val (.long ((((v353.toInt64) &&& (4294967295 : Int64)) * ((y.toInt64) &&& (4294967295 : Int64))) + ((((((v350.toInt64) &&& (4294967295 : Int64)) * ((y.toInt64) &&& (4294967295 : Int64))) + (0 : Int64)).toUInt64 >>> ((32 : Int32) &&& 0x3f).toInt64.toUInt64).toInt64))), .second]) rfl ?_
    refine g_lload C X351 d9_87 rfl ?_
    refine g_l2i C X351 d9_89 ?_
    refine g_iastoreI C X351 V351 n_b347 d9_90 (by decide) (by decide) (fun T354 h354 X354 W354 V354 => ?_)
    refine g_lload C X354 d9_91 rfl ?_
    refine g_bipush 32 C X354 d9_93 rfl ?_
    refine g_lushr C X354 d9_95 ?_
    refine g_lstore C X354 d9_96 (l' := #[.val (.ref ar), .val (.int y), .val (.int 1), .val (.int 2), .val (.ref b347), .val (.long ((((((v353.toInt64) &&& (4294967295 : Int64)) * ((y.toInt64) &&& (4294967295 : Int64))) + ((((((v350.toInt64) &&& (4294967295 : Int64)) * ((y.toInt64) &&& (4294967295 : Int64))) + (0 : Int64)).toUInt64 >>> ((32 : Int32) &&& 0x3f).toInt64.toUInt64).toInt64)).toUInt64 >>> ((32 : Int32) &&& 0x3f).toInt64.toUInt64).toInt64)), .second, .val (.long ((y.toInt64) &&& (4294967295 : Int64))), .second, .val (.int 0), .val (.int 0), .val (.long ((((v353.toInt64) &&& (4294967295 : Int64)) * ((y.toInt64) &&& (4294967295 : Int64))) + ((((((v350.toInt64) &&& (4294967295 : Int64)) * ((y.toInt64) &&& (4294967295 : Int64))) + (0 : Int64)).toUInt64 >>> ((32 : Int32) &&& 0x3f).toInt64.toUInt64).toInt64))), .second]) rfl ?_
    refine g_iinc (-1) C X354 d9_98 rfl rfl (l' := #[.val (.ref ar), .val (.int y), .val (.int 1), .val (.int 2), .val (.ref b347), .val (.long ((((((v353.toInt64) &&& (4294967295 : Int64)) * ((y.toInt64) &&& (4294967295 : Int64))) + ((((((v350.toInt64) &&& (4294967295 : Int64)) * ((y.toInt64) &&& (4294967295 : Int64))) + (0 : Int64)).toUInt64 >>> ((32 : Int32) &&& 0x3f).toInt64.toUInt64).toInt64)).toUInt64 >>> ((32 : Int32) &&& 0x3f).toInt64.toUInt64).toInt64)), .second, .val (.long ((y.toInt64) &&& (4294967295 : Int64))), .second, .val (.int 0), .val (.int (-1)), .val (.long ((((v353.toInt64) &&& (4294967295 : Int64)) * ((y.toInt64) &&& (4294967295 : Int64))) + ((((((v350.toInt64) &&& (4294967295 : Int64)) * ((y.toInt64) &&& (4294967295 : Int64))) + (0 : Int64)).toUInt64 >>> ((32 : Int32) &&& 0x3f).toInt64.toUInt64).toInt64))), .second]) rfl ?_
    refine g_goto C X354 d9_101 ?_
    refine g_iload C X354 d9_58 rfl ?_
    refine g_if (h0_lt _) C X354 d9_60 (fun _ => ?_) (fun q => absurd (by decide) q)
    refine g_lload C X354 d9_104 rfl ?_
    refine g_lconst 0 C X354 d9_106 rfl ?_
    refine g_lcmp C X354 d9_107 ?_
    refine g_ifn (hL_ne _ _) C X354 d9_108 (fun c108_355 => ?_) (fun c108_355 => ?_)
    · refine g_aload C X354 d9_125 rfl rfl ?_
      refine g_iload C X354 d9_127 rfl ?_
      refine g_lload C X354 d9_129 rfl ?_
      refine g_l2i C X354 d9_131 ?_
      refine g_iastoreI C X354 V354 n_b347 d9_132 (by decide) (by decide) (fun T356 h356 X356 W356 V356 => ?_)
      refine g_new C X356 (wd hw 117 rfl) (wd hw 118 rfl) (wd hw 36 rfl) d9_133 (by decide) (by decide) (fun T357 h357 b357 g_b357 n_b357 X357 E357 A357 D357 M357 => ?_)
      have f358 := (IaS.other (IaS.other f352 W354 (Nat.ne_of_lt lt348)) W356 (Nat.ne_of_lt lt348))
      have lt359 : ar < b357 := by rw [g_b357]; exact IaS.lt f358
      have lt360 : b347 < b357 := by rw [g_b357]; exact Ia.lt V356
      have F_signum_b357 : Fld Z h357 b357 "java/math/BigInteger" "signum" "I" (.int 0) := D357 (Or.inr (wd hw 85 rfl)) (ty := .int) (by decide)
      have F_mag_b357 : Fld Z h357 b357 "java/math/BigInteger" "mag" "[I" .null := D357 (Or.inr (wd hw 87 rfl)) (ty := (.array .int)) (by decide)
      refine g_dup C X357 d9_136 rfl ?_
      refine g_aload C X357 d9_137 rfl rfl ?_
      refine g_iloadN C X357 d9_139 rfl ?_
      have f362 := (Ia.ext V356 E357)
      have ne361 := own_neI A357 (Ia.toS f362) (wd hw 118 rfl)
      refine g_special (argsL := [(.ref b347), (.int 1)]) (st := [(.ref b357)]) C X357 rfl (wd hw 119 rfl) (wd hw 120 rfl) (wd hw 122 rfl) (by decide) (pay_of (W' := 1) (rBA l hw X357.ext b357 b347 (3 : Int32) A357 F_signum_b357 F_mag_b357 n_b357 (Ia.toS f362) (by decide)) C.hZ (wd hw 122 rfl) (wd hw 36 rfl) (by decide) (by decide)) pd_6 rfl rfl _ rfl (Nat.le_of_eq rfl) d9_140 (by decide) (by decide) (fun T363 h363 v363 q363 X363 => ?_)
      obtain ⟨rfl, K363, EX363, sg363, FS363, FM363, hs363⟩ := q363
      show Goes p e below _ T363 (mkF m 143 #[.val (.ref ar), .val (.int y), .val (.int 1), .val (.int 2), .val (.ref b347), .val (.long ((((((v353.toInt64) &&& (4294967295 : Int64)) * ((y.toInt64) &&& (4294967295 : Int64))) + ((((((v350.toInt64) &&& (4294967295 : Int64)) * ((y.toInt64) &&& (4294967295 : Int64))) + (0 : Int64)).toUInt64 >>> ((32 : Int32) &&& 0x3f).toInt64.toUInt64).toInt64)).toUInt64 >>> ((32 : Int32) &&& 0x3f).toInt64.toUInt64).toInt64)), .second, .val (.long ((y.toInt64) &&& (4294967295 : Int64))), .second, .val (.int 0), .val (.int (-1)), .val (.long ((((v353.toInt64) &&& (4294967295 : Int64)) * ((y.toInt64) &&& (4294967295 : Int64))) + ((((((v350.toInt64) &&& (4294967295 : Int64)) * ((y.toInt64) &&& (4294967295 : Int64))) + (0 : Int64)).toUInt64 >>> ((32 : Int32) &&& 0x3f).toInt64.toUInt64).toInt64))), .second] [(.ref b357)])
      have sz364 : h.size ≤ b347 := by rw [g_b347]; exact (Keep.refl h []).1
      have kp365 := (Keep.refl h []).ext E347
      have kp366 := kp365.wr W351 (Or.inr sz364)
      have kp367 := kp366.wr W354 (Or.inr sz364)
      have kp368 := kp367.wr W356 (Or.inr sz364)
      have sz369 : h.size ≤ b357 := by rw [g_b357]; exact kp368.1
      have kp370 := kp368.ext E357
      have kp371 := kp370.trans K363 (allS (Or.inr sz369) all0)
      have f372 := (Ia.keep f362 K363 (ninS (Ne.symm ne361) nin0))
      exact g_retA C X363 rfl rfl d9_143 (by decide) (by decide) ⟨b357, b347, sg363, (3 : Int32), rfl, keep_ext kp371, EX363, FS363, FM363, (Ia.toS f372), hs363, (by decide)⟩
    · refine g_aload C X354 d9_111 rfl rfl ?_
      refine g_iconst 1 C X354 d9_113 rfl ?_
      refine g_aload C X354 d9_114 rfl rfl ?_
      refine g_arraylengthI C X354 (Ia.toS V354) d9_116 ?_
      refine g_static (argsL := [(.ref b347), (.int 1), (.int 3)]) (st := []) C X354 (wd hw 99 rfl) (wd hw 100 rfl) (wd hw 101 rfl) (wd hw 102 rfl) (by decide) (pay_of (W' := 0) (rCR l hw X354.ext b347 (1 : Int32) (3 : Int32) (Ia.toS V354) (by decide) (by decide) (by decide)) C.hZ (wd hw 102 rfl) (wd hw 101 rfl) (by decide) (by decide)) pd_2 rfl rfl _ rfl (Nat.le_of_eq rfl) d9_117 (by decide) (by decide) (fun T373 h373 v373 q373 X373 => ?_)
      obtain ⟨b373, rfl, n_b373, g373, E373, V373⟩ := q373
      have f375 := (IaS.other f352 W354 (Nat.ne_of_lt lt348))
      have lt374 : ar < b373 := Nat.lt_of_lt_of_le (IaS.lt f375) g373
      have lt376 : b347 < b373 := Nat.lt_of_lt_of_le (Ia.lt V354) g373
      show Goes p e below _ T373 (mkF m 120 #[.val (.ref ar), .val (.int y), .val (.int 1), .val (.int 2), .val (.ref b347), .val (.long ((((((v353.toInt64) &&& (4294967295 : Int64)) * ((y.toInt64) &&& (4294967295 : Int64))) + ((((((v350.toInt64) &&& (4294967295 : Int64)) * ((y.toInt64) &&& (4294967295 : Int64))) + (0 : Int64)).toUInt64 >>> ((32 : Int32) &&& 0x3f).toInt64.toUInt64).toInt64)).toUInt64 >>> ((32 : Int32) &&& 0x3f).toInt64.toUInt64).toInt64)), .second, .val (.long ((y.toInt64) &&& (4294967295 : Int64))), .second, .val (.int 0), .val (.int (-1)), .val (.long ((((v353.toInt64) &&& (4294967295 : Int64)) * ((y.toInt64) &&& (4294967295 : Int64))) + ((((((v350.toInt64) &&& (4294967295 : Int64)) * ((y.toInt64) &&& (4294967295 : Int64))) + (0 : Int64)).toUInt64 >>> ((32 : Int32) &&& 0x3f).toInt64.toUInt64).toInt64))), .second] [(.ref b373)])
      refine g_astore C X373 d9_120 rfl (l' := #[.val (.ref ar), .val (.int y), .val (.int 1), .val (.int 2), .val (.ref b373), .val (.long ((((((v353.toInt64) &&& (4294967295 : Int64)) * ((y.toInt64) &&& (4294967295 : Int64))) + ((((((v350.toInt64) &&& (4294967295 : Int64)) * ((y.toInt64) &&& (4294967295 : Int64))) + (0 : Int64)).toUInt64 >>> ((32 : Int32) &&& 0x3f).toInt64.toUInt64).toInt64)).toUInt64 >>> ((32 : Int32) &&& 0x3f).toInt64.toUInt64).toInt64)), .second, .val (.long ((y.toInt64) &&& (4294967295 : Int64))), .second, .val (.int 0), .val (.int (-1)), .val (.long ((((v353.toInt64) &&& (4294967295 : Int64)) * ((y.toInt64) &&& (4294967295 : Int64))) + ((((((v350.toInt64) &&& (4294967295 : Int64)) * ((y.toInt64) &&& (4294967295 : Int64))) + (0 : Int64)).toUInt64 >>> ((32 : Int32) &&& 0x3f).toInt64.toUInt64).toInt64))), .second]) rfl ?_
      refine g_goto C X373 d9_122 ?_
      refine g_new C X373 (wd hw 117 rfl) (wd hw 118 rfl) (wd hw 36 rfl) d9_133 (by decide) (by decide) (fun T377 h377 b377 g_b377 n_b377 X377 E377 A377 D377 M377 => ?_)
      have f378 := (IaS.ext f375 E373)
      have lt379 : ar < b377 := by rw [g_b377]; exact IaS.lt f378
      have f380 := (Ia.ext V354 E373)
      have lt381 : b347 < b377 := by rw [g_b377]; exact Ia.lt f380
      have lt382 : b373 < b377 := by rw [g_b377]; exact IaS.lt V373
      have F_signum_b377 : Fld Z h377 b377 "java/math/BigInteger" "signum" "I" (.int 0) := D377 (Or.inr (wd hw 85 rfl)) (ty := .int) (by decide)
      have F_mag_b377 : Fld Z h377 b377 "java/math/BigInteger" "mag" "[I" .null := D377 (Or.inr (wd hw 87 rfl)) (ty := (.array .int)) (by decide)
      refine g_dup C X377 d9_136 rfl ?_
      refine g_aload C X377 d9_137 rfl rfl ?_
      refine g_iloadN C X377 d9_139 rfl ?_
      have f384 := (IaS.ext V373 E377)
      have ne383 := own_neI A377 f384 (wd hw 118 rfl)
      refine g_special (argsL := [(.ref b373), (.int 1)]) (st := [(.ref b377)]) C X377 rfl (wd hw 119 rfl) (wd hw 120 rfl) (wd hw 122 rfl) (by decide) (pay_of (W' := 1) (rBA l hw X377.ext b377 b373 ((3 : Int32) - (1 : Int32)) A377 F_signum_b377 F_mag_b377 n_b377 f384 (by decide)) C.hZ (wd hw 122 rfl) (wd hw 36 rfl) (by decide) (by decide)) pd_6 rfl rfl _ rfl (Nat.le_of_eq rfl) d9_140 (by decide) (by decide) (fun T385 h385 v385 q385 X385 => ?_)
      obtain ⟨rfl, K385, EX385, sg385, FS385, FM385, hs385⟩ := q385
      show Goes p e below _ T385 (mkF m 143 #[.val (.ref ar), .val (.int y), .val (.int 1), .val (.int 2), .val (.ref b373), .val (.long ((((((v353.toInt64) &&& (4294967295 : Int64)) * ((y.toInt64) &&& (4294967295 : Int64))) + ((((((v350.toInt64) &&& (4294967295 : Int64)) * ((y.toInt64) &&& (4294967295 : Int64))) + (0 : Int64)).toUInt64 >>> ((32 : Int32) &&& 0x3f).toInt64.toUInt64).toInt64)).toUInt64 >>> ((32 : Int32) &&& 0x3f).toInt64.toUInt64).toInt64)), .second, .val (.long ((y.toInt64) &&& (4294967295 : Int64))), .second, .val (.int 0), .val (.int (-1)), .val (.long ((((v353.toInt64) &&& (4294967295 : Int64)) * ((y.toInt64) &&& (4294967295 : Int64))) + ((((((v350.toInt64) &&& (4294967295 : Int64)) * ((y.toInt64) &&& (4294967295 : Int64))) + (0 : Int64)).toUInt64 >>> ((32 : Int32) &&& 0x3f).toInt64.toUInt64).toInt64))), .second] [(.ref b377)])
      have sz386 : h.size ≤ b347 := by rw [g_b347]; exact (Keep.refl h []).1
      have kp387 := (Keep.refl h []).ext E347
      have kp388 := kp387.wr W351 (Or.inr sz386)
      have kp389 := kp388.wr W354 (Or.inr sz386)
      have sz390 : h.size ≤ b373 := Nat.le_trans kp389.1 g373
      have kp391 := kp389.ext E373
      have sz392 : h.size ≤ b377 := by rw [g_b377]; exact kp391.1
      have kp393 := kp391.ext E377
      have kp394 := kp393.trans K385 (allS (Or.inr sz392) all0)
      have f395 := (IaS.keep f384 K385 (ninS (Ne.symm ne383) nin0))
      exact g_retA C X385 rfl rfl d9_143 (by decide) (by decide) ⟨b377, b373, sg385, ((3 : Int32) - (1 : Int32)), rfl, keep_ext kp394, EX385, FS385, FM385, f395, hs385, (by decide)⟩
  · refine g_new C X345 (wd hw 117 rfl) (wd hw 118 rfl) (wd hw 36 rfl) d9_8 (by decide) (by decide) (fun T396 h396 b396 g_b396 n_b396 X396 E396 A396 D396 M396 => ?_)
    have lt397 : ar < b396 := by rw [g_b396]; exact IaS.lt VA
    have F_signum_b396 : Fld Z h396 b396 "java/math/BigInteger" "signum" "I" (.int 0) := D396 (Or.inr (wd hw 85 rfl)) (ty := .int) (by decide)
    have F_mag_b396 : Fld Z h396 b396 "java/math/BigInteger" "mag" "[I" .null := D396 (Or.inr (wd hw 87 rfl)) (ty := (.array .int)) (by decide)
    refine g_dup C X396 d9_11 rfl ?_
    refine g_aloadN C X396 d9_12 rfl rfl ?_
    refine g_iloadN C X396 d9_13 rfl ?_
    refine g_static (argsL := [(.int y)]) (st := [(.ref ar), (.ref b396), (.ref b396)]) C X396 (wd hw 170 rfl) (wd hw 171 rfl) (wd hw 23 rfl) (wd hw 172 rfl) (by decide) (pay_of (W' := 3) (rNZ l hw X396.ext y) C.hZ (wd hw 172 rfl) (wd hw 23 rfl) (by decide) (by decide)) pd_11 rfl rfl _ rfl (Nat.le_of_eq rfl) d9_14 (by decide) (by decide) (fun T398 h398 v398 q398 X398 => ?_)
    obtain ⟨nz398, rfl, hh398, na398, nb398⟩ := q398
    obtain rfl := hh398.symm
    show Goes p e below _ T398 (mkF m 17 #[.val (.ref ar), .val (.int y), .val (.int 1), .unset, .unset, .unset, .unset, .unset, .unset, .unset, .unset, .unset, .unset] [(.int nz398), (.ref ar), (.ref b396), (.ref b396)])
    have f399 := (IaS.ext VA E396)
    refine g_static (argsL := [(.ref ar), (.int nz398)]) (st := [(.ref b396), (.ref b396)]) C X398 (wd hw 173 rfl) (wd hw 174 rfl) (wd hw 36 rfl) (wd hw 175 rfl) (by decide) (pay_of (W' := 2) (rSL2 l hw X398.ext ar nz398 f399 na398 nb398) C.hZ (wd hw 175 rfl) (wd hw 36 rfl) (by decide) (by decide)) pd_12 rfl rfl _ rfl (Nat.le_of_eq rfl) d9_17 (by decide) (by decide) (fun T400 h400 v400 q400 X400 => ?_)
    obtain ⟨b400, nn400, rfl, E400, V400, nc400, nd400⟩ := q400
    show Goes p e below _ T400 (mkF m 20 #[.val (.ref ar), .val (.int y), .val (.int 1), .unset, .unset, .unset, .unset, .unset, .unset, .unset, .unset, .unset, .unset] [(.ref b400), (.ref b396), (.ref b396)])
    refine g_iloadN C X400 d9_20 rfl ?_
    have f402 := (Exa.ext E400 A396)
    have ne401 := own_neI f402 V400 (wd hw 118 rfl)
    have f403 := (Fld.ext E400 F_signum_b396)
    have f404 := (Fld.ext E400 F_mag_b396)
    refine g_special (argsL := [(.ref b400), (.int 1)]) (st := [(.ref b396)]) C X400 rfl (wd hw 119 rfl) (wd hw 120 rfl) (wd hw 122 rfl) (by decide) (pay_of (W' := 1) (rBA l hw X400.ext b396 b400 nn400 f402 f403 f404 n_b396 V400 (by omega)) C.hZ (wd hw 122 rfl) (wd hw 36 rfl) (by decide) (by decide)) pd_6 rfl rfl _ rfl (Nat.le_of_eq rfl) d9_21 (by decide) (by decide) (fun T405 h405 v405 q405 X405 => ?_)
    obtain ⟨rfl, K405, EX405, sg405, FS405, FM405, hs405⟩ := q405
    show Goes p e below _ T405 (mkF m 24 #[.val (.ref ar), .val (.int y), .val (.int 1), .unset, .unset, .unset, .unset, .unset, .unset, .unset, .unset, .unset, .unset] [(.ref b396)])
    have sz406 : h.size ≤ b396 := by rw [g_b396]; exact (Keep.refl h []).1
    have kp407 := (Keep.refl h []).ext E396
    have kp408 := kp407.ext E400
    have kp409 := kp408.trans K405 (allS (Or.inr sz406) all0)
    have f410 := (IaS.keep V400 K405 (ninS (Ne.symm ne401) nin0))
    exact g_retA C X405 rfl rfl d9_24 (by decide) (by decide) ⟨b396, b400, sg405, nn400, rfl, keep_ext kp409, EX405, FS405, FM405, f410, hs405, (by omega)⟩
theorem ef_rM11 (m : MethodId) (xx : Addr) (yy : Addr) : entryFrame m #[(.ref xx), (.ref yy), (.int 0), (.int 0), (.int 0)] 9 = mkF m 0 #[.val (.ref xx), .val (.ref yy), .val (.int 0), .val (.int 0), .val (.int 0), .unset, .unset, .unset, .unset] [] := by first | (simp [entryFrame, mkF, argsToLocals, Value.category]; done) | rfl
theorem d8_0 : Dc jdk_2097_method_42_code 0 (.aload_n 1) 1 1 := ⟨by decide +kernel, rfl⟩
theorem d8_1 : Dc jdk_2097_method_42_code 1 (.getfield 32) 3 4 := ⟨by decide +kernel, rfl⟩
theorem d8_4 : Dj jdk_2097_method_42_code 4 (.ifCond .eq 10) 10 3 7 14 := ⟨by decide +kernel, rfl, by decide, by decide⟩
theorem d8_7 : Dc jdk_2097_method_42_code 7 (.aload_n 0) 1 8 := ⟨by decide +kernel, rfl⟩
theorem d8_8 : Dc jdk_2097_method_42_code 8 (.getfield 32) 3 11 := ⟨by decide +kernel, rfl⟩
theorem d8_11 : Dj jdk_2097_method_42_code 11 (.ifCond .ne 7) 7 3 14 18 := ⟨by decide +kernel, rfl, by decide, by decide⟩
theorem d8_18 : Dc jdk_2097_method_42_code 18 (.aload_n 0) 1 19 := ⟨by decide +kernel, rfl⟩
theorem d8_19 : Dc jdk_2097_method_42_code 19 (.getfield 28) 3 22 := ⟨by decide +kernel, rfl⟩
theorem d8_22 : Dc jdk_2097_method_42_code 22 (.arraylength) 1 23 := ⟨by decide +kernel, rfl⟩
theorem d8_23 : Dc jdk_2097_method_42_code 23 (.istore 5) 2 25 := ⟨by decide +kernel, rfl⟩
theorem d8_25 : Dc jdk_2097_method_42_code 25 (.aload_n 1) 1 26 := ⟨by decide +kernel, rfl⟩
theorem d8_26 : Dc jdk_2097_method_42_code 26 (.aload_n 0) 1 27 := ⟨by decide +kernel, rfl⟩
theorem d8_27 : Dj jdk_2097_method_42_code 27 (.if_acmp .ne 19) 19 3 30 46 := ⟨by decide +kernel, rfl, by decide, by decide⟩
theorem d8_46 : Dc jdk_2097_method_42_code 46 (.aload_n 1) 1 47 := ⟨by decide +kernel, rfl⟩
theorem d8_47 : Dc jdk_2097_method_42_code 47 (.getfield 28) 3 50 := ⟨by decide +kernel, rfl⟩
theorem d8_50 : Dc jdk_2097_method_42_code 50 (.arraylength) 1 51 := ⟨by decide +kernel, rfl⟩
theorem d8_51 : Dc jdk_2097_method_42_code 51 (.istore 6) 2 53 := ⟨by decide +kernel, rfl⟩
theorem d8_53 : Dc jdk_2097_method_42_code 53 (.iload 5) 2 55 := ⟨by decide +kernel, rfl⟩
theorem d8_55 : Dc jdk_2097_method_42_code 55 (.bipush 80) 2 57 := ⟨by decide +kernel, rfl⟩
theorem d8_57 : Dj jdk_2097_method_42_code 57 (.if_icmp .lt 10) 10 3 60 67 := ⟨by decide +kernel, rfl, by decide, by decide⟩
theorem d8_67 : Dc jdk_2097_method_42_code 67 (.aload_n 0) 1 68 := ⟨by decide +kernel, rfl⟩
theorem d8_68 : Dc jdk_2097_method_42_code 68 (.getfield 32) 3 71 := ⟨by decide +kernel, rfl⟩
theorem d8_71 : Dc jdk_2097_method_42_code 71 (.aload_n 1) 1 72 := ⟨by decide +kernel, rfl⟩
theorem d8_72 : Dc jdk_2097_method_42_code 72 (.getfield 32) 3 75 := ⟨by decide +kernel, rfl⟩
theorem d8_75 : Dj jdk_2097_method_42_code 75 (.if_icmp .ne 7) 7 3 78 82 := ⟨by decide +kernel, rfl, by decide, by decide⟩
theorem d8_78 : Dc jdk_2097_method_42_code 78 (.iconst 1) 1 79 := ⟨by decide +kernel, rfl⟩
theorem d8_79 : Dj jdk_2097_method_42_code 79 (.goto 4) 4 3 82 83 := ⟨by decide +kernel, rfl, by decide, by decide⟩
theorem d8_83 : Dc jdk_2097_method_42_code 83 (.istore 7) 2 85 := ⟨by decide +kernel, rfl⟩
theorem d8_85 : Dc jdk_2097_method_42_code 85 (.aload_n 1) 1 86 := ⟨by decide +kernel, rfl⟩
theorem d8_86 : Dc jdk_2097_method_42_code 86 (.getfield 28) 3 89 := ⟨by decide +kernel, rfl⟩
theorem d8_89 : Dc jdk_2097_method_42_code 89 (.arraylength) 1 90 := ⟨by decide +kernel, rfl⟩
theorem d8_90 : Dc jdk_2097_method_42_code 90 (.iconst 1) 1 91 := ⟨by decide +kernel, rfl⟩
theorem d8_91 : Dj jdk_2097_method_42_code 91 (.if_icmp .ne 19) 19 3 94 110 := ⟨by decide +kernel, rfl, by decide, by decide⟩
theorem d8_94 : Dc jdk_2097_method_42_code 94 (.aload_n 0) 1 95 := ⟨by decide +kernel, rfl⟩
theorem d8_95 : Dc jdk_2097_method_42_code 95 (.getfield 28) 3 98 := ⟨by decide +kernel, rfl⟩
theorem d8_98 : Dc jdk_2097_method_42_code 98 (.aload_n 1) 1 99 := ⟨by decide +kernel, rfl⟩
theorem d8_99 : Dc jdk_2097_method_42_code 99 (.getfield 28) 3 102 := ⟨by decide +kernel, rfl⟩
theorem d8_102 : Dc jdk_2097_method_42_code 102 (.iconst 0) 1 103 := ⟨by decide +kernel, rfl⟩
theorem d8_103 : Dc jdk_2097_method_42_code 103 (.iaload) 1 104 := ⟨by decide +kernel, rfl⟩
theorem d8_104 : Dc jdk_2097_method_42_code 104 (.iload 7) 2 106 := ⟨by decide +kernel, rfl⟩
theorem d8_106 : Dc jdk_2097_method_42_code 106 (.invokestatic 403) 3 109 := ⟨by decide +kernel, rfl⟩
theorem pd_13 : parseMethodDescriptor "([III)Ljava/math/BigInteger;" = some ⟨[(.array .int), .int, .int], some (.object "java/math/BigInteger")⟩ := by decide +kernel
theorem d8_109 : Dc jdk_2097_method_42_code 109 (.areturn) 1 110 := ⟨by decide +kernel, rfl⟩
theorem d8_30 : Dc jdk_2097_method_42_code 30 (.iload 5) 2 32 := ⟨by decide +kernel, rfl⟩
theorem d8_32 : Dc jdk_2097_method_42_code 32 (.bipush 20) 2 34 := ⟨by decide +kernel, rfl⟩
theorem d8_34 : Dj jdk_2097_method_42_code 34 (.if_icmp .le 12) 12 3 37 46 := ⟨by decide +kernel, rfl, by decide, by decide⟩
theorem rM11 (l : Launch) {Z : State} {a0 : Array Value} (hw : ∀ d ∈ tables_1, d.before a0 Z = true) {h : Heap} (hE : Ext Z.heap h) (xx : Addr) (yy : Addr) (mx my : Addr) (Ex : Exa Z h xx "java/math/BigInteger") (Sx : Fld Z h xx "java/math/BigInteger" "signum" "I" (.int (1 : Int32))) (Mx : Fld Z h xx "java/math/BigInteger" "mag" "[I" (.ref mx)) (Vx : IaS Z h mx 1) (Ey : Exa Z h yy "java/math/BigInteger") (Sy : Fld Z h yy "java/math/BigInteger" "signum" "I" (.int (1 : Int32))) (My : Fld Z h yy "java/math/BigInteger" "mag" "[I" (.ref my)) (Vy : IaS Z h my 1) :
    Con l (⟨"java/math/BigInteger", "multiply", "(Ljava/math/BigInteger;ZZI)Ljava/math/BigInteger;"⟩ : MethodName) jdk_2097_method_42_code 9 (some (.object "java/math/BigInteger")) [] ({ frames := 5, cells := 3, slots := 40, locals := 120 } : Room) Z #[(.ref xx), (.ref yy), (.int 0), (.int 0), (.int 0)] h (fun v' h' => ∃ (x mg : Addr) (sg nn : Int32), v' = some (.ref x) ∧ Ext h h' ∧ Exa Z h' x "java/math/BigInteger" ∧ Fld Z h' x "java/math/BigInteger" "signum" "I" (.int sg) ∧ Fld Z h' x "java/math/BigInteger" "mag" "[I" (.ref mg) ∧ IaS Z h' mg nn ∧ (sg = 0 ∨ (sg = 1 ∧ 1 ≤ nn.toInt)) ∧ nn.toInt ≤ 5) := by
  refine con_of (plainFor_of_name pn_3) hE (fun m => ef_rM11 m xx yy) ?_
  intro p e s m below meth c T0 C X0
  have C : Cx p s m meth c Z "java/math/BigInteger" "multiply" jdk_2097_method_42_code 9 (some (.object "java/math/BigInteger")) := C
  show Goes p e below _ T0 (mkF m 0 #[.val (.ref xx), .val (.ref yy), .val (.int 0), .val (.int 0), .val (.int 0), .unset, .unset, .unset, .unset] [])
  refine g_aloadN C X0 d8_0 rfl rfl ?_
  refine g_getfield (host := "") C X0 (Or.inl (wd hw 84 rfl)) Via.refl Sy d8_1 (fun T411 X411 => ?_)
  refine g_if (h0_eq _) C X411 d8_4 (fun q => absurd q (by decide)) (fun _ => ?_)
  refine g_aloadN C X411 d8_7 rfl rfl ?_
  refine g_getfield (host := "") C X411 (Or.inl (wd hw 84 rfl)) Via.refl Sx d8_8 (fun T412 X412 => ?_)
  refine g_ifn (h0_ne _) C X412 d8_11 (fun _ => ?_) (fun q => absurd q (by decide))
  refine g_aloadN C X412 d8_18 rfl rfl ?_
  refine g_getfield (host := "") C X412 (Or.inl (wd hw 86 rfl)) Via.refl Mx d8_19 (fun T413 X413 => ?_)
  refine g_arraylengthI C X413 Vx d8_22 ?_
  refine g_istore C X413 d8_23 (l' := #[.val (.ref xx), .val (.ref yy), .val (.int 0), .val (.int 0), .val (.int 0), .val (.int 1), .unset, .unset, .unset]) rfl ?_
  refine g_aloadN C X413 d8_25 rfl rfl ?_
  refine g_aloadN C X413 d8_26 rfl rfl ?_
  refine g_acmpne C X413 d8_27 rfl rfl (fun c27_414 => ?_) (fun c27_414 => ?_)
  · refine g_aloadN C X413 d8_46 rfl rfl ?_
    refine g_getfield (host := "") C X413 (Or.inl (wd hw 86 rfl)) Via.refl My d8_47 (fun T415 X415 => ?_)
    refine g_arraylengthI C X415 Vy d8_50 ?_
    refine g_istore C X415 d8_51 (l' := #[.val (.ref xx), .val (.ref yy), .val (.int 0), .val (.int 0), .val (.int 0), .val (.int 1), .val (.int 1), .unset, .unset]) rfl ?_
    refine g_iload C X415 d8_53 rfl ?_
    refine g_bipush 80 C X415 d8_55 rfl ?_
    refine g_icmp (hI_lt _ _) C X415 d8_57 (fun _ => ?_) (fun q => absurd (by decide) q)
    refine g_aloadN C X415 d8_67 rfl rfl ?_
    refine g_getfield (host := "") C X415 (Or.inl (wd hw 84 rfl)) Via.refl Sx d8_68 (fun T416 X416 => ?_)
    refine g_aloadN C X416 d8_71 rfl rfl ?_
    refine g_getfield (host := "") C X416 (Or.inl (wd hw 84 rfl)) Via.refl Sy d8_72 (fun T417 X417 => ?_)
    refine g_icmpn (hI_ne _ _) C X417 d8_75 (fun q => absurd (by decide) q) (fun _ => ?_)
    refine g_iconst 1 C X417 d8_78 rfl ?_
    refine g_goto C X417 d8_79 ?_
    refine g_istore C X417 d8_83 (l' := #[.val (.ref xx), .val (.ref yy), .val (.int 0), .val (.int 0), .val (.int 0), .val (.int 1), .val (.int 1), .val (.int 1), .unset]) rfl ?_
    refine g_aloadN C X417 d8_85 rfl rfl ?_
    refine g_getfield (host := "") C X417 (Or.inl (wd hw 86 rfl)) Via.refl My d8_86 (fun T418 X418 => ?_)
    refine g_arraylengthI C X418 Vy d8_89 ?_
    refine g_iconst 1 C X418 d8_90 rfl ?_
    refine g_icmpn (hI_ne _ _) C X418 d8_91 (fun q => absurd (by decide) q) (fun _ => ?_)
    refine g_aloadN C X418 d8_94 rfl rfl ?_
    refine g_getfield (host := "") C X418 (Or.inl (wd hw 86 rfl)) Via.refl Mx d8_95 (fun T419 X419 => ?_)
    refine g_aloadN C X419 d8_98 rfl rfl ?_
    refine g_getfield (host := "") C X419 (Or.inl (wd hw 86 rfl)) Via.refl My d8_99 (fun T420 X420 => ?_)
    refine g_iconst 0 C X420 d8_102 rfl ?_
    refine g_ialoadI C X420 Vy d8_103 (by decide) (by decide) (fun v421 => ?_)
    refine g_iload C X420 d8_104 rfl ?_
    refine g_static (argsL := [(.ref mx), (.int v421), (.int 1)]) (st := []) C X420 (wd hw 88 rfl) (wd hw 89 rfl) (wd hw 36 rfl) (wd hw 90 rfl) (by decide) (pay_of (W' := 0) (rMB1 l hw X420.ext mx v421 Vx) C.hZ (wd hw 90 rfl) (wd hw 36 rfl) (by decide) (by decide)) pd_13 rfl rfl _ rfl (Nat.le_of_eq rfl) d8_106 (by decide) (by decide) (fun T422 h422 v422 q422 X422 => ?_)
    obtain ⟨x422, mg422, sg422, nn422, rfl, E422, EX422, FS422, FM422, VM422, hs422, hb422⟩ := q422
    show Goes p e below _ T422 (mkF m 109 #[.val (.ref xx), .val (.ref yy), .val (.int 0), .val (.int 0), .val (.int 0), .val (.int 1), .val (.int 1), .val (.int 1), .unset] [(.ref x422)])
    have kp423 := (Keep.refl h []).ext E422
    exact g_retA C X422 rfl rfl d8_109 (by decide) (by decide) ⟨x422, mg422, sg422, nn422, rfl, keep_ext kp423, EX422, FS422, FM422, VM422, hs422, hb422⟩
  · refine g_iload C X413 d8_30 rfl ?_
    refine g_bipush 20 C X413 d8_32 rfl ?_
    refine g_icmpn (hI_le _ _) C X413 d8_34 (fun _ => ?_) (fun q => absurd q (by decide))
    refine g_aloadN C X413 d8_46 rfl rfl ?_
    refine g_getfield (host := "") C X413 (Or.inl (wd hw 86 rfl)) Via.refl My d8_47 (fun T424 X424 => ?_)
    refine g_arraylengthI C X424 Vy d8_50 ?_
    refine g_istore C X424 d8_51 (l' := #[.val (.ref xx), .val (.ref yy), .val (.int 0), .val (.int 0), .val (.int 0), .val (.int 1), .val (.int 1), .unset, .unset]) rfl ?_
    refine g_iload C X424 d8_53 rfl ?_
    refine g_bipush 80 C X424 d8_55 rfl ?_
    refine g_icmp (hI_lt _ _) C X424 d8_57 (fun _ => ?_) (fun q => absurd (by decide) q)
    refine g_aloadN C X424 d8_67 rfl rfl ?_
    refine g_getfield (host := "") C X424 (Or.inl (wd hw 84 rfl)) Via.refl Sx d8_68 (fun T425 X425 => ?_)
    refine g_aloadN C X425 d8_71 rfl rfl ?_
    refine g_getfield (host := "") C X425 (Or.inl (wd hw 84 rfl)) Via.refl Sy d8_72 (fun T426 X426 => ?_)
    refine g_icmpn (hI_ne _ _) C X426 d8_75 (fun q => absurd (by decide) q) (fun _ => ?_)
    refine g_iconst 1 C X426 d8_78 rfl ?_
    refine g_goto C X426 d8_79 ?_
    refine g_istore C X426 d8_83 (l' := #[.val (.ref xx), .val (.ref yy), .val (.int 0), .val (.int 0), .val (.int 0), .val (.int 1), .val (.int 1), .val (.int 1), .unset]) rfl ?_
    refine g_aloadN C X426 d8_85 rfl rfl ?_
    refine g_getfield (host := "") C X426 (Or.inl (wd hw 86 rfl)) Via.refl My d8_86 (fun T427 X427 => ?_)
    refine g_arraylengthI C X427 Vy d8_89 ?_
    refine g_iconst 1 C X427 d8_90 rfl ?_
    refine g_icmpn (hI_ne _ _) C X427 d8_91 (fun q => absurd (by decide) q) (fun _ => ?_)
    refine g_aloadN C X427 d8_94 rfl rfl ?_
    refine g_getfield (host := "") C X427 (Or.inl (wd hw 86 rfl)) Via.refl Mx d8_95 (fun T428 X428 => ?_)
    refine g_aloadN C X428 d8_98 rfl rfl ?_
    refine g_getfield (host := "") C X428 (Or.inl (wd hw 86 rfl)) Via.refl My d8_99 (fun T429 X429 => ?_)
    refine g_iconst 0 C X429 d8_102 rfl ?_
    refine g_ialoadI C X429 Vy d8_103 (by decide) (by decide) (fun v430 => ?_)
    refine g_iload C X429 d8_104 rfl ?_
    refine g_static (argsL := [(.ref mx), (.int v430), (.int 1)]) (st := []) C X429 (wd hw 88 rfl) (wd hw 89 rfl) (wd hw 36 rfl) (wd hw 90 rfl) (by decide) (pay_of (W' := 0) (rMB1 l hw X429.ext mx v430 Vx) C.hZ (wd hw 90 rfl) (wd hw 36 rfl) (by decide) (by decide)) pd_13 rfl rfl _ rfl (Nat.le_of_eq rfl) d8_106 (by decide) (by decide) (fun T431 h431 v431 q431 X431 => ?_)
    obtain ⟨x431, mg431, sg431, nn431, rfl, E431, EX431, FS431, FM431, VM431, hs431, hb431⟩ := q431
    show Goes p e below _ T431 (mkF m 109 #[.val (.ref xx), .val (.ref yy), .val (.int 0), .val (.int 0), .val (.int 0), .val (.int 1), .val (.int 1), .val (.int 1), .unset] [(.ref x431)])
    have kp432 := (Keep.refl h []).ext E431
    exact g_retA C X431 rfl rfl d8_109 (by decide) (by decide) ⟨x431, mg431, sg431, nn431, rfl, keep_ext kp432, EX431, FS431, FM431, VM431, hs431, hb431⟩
theorem ef_rM12 (m : MethodId) (xx : Addr) (yy : Addr) : entryFrame m #[(.ref xx), (.ref yy), (.int 0), (.int 0), (.int 0)] 9 = mkF m 0 #[.val (.ref xx), .val (.ref yy), .val (.int 0), .val (.int 0), .val (.int 0), .unset, .unset, .unset, .unset] [] := by first | (simp [entryFrame, mkF, argsToLocals, Value.category]; done) | rfl
theorem d8_110 : Dc jdk_2097_method_42_code 110 (.aload_n 0) 1 111 := ⟨by decide +kernel, rfl⟩
theorem d8_111 : Dc jdk_2097_method_42_code 111 (.getfield 28) 3 114 := ⟨by decide +kernel, rfl⟩
theorem d8_114 : Dc jdk_2097_method_42_code 114 (.arraylength) 1 115 := ⟨by decide +kernel, rfl⟩
theorem d8_115 : Dc jdk_2097_method_42_code 115 (.iconst 1) 1 116 := ⟨by decide +kernel, rfl⟩
theorem d8_116 : Dj jdk_2097_method_42_code 116 (.if_icmp .ne 19) 19 3 119 135 := ⟨by decide +kernel, rfl, by decide, by decide⟩
theorem d8_119 : Dc jdk_2097_method_42_code 119 (.aload_n 1) 1 120 := ⟨by decide +kernel, rfl⟩
theorem d8_120 : Dc jdk_2097_method_42_code 120 (.getfield 28) 3 123 := ⟨by decide +kernel, rfl⟩
theorem d8_123 : Dc jdk_2097_method_42_code 123 (.aload_n 0) 1 124 := ⟨by decide +kernel, rfl⟩
theorem d8_124 : Dc jdk_2097_method_42_code 124 (.getfield 28) 3 127 := ⟨by decide +kernel, rfl⟩
theorem d8_127 : Dc jdk_2097_method_42_code 127 (.iconst 0) 1 128 := ⟨by decide +kernel, rfl⟩
theorem d8_128 : Dc jdk_2097_method_42_code 128 (.iaload) 1 129 := ⟨by decide +kernel, rfl⟩
theorem d8_129 : Dc jdk_2097_method_42_code 129 (.iload 7) 2 131 := ⟨by decide +kernel, rfl⟩
theorem d8_131 : Dc jdk_2097_method_42_code 131 (.invokestatic 403) 3 134 := ⟨by decide +kernel, rfl⟩
theorem d8_134 : Dc jdk_2097_method_42_code 134 (.areturn) 1 135 := ⟨by decide +kernel, rfl⟩
theorem rM12 (l : Launch) {Z : State} {a0 : Array Value} (hw : ∀ d ∈ tables_1, d.before a0 Z = true) {h : Heap} (hE : Ext Z.heap h) (xx : Addr) (yy : Addr) (mx my : Addr) (Ex : Exa Z h xx "java/math/BigInteger") (Sx : Fld Z h xx "java/math/BigInteger" "signum" "I" (.int (1 : Int32))) (Mx : Fld Z h xx "java/math/BigInteger" "mag" "[I" (.ref mx)) (Vx : IaS Z h mx 1) (Ey : Exa Z h yy "java/math/BigInteger") (Sy : Fld Z h yy "java/math/BigInteger" "signum" "I" (.int (1 : Int32))) (My : Fld Z h yy "java/math/BigInteger" "mag" "[I" (.ref my)) (Vy : IaS Z h my 2) :
    Con l (⟨"java/math/BigInteger", "multiply", "(Ljava/math/BigInteger;ZZI)Ljava/math/BigInteger;"⟩ : MethodName) jdk_2097_method_42_code 9 (some (.object "java/math/BigInteger")) [] ({ frames := 5, cells := 3, slots := 40, locals := 120 } : Room) Z #[(.ref xx), (.ref yy), (.int 0), (.int 0), (.int 0)] h (fun v' h' => ∃ (x mg : Addr) (sg nn : Int32), v' = some (.ref x) ∧ Ext h h' ∧ Exa Z h' x "java/math/BigInteger" ∧ Fld Z h' x "java/math/BigInteger" "signum" "I" (.int sg) ∧ Fld Z h' x "java/math/BigInteger" "mag" "[I" (.ref mg) ∧ IaS Z h' mg nn ∧ (sg = 0 ∨ (sg = 1 ∧ 1 ≤ nn.toInt)) ∧ nn.toInt ≤ 5) := by
  refine con_of (plainFor_of_name pn_3) hE (fun m => ef_rM12 m xx yy) ?_
  intro p e s m below meth c T0 C X0
  have C : Cx p s m meth c Z "java/math/BigInteger" "multiply" jdk_2097_method_42_code 9 (some (.object "java/math/BigInteger")) := C
  show Goes p e below _ T0 (mkF m 0 #[.val (.ref xx), .val (.ref yy), .val (.int 0), .val (.int 0), .val (.int 0), .unset, .unset, .unset, .unset] [])
  refine g_aloadN C X0 d8_0 rfl rfl ?_
  refine g_getfield (host := "") C X0 (Or.inl (wd hw 84 rfl)) Via.refl Sy d8_1 (fun T433 X433 => ?_)
  refine g_if (h0_eq _) C X433 d8_4 (fun q => absurd q (by decide)) (fun _ => ?_)
  refine g_aloadN C X433 d8_7 rfl rfl ?_
  refine g_getfield (host := "") C X433 (Or.inl (wd hw 84 rfl)) Via.refl Sx d8_8 (fun T434 X434 => ?_)
  refine g_ifn (h0_ne _) C X434 d8_11 (fun _ => ?_) (fun q => absurd q (by decide))
  refine g_aloadN C X434 d8_18 rfl rfl ?_
  refine g_getfield (host := "") C X434 (Or.inl (wd hw 86 rfl)) Via.refl Mx d8_19 (fun T435 X435 => ?_)
  refine g_arraylengthI C X435 Vx d8_22 ?_
  refine g_istore C X435 d8_23 (l' := #[.val (.ref xx), .val (.ref yy), .val (.int 0), .val (.int 0), .val (.int 0), .val (.int 1), .unset, .unset, .unset]) rfl ?_
  refine g_aloadN C X435 d8_25 rfl rfl ?_
  refine g_aloadN C X435 d8_26 rfl rfl ?_
  refine g_acmpne C X435 d8_27 rfl rfl (fun c27_436 => ?_) (fun c27_436 => ?_)
  · refine g_aloadN C X435 d8_46 rfl rfl ?_
    refine g_getfield (host := "") C X435 (Or.inl (wd hw 86 rfl)) Via.refl My d8_47 (fun T437 X437 => ?_)
    refine g_arraylengthI C X437 Vy d8_50 ?_
    refine g_istore C X437 d8_51 (l' := #[.val (.ref xx), .val (.ref yy), .val (.int 0), .val (.int 0), .val (.int 0), .val (.int 1), .val (.int 2), .unset, .unset]) rfl ?_
    refine g_iload C X437 d8_53 rfl ?_
    refine g_bipush 80 C X437 d8_55 rfl ?_
    refine g_icmp (hI_lt _ _) C X437 d8_57 (fun _ => ?_) (fun q => absurd (by decide) q)
    refine g_aloadN C X437 d8_67 rfl rfl ?_
    refine g_getfield (host := "") C X437 (Or.inl (wd hw 84 rfl)) Via.refl Sx d8_68 (fun T438 X438 => ?_)
    refine g_aloadN C X438 d8_71 rfl rfl ?_
    refine g_getfield (host := "") C X438 (Or.inl (wd hw 84 rfl)) Via.refl Sy d8_72 (fun T439 X439 => ?_)
    refine g_icmpn (hI_ne _ _) C X439 d8_75 (fun q => absurd (by decide) q) (fun _ => ?_)
    refine g_iconst 1 C X439 d8_78 rfl ?_
    refine g_goto C X439 d8_79 ?_
    refine g_istore C X439 d8_83 (l' := #[.val (.ref xx), .val (.ref yy), .val (.int 0), .val (.int 0), .val (.int 0), .val (.int 1), .val (.int 2), .val (.int 1), .unset]) rfl ?_
    refine g_aloadN C X439 d8_85 rfl rfl ?_
    refine g_getfield (host := "") C X439 (Or.inl (wd hw 86 rfl)) Via.refl My d8_86 (fun T440 X440 => ?_)
    refine g_arraylengthI C X440 Vy d8_89 ?_
    refine g_iconst 1 C X440 d8_90 rfl ?_
    refine g_icmpn (hI_ne _ _) C X440 d8_91 (fun _ => ?_) (fun q => absurd q (by decide))
    refine g_aloadN C X440 d8_110 rfl rfl ?_
    refine g_getfield (host := "") C X440 (Or.inl (wd hw 86 rfl)) Via.refl Mx d8_111 (fun T441 X441 => ?_)
    refine g_arraylengthI C X441 Vx d8_114 ?_
    refine g_iconst 1 C X441 d8_115 rfl ?_
    refine g_icmpn (hI_ne _ _) C X441 d8_116 (fun q => absurd (by decide) q) (fun _ => ?_)
    refine g_aloadN C X441 d8_119 rfl rfl ?_
    refine g_getfield (host := "") C X441 (Or.inl (wd hw 86 rfl)) Via.refl My d8_120 (fun T442 X442 => ?_)
    refine g_aloadN C X442 d8_123 rfl rfl ?_
    refine g_getfield (host := "") C X442 (Or.inl (wd hw 86 rfl)) Via.refl Mx d8_124 (fun T443 X443 => ?_)
    refine g_iconst 0 C X443 d8_127 rfl ?_
    refine g_ialoadI C X443 Vx d8_128 (by decide) (by decide) (fun v444 => ?_)
    refine g_iload C X443 d8_129 rfl ?_
    refine g_static (argsL := [(.ref my), (.int v444), (.int 1)]) (st := []) C X443 (wd hw 88 rfl) (wd hw 89 rfl) (wd hw 36 rfl) (wd hw 90 rfl) (by decide) (pay_of (W' := 0) (rMB2 l hw X443.ext my v444 Vy) C.hZ (wd hw 90 rfl) (wd hw 36 rfl) (by decide) (by decide)) pd_13 rfl rfl _ rfl (Nat.le_of_eq rfl) d8_131 (by decide) (by decide) (fun T445 h445 v445 q445 X445 => ?_)
    obtain ⟨x445, mg445, sg445, nn445, rfl, E445, EX445, FS445, FM445, VM445, hs445, hb445⟩ := q445
    show Goes p e below _ T445 (mkF m 134 #[.val (.ref xx), .val (.ref yy), .val (.int 0), .val (.int 0), .val (.int 0), .val (.int 1), .val (.int 2), .val (.int 1), .unset] [(.ref x445)])
    have kp446 := (Keep.refl h []).ext E445
    exact g_retA C X445 rfl rfl d8_134 (by decide) (by decide) ⟨x445, mg445, sg445, nn445, rfl, keep_ext kp446, EX445, FS445, FM445, VM445, hs445, hb445⟩
  · refine g_iload C X435 d8_30 rfl ?_
    refine g_bipush 20 C X435 d8_32 rfl ?_
    refine g_icmpn (hI_le _ _) C X435 d8_34 (fun _ => ?_) (fun q => absurd q (by decide))
    refine g_aloadN C X435 d8_46 rfl rfl ?_
    refine g_getfield (host := "") C X435 (Or.inl (wd hw 86 rfl)) Via.refl My d8_47 (fun T447 X447 => ?_)
    refine g_arraylengthI C X447 Vy d8_50 ?_
    refine g_istore C X447 d8_51 (l' := #[.val (.ref xx), .val (.ref yy), .val (.int 0), .val (.int 0), .val (.int 0), .val (.int 1), .val (.int 2), .unset, .unset]) rfl ?_
    refine g_iload C X447 d8_53 rfl ?_
    refine g_bipush 80 C X447 d8_55 rfl ?_
    refine g_icmp (hI_lt _ _) C X447 d8_57 (fun _ => ?_) (fun q => absurd (by decide) q)
    refine g_aloadN C X447 d8_67 rfl rfl ?_
    refine g_getfield (host := "") C X447 (Or.inl (wd hw 84 rfl)) Via.refl Sx d8_68 (fun T448 X448 => ?_)
    refine g_aloadN C X448 d8_71 rfl rfl ?_
    refine g_getfield (host := "") C X448 (Or.inl (wd hw 84 rfl)) Via.refl Sy d8_72 (fun T449 X449 => ?_)
    refine g_icmpn (hI_ne _ _) C X449 d8_75 (fun q => absurd (by decide) q) (fun _ => ?_)
    refine g_iconst 1 C X449 d8_78 rfl ?_
    refine g_goto C X449 d8_79 ?_
    refine g_istore C X449 d8_83 (l' := #[.val (.ref xx), .val (.ref yy), .val (.int 0), .val (.int 0), .val (.int 0), .val (.int 1), .val (.int 2), .val (.int 1), .unset]) rfl ?_
    refine g_aloadN C X449 d8_85 rfl rfl ?_
    refine g_getfield (host := "") C X449 (Or.inl (wd hw 86 rfl)) Via.refl My d8_86 (fun T450 X450 => ?_)
    refine g_arraylengthI C X450 Vy d8_89 ?_
    refine g_iconst 1 C X450 d8_90 rfl ?_
    refine g_icmpn (hI_ne _ _) C X450 d8_91 (fun _ => ?_) (fun q => absurd q (by decide))
    refine g_aloadN C X450 d8_110 rfl rfl ?_
    refine g_getfield (host := "") C X450 (Or.inl (wd hw 86 rfl)) Via.refl Mx d8_111 (fun T451 X451 => ?_)
    refine g_arraylengthI C X451 Vx d8_114 ?_
    refine g_iconst 1 C X451 d8_115 rfl ?_
    refine g_icmpn (hI_ne _ _) C X451 d8_116 (fun q => absurd (by decide) q) (fun _ => ?_)
    refine g_aloadN C X451 d8_119 rfl rfl ?_
    refine g_getfield (host := "") C X451 (Or.inl (wd hw 86 rfl)) Via.refl My d8_120 (fun T452 X452 => ?_)
    refine g_aloadN C X452 d8_123 rfl rfl ?_
    refine g_getfield (host := "") C X452 (Or.inl (wd hw 86 rfl)) Via.refl Mx d8_124 (fun T453 X453 => ?_)
    refine g_iconst 0 C X453 d8_127 rfl ?_
    refine g_ialoadI C X453 Vx d8_128 (by decide) (by decide) (fun v454 => ?_)
    refine g_iload C X453 d8_129 rfl ?_
    refine g_static (argsL := [(.ref my), (.int v454), (.int 1)]) (st := []) C X453 (wd hw 88 rfl) (wd hw 89 rfl) (wd hw 36 rfl) (wd hw 90 rfl) (by decide) (pay_of (W' := 0) (rMB2 l hw X453.ext my v454 Vy) C.hZ (wd hw 90 rfl) (wd hw 36 rfl) (by decide) (by decide)) pd_13 rfl rfl _ rfl (Nat.le_of_eq rfl) d8_131 (by decide) (by decide) (fun T455 h455 v455 q455 X455 => ?_)
    obtain ⟨x455, mg455, sg455, nn455, rfl, E455, EX455, FS455, FM455, VM455, hs455, hb455⟩ := q455
    show Goes p e below _ T455 (mkF m 134 #[.val (.ref xx), .val (.ref yy), .val (.int 0), .val (.int 0), .val (.int 0), .val (.int 1), .val (.int 2), .val (.int 1), .unset] [(.ref x455)])
    have kp456 := (Keep.refl h []).ext E455
    exact g_retA C X455 rfl rfl d8_134 (by decide) (by decide) ⟨x455, mg455, sg455, nn455, rfl, keep_ext kp456, EX455, FS455, FM455, VM455, hs455, hb455⟩
theorem ef_rM21 (m : MethodId) (xx : Addr) (yy : Addr) : entryFrame m #[(.ref xx), (.ref yy), (.int 0), (.int 0), (.int 0)] 9 = mkF m 0 #[.val (.ref xx), .val (.ref yy), .val (.int 0), .val (.int 0), .val (.int 0), .unset, .unset, .unset, .unset] [] := by first | (simp [entryFrame, mkF, argsToLocals, Value.category]; done) | rfl
theorem rM21 (l : Launch) {Z : State} {a0 : Array Value} (hw : ∀ d ∈ tables_1, d.before a0 Z = true) {h : Heap} (hE : Ext Z.heap h) (xx : Addr) (yy : Addr) (mx my : Addr) (Ex : Exa Z h xx "java/math/BigInteger") (Sx : Fld Z h xx "java/math/BigInteger" "signum" "I" (.int (1 : Int32))) (Mx : Fld Z h xx "java/math/BigInteger" "mag" "[I" (.ref mx)) (Vx : IaS Z h mx 2) (Ey : Exa Z h yy "java/math/BigInteger") (Sy : Fld Z h yy "java/math/BigInteger" "signum" "I" (.int (1 : Int32))) (My : Fld Z h yy "java/math/BigInteger" "mag" "[I" (.ref my)) (Vy : IaS Z h my 1) :
    Con l (⟨"java/math/BigInteger", "multiply", "(Ljava/math/BigInteger;ZZI)Ljava/math/BigInteger;"⟩ : MethodName) jdk_2097_method_42_code 9 (some (.object "java/math/BigInteger")) [] ({ frames := 5, cells := 3, slots := 40, locals := 120 } : Room) Z #[(.ref xx), (.ref yy), (.int 0), (.int 0), (.int 0)] h (fun v' h' => ∃ (x mg : Addr) (sg nn : Int32), v' = some (.ref x) ∧ Ext h h' ∧ Exa Z h' x "java/math/BigInteger" ∧ Fld Z h' x "java/math/BigInteger" "signum" "I" (.int sg) ∧ Fld Z h' x "java/math/BigInteger" "mag" "[I" (.ref mg) ∧ IaS Z h' mg nn ∧ (sg = 0 ∨ (sg = 1 ∧ 1 ≤ nn.toInt)) ∧ nn.toInt ≤ 5) := by
  refine con_of (plainFor_of_name pn_3) hE (fun m => ef_rM21 m xx yy) ?_
  intro p e s m below meth c T0 C X0
  have C : Cx p s m meth c Z "java/math/BigInteger" "multiply" jdk_2097_method_42_code 9 (some (.object "java/math/BigInteger")) := C
  show Goes p e below _ T0 (mkF m 0 #[.val (.ref xx), .val (.ref yy), .val (.int 0), .val (.int 0), .val (.int 0), .unset, .unset, .unset, .unset] [])
  refine g_aloadN C X0 d8_0 rfl rfl ?_
  refine g_getfield (host := "") C X0 (Or.inl (wd hw 84 rfl)) Via.refl Sy d8_1 (fun T457 X457 => ?_)
  refine g_if (h0_eq _) C X457 d8_4 (fun q => absurd q (by decide)) (fun _ => ?_)
  refine g_aloadN C X457 d8_7 rfl rfl ?_
  refine g_getfield (host := "") C X457 (Or.inl (wd hw 84 rfl)) Via.refl Sx d8_8 (fun T458 X458 => ?_)
  refine g_ifn (h0_ne _) C X458 d8_11 (fun _ => ?_) (fun q => absurd q (by decide))
  refine g_aloadN C X458 d8_18 rfl rfl ?_
  refine g_getfield (host := "") C X458 (Or.inl (wd hw 86 rfl)) Via.refl Mx d8_19 (fun T459 X459 => ?_)
  refine g_arraylengthI C X459 Vx d8_22 ?_
  refine g_istore C X459 d8_23 (l' := #[.val (.ref xx), .val (.ref yy), .val (.int 0), .val (.int 0), .val (.int 0), .val (.int 2), .unset, .unset, .unset]) rfl ?_
  refine g_aloadN C X459 d8_25 rfl rfl ?_
  refine g_aloadN C X459 d8_26 rfl rfl ?_
  refine g_acmpne C X459 d8_27 rfl rfl (fun c27_460 => ?_) (fun c27_460 => ?_)
  · refine g_aloadN C X459 d8_46 rfl rfl ?_
    refine g_getfield (host := "") C X459 (Or.inl (wd hw 86 rfl)) Via.refl My d8_47 (fun T461 X461 => ?_)
    refine g_arraylengthI C X461 Vy d8_50 ?_
    refine g_istore C X461 d8_51 (l' := #[.val (.ref xx), .val (.ref yy), .val (.int 0), .val (.int 0), .val (.int 0), .val (.int 2), .val (.int 1), .unset, .unset]) rfl ?_
    refine g_iload C X461 d8_53 rfl ?_
    refine g_bipush 80 C X461 d8_55 rfl ?_
    refine g_icmp (hI_lt _ _) C X461 d8_57 (fun _ => ?_) (fun q => absurd (by decide) q)
    refine g_aloadN C X461 d8_67 rfl rfl ?_
    refine g_getfield (host := "") C X461 (Or.inl (wd hw 84 rfl)) Via.refl Sx d8_68 (fun T462 X462 => ?_)
    refine g_aloadN C X462 d8_71 rfl rfl ?_
    refine g_getfield (host := "") C X462 (Or.inl (wd hw 84 rfl)) Via.refl Sy d8_72 (fun T463 X463 => ?_)
    refine g_icmpn (hI_ne _ _) C X463 d8_75 (fun q => absurd (by decide) q) (fun _ => ?_)
    refine g_iconst 1 C X463 d8_78 rfl ?_
    refine g_goto C X463 d8_79 ?_
    refine g_istore C X463 d8_83 (l' := #[.val (.ref xx), .val (.ref yy), .val (.int 0), .val (.int 0), .val (.int 0), .val (.int 2), .val (.int 1), .val (.int 1), .unset]) rfl ?_
    refine g_aloadN C X463 d8_85 rfl rfl ?_
    refine g_getfield (host := "") C X463 (Or.inl (wd hw 86 rfl)) Via.refl My d8_86 (fun T464 X464 => ?_)
    refine g_arraylengthI C X464 Vy d8_89 ?_
    refine g_iconst 1 C X464 d8_90 rfl ?_
    refine g_icmpn (hI_ne _ _) C X464 d8_91 (fun q => absurd (by decide) q) (fun _ => ?_)
    refine g_aloadN C X464 d8_94 rfl rfl ?_
    refine g_getfield (host := "") C X464 (Or.inl (wd hw 86 rfl)) Via.refl Mx d8_95 (fun T465 X465 => ?_)
    refine g_aloadN C X465 d8_98 rfl rfl ?_
    refine g_getfield (host := "") C X465 (Or.inl (wd hw 86 rfl)) Via.refl My d8_99 (fun T466 X466 => ?_)
    refine g_iconst 0 C X466 d8_102 rfl ?_
    refine g_ialoadI C X466 Vy d8_103 (by decide) (by decide) (fun v467 => ?_)
    refine g_iload C X466 d8_104 rfl ?_
    refine g_static (argsL := [(.ref mx), (.int v467), (.int 1)]) (st := []) C X466 (wd hw 88 rfl) (wd hw 89 rfl) (wd hw 36 rfl) (wd hw 90 rfl) (by decide) (pay_of (W' := 0) (rMB2 l hw X466.ext mx v467 Vx) C.hZ (wd hw 90 rfl) (wd hw 36 rfl) (by decide) (by decide)) pd_13 rfl rfl _ rfl (Nat.le_of_eq rfl) d8_106 (by decide) (by decide) (fun T468 h468 v468 q468 X468 => ?_)
    obtain ⟨x468, mg468, sg468, nn468, rfl, E468, EX468, FS468, FM468, VM468, hs468, hb468⟩ := q468
    show Goes p e below _ T468 (mkF m 109 #[.val (.ref xx), .val (.ref yy), .val (.int 0), .val (.int 0), .val (.int 0), .val (.int 2), .val (.int 1), .val (.int 1), .unset] [(.ref x468)])
    have kp469 := (Keep.refl h []).ext E468
    exact g_retA C X468 rfl rfl d8_109 (by decide) (by decide) ⟨x468, mg468, sg468, nn468, rfl, keep_ext kp469, EX468, FS468, FM468, VM468, hs468, hb468⟩
  · refine g_iload C X459 d8_30 rfl ?_
    refine g_bipush 20 C X459 d8_32 rfl ?_
    refine g_icmpn (hI_le _ _) C X459 d8_34 (fun _ => ?_) (fun q => absurd q (by decide))
    refine g_aloadN C X459 d8_46 rfl rfl ?_
    refine g_getfield (host := "") C X459 (Or.inl (wd hw 86 rfl)) Via.refl My d8_47 (fun T470 X470 => ?_)
    refine g_arraylengthI C X470 Vy d8_50 ?_
    refine g_istore C X470 d8_51 (l' := #[.val (.ref xx), .val (.ref yy), .val (.int 0), .val (.int 0), .val (.int 0), .val (.int 2), .val (.int 1), .unset, .unset]) rfl ?_
    refine g_iload C X470 d8_53 rfl ?_
    refine g_bipush 80 C X470 d8_55 rfl ?_
    refine g_icmp (hI_lt _ _) C X470 d8_57 (fun _ => ?_) (fun q => absurd (by decide) q)
    refine g_aloadN C X470 d8_67 rfl rfl ?_
    refine g_getfield (host := "") C X470 (Or.inl (wd hw 84 rfl)) Via.refl Sx d8_68 (fun T471 X471 => ?_)
    refine g_aloadN C X471 d8_71 rfl rfl ?_
    refine g_getfield (host := "") C X471 (Or.inl (wd hw 84 rfl)) Via.refl Sy d8_72 (fun T472 X472 => ?_)
    refine g_icmpn (hI_ne _ _) C X472 d8_75 (fun q => absurd (by decide) q) (fun _ => ?_)
    refine g_iconst 1 C X472 d8_78 rfl ?_
    refine g_goto C X472 d8_79 ?_
    refine g_istore C X472 d8_83 (l' := #[.val (.ref xx), .val (.ref yy), .val (.int 0), .val (.int 0), .val (.int 0), .val (.int 2), .val (.int 1), .val (.int 1), .unset]) rfl ?_
    refine g_aloadN C X472 d8_85 rfl rfl ?_
    refine g_getfield (host := "") C X472 (Or.inl (wd hw 86 rfl)) Via.refl My d8_86 (fun T473 X473 => ?_)
    refine g_arraylengthI C X473 Vy d8_89 ?_
    refine g_iconst 1 C X473 d8_90 rfl ?_
    refine g_icmpn (hI_ne _ _) C X473 d8_91 (fun q => absurd (by decide) q) (fun _ => ?_)
    refine g_aloadN C X473 d8_94 rfl rfl ?_
    refine g_getfield (host := "") C X473 (Or.inl (wd hw 86 rfl)) Via.refl Mx d8_95 (fun T474 X474 => ?_)
    refine g_aloadN C X474 d8_98 rfl rfl ?_
    refine g_getfield (host := "") C X474 (Or.inl (wd hw 86 rfl)) Via.refl My d8_99 (fun T475 X475 => ?_)
    refine g_iconst 0 C X475 d8_102 rfl ?_
    refine g_ialoadI C X475 Vy d8_103 (by decide) (by decide) (fun v476 => ?_)
    refine g_iload C X475 d8_104 rfl ?_
    refine g_static (argsL := [(.ref mx), (.int v476), (.int 1)]) (st := []) C X475 (wd hw 88 rfl) (wd hw 89 rfl) (wd hw 36 rfl) (wd hw 90 rfl) (by decide) (pay_of (W' := 0) (rMB2 l hw X475.ext mx v476 Vx) C.hZ (wd hw 90 rfl) (wd hw 36 rfl) (by decide) (by decide)) pd_13 rfl rfl _ rfl (Nat.le_of_eq rfl) d8_106 (by decide) (by decide) (fun T477 h477 v477 q477 X477 => ?_)
    obtain ⟨x477, mg477, sg477, nn477, rfl, E477, EX477, FS477, FM477, VM477, hs477, hb477⟩ := q477
    show Goes p e below _ T477 (mkF m 109 #[.val (.ref xx), .val (.ref yy), .val (.int 0), .val (.int 0), .val (.int 0), .val (.int 2), .val (.int 1), .val (.int 1), .unset] [(.ref x477)])
    have kp478 := (Keep.refl h []).ext E477
    exact g_retA C X477 rfl rfl d8_109 (by decide) (by decide) ⟨x477, mg477, sg477, nn477, rfl, keep_ext kp478, EX477, FS477, FM477, VM477, hs477, hb477⟩
theorem ef_rM22 (m : MethodId) (xx : Addr) (yy : Addr) : entryFrame m #[(.ref xx), (.ref yy), (.int 0), (.int 0), (.int 0)] 9 = mkF m 0 #[.val (.ref xx), .val (.ref yy), .val (.int 0), .val (.int 0), .val (.int 0), .unset, .unset, .unset, .unset] [] := by first | (simp [entryFrame, mkF, argsToLocals, Value.category]; done) | rfl
theorem d8_135 : Dc jdk_2097_method_42_code 135 (.aload_n 0) 1 136 := ⟨by decide +kernel, rfl⟩
theorem d8_136 : Dc jdk_2097_method_42_code 136 (.getfield 28) 3 139 := ⟨by decide +kernel, rfl⟩
theorem d8_139 : Dc jdk_2097_method_42_code 139 (.iload 5) 2 141 := ⟨by decide +kernel, rfl⟩
theorem d8_141 : Dc jdk_2097_method_42_code 141 (.aload_n 1) 1 142 := ⟨by decide +kernel, rfl⟩
theorem d8_142 : Dc jdk_2097_method_42_code 142 (.getfield 28) 3 145 := ⟨by decide +kernel, rfl⟩
theorem d8_145 : Dc jdk_2097_method_42_code 145 (.iload 6) 2 147 := ⟨by decide +kernel, rfl⟩
theorem d8_147 : Dc jdk_2097_method_42_code 147 (.aconst_null) 1 148 := ⟨by decide +kernel, rfl⟩
theorem d8_148 : Dc jdk_2097_method_42_code 148 (.invokestatic 407) 3 151 := ⟨by decide +kernel, rfl⟩
theorem d8_151 : Dc jdk_2097_method_42_code 151 (.astore 8) 2 153 := ⟨by decide +kernel, rfl⟩
theorem d8_153 : Dc jdk_2097_method_42_code 153 (.aload 8) 2 155 := ⟨by decide +kernel, rfl⟩
theorem d8_155 : Dc jdk_2097_method_42_code 155 (.invokestatic 53) 3 158 := ⟨by decide +kernel, rfl⟩
theorem pd_14 : parseMethodDescriptor "([I)[I" = some ⟨[(.array .int)], some (.array .int)⟩ := by decide +kernel
theorem d8_158 : Dc jdk_2097_method_42_code 158 (.astore 8) 2 160 := ⟨by decide +kernel, rfl⟩
theorem d8_160 : Dc jdk_2097_method_42_code 160 (.new 23) 3 163 := ⟨by decide +kernel, rfl⟩
theorem d8_163 : Dc jdk_2097_method_42_code 163 (.dup) 1 164 := ⟨by decide +kernel, rfl⟩
theorem d8_164 : Dc jdk_2097_method_42_code 164 (.aload 8) 2 166 := ⟨by decide +kernel, rfl⟩
theorem d8_166 : Dc jdk_2097_method_42_code 166 (.iload 7) 2 168 := ⟨by decide +kernel, rfl⟩
theorem d8_168 : Dc jdk_2097_method_42_code 168 (.invokespecial 175) 3 171 := ⟨by decide +kernel, rfl⟩
theorem d8_171 : Dc jdk_2097_method_42_code 171 (.areturn) 1 172 := ⟨by decide +kernel, rfl⟩
theorem rM22 (l : Launch) {Z : State} {a0 : Array Value} (hw : ∀ d ∈ tables_1, d.before a0 Z = true) {h : Heap} (hE : Ext Z.heap h) (xx : Addr) (yy : Addr) (mx my : Addr) (Ex : Exa Z h xx "java/math/BigInteger") (Sx : Fld Z h xx "java/math/BigInteger" "signum" "I" (.int (1 : Int32))) (Mx : Fld Z h xx "java/math/BigInteger" "mag" "[I" (.ref mx)) (Vx : IaS Z h mx 2) (Ey : Exa Z h yy "java/math/BigInteger") (Sy : Fld Z h yy "java/math/BigInteger" "signum" "I" (.int (1 : Int32))) (My : Fld Z h yy "java/math/BigInteger" "mag" "[I" (.ref my)) (Vy : IaS Z h my 2) :
    Con l (⟨"java/math/BigInteger", "multiply", "(Ljava/math/BigInteger;ZZI)Ljava/math/BigInteger;"⟩ : MethodName) jdk_2097_method_42_code 9 (some (.object "java/math/BigInteger")) [] ({ frames := 5, cells := 3, slots := 40, locals := 120 } : Room) Z #[(.ref xx), (.ref yy), (.int 0), (.int 0), (.int 0)] h (fun v' h' => ∃ (x mg : Addr) (sg nn : Int32), v' = some (.ref x) ∧ Ext h h' ∧ Exa Z h' x "java/math/BigInteger" ∧ Fld Z h' x "java/math/BigInteger" "signum" "I" (.int sg) ∧ Fld Z h' x "java/math/BigInteger" "mag" "[I" (.ref mg) ∧ IaS Z h' mg nn ∧ (sg = 0 ∨ (sg = 1 ∧ 1 ≤ nn.toInt)) ∧ nn.toInt ≤ 5) := by
  refine con_of (plainFor_of_name pn_3) hE (fun m => ef_rM22 m xx yy) ?_
  intro p e s m below meth c T0 C X0
  have C : Cx p s m meth c Z "java/math/BigInteger" "multiply" jdk_2097_method_42_code 9 (some (.object "java/math/BigInteger")) := C
  show Goes p e below _ T0 (mkF m 0 #[.val (.ref xx), .val (.ref yy), .val (.int 0), .val (.int 0), .val (.int 0), .unset, .unset, .unset, .unset] [])
  refine g_aloadN C X0 d8_0 rfl rfl ?_
  refine g_getfield (host := "") C X0 (Or.inl (wd hw 84 rfl)) Via.refl Sy d8_1 (fun T479 X479 => ?_)
  refine g_if (h0_eq _) C X479 d8_4 (fun q => absurd q (by decide)) (fun _ => ?_)
  refine g_aloadN C X479 d8_7 rfl rfl ?_
  refine g_getfield (host := "") C X479 (Or.inl (wd hw 84 rfl)) Via.refl Sx d8_8 (fun T480 X480 => ?_)
  refine g_ifn (h0_ne _) C X480 d8_11 (fun _ => ?_) (fun q => absurd q (by decide))
  refine g_aloadN C X480 d8_18 rfl rfl ?_
  refine g_getfield (host := "") C X480 (Or.inl (wd hw 86 rfl)) Via.refl Mx d8_19 (fun T481 X481 => ?_)
  refine g_arraylengthI C X481 Vx d8_22 ?_
  refine g_istore C X481 d8_23 (l' := #[.val (.ref xx), .val (.ref yy), .val (.int 0), .val (.int 0), .val (.int 0), .val (.int 2), .unset, .unset, .unset]) rfl ?_
  refine g_aloadN C X481 d8_25 rfl rfl ?_
  refine g_aloadN C X481 d8_26 rfl rfl ?_
  refine g_acmpne C X481 d8_27 rfl rfl (fun c27_482 => ?_) (fun c27_482 => ?_)
  · refine g_aloadN C X481 d8_46 rfl rfl ?_
    refine g_getfield (host := "") C X481 (Or.inl (wd hw 86 rfl)) Via.refl My d8_47 (fun T483 X483 => ?_)
    refine g_arraylengthI C X483 Vy d8_50 ?_
    refine g_istore C X483 d8_51 (l' := #[.val (.ref xx), .val (.ref yy), .val (.int 0), .val (.int 0), .val (.int 0), .val (.int 2), .val (.int 2), .unset, .unset]) rfl ?_
    refine g_iload C X483 d8_53 rfl ?_
    refine g_bipush 80 C X483 d8_55 rfl ?_
    refine g_icmp (hI_lt _ _) C X483 d8_57 (fun _ => ?_) (fun q => absurd (by decide) q)
    refine g_aloadN C X483 d8_67 rfl rfl ?_
    refine g_getfield (host := "") C X483 (Or.inl (wd hw 84 rfl)) Via.refl Sx d8_68 (fun T484 X484 => ?_)
    refine g_aloadN C X484 d8_71 rfl rfl ?_
    refine g_getfield (host := "") C X484 (Or.inl (wd hw 84 rfl)) Via.refl Sy d8_72 (fun T485 X485 => ?_)
    refine g_icmpn (hI_ne _ _) C X485 d8_75 (fun q => absurd (by decide) q) (fun _ => ?_)
    refine g_iconst 1 C X485 d8_78 rfl ?_
    refine g_goto C X485 d8_79 ?_
    refine g_istore C X485 d8_83 (l' := #[.val (.ref xx), .val (.ref yy), .val (.int 0), .val (.int 0), .val (.int 0), .val (.int 2), .val (.int 2), .val (.int 1), .unset]) rfl ?_
    refine g_aloadN C X485 d8_85 rfl rfl ?_
    refine g_getfield (host := "") C X485 (Or.inl (wd hw 86 rfl)) Via.refl My d8_86 (fun T486 X486 => ?_)
    refine g_arraylengthI C X486 Vy d8_89 ?_
    refine g_iconst 1 C X486 d8_90 rfl ?_
    refine g_icmpn (hI_ne _ _) C X486 d8_91 (fun _ => ?_) (fun q => absurd q (by decide))
    refine g_aloadN C X486 d8_110 rfl rfl ?_
    refine g_getfield (host := "") C X486 (Or.inl (wd hw 86 rfl)) Via.refl Mx d8_111 (fun T487 X487 => ?_)
    refine g_arraylengthI C X487 Vx d8_114 ?_
    refine g_iconst 1 C X487 d8_115 rfl ?_
    refine g_icmpn (hI_ne _ _) C X487 d8_116 (fun _ => ?_) (fun q => absurd q (by decide))
    refine g_aloadN C X487 d8_135 rfl rfl ?_
    refine g_getfield (host := "") C X487 (Or.inl (wd hw 86 rfl)) Via.refl Mx d8_136 (fun T488 X488 => ?_)
    refine g_iload C X488 d8_139 rfl ?_
    refine g_aloadN C X488 d8_141 rfl rfl ?_
    refine g_getfield (host := "") C X488 (Or.inl (wd hw 86 rfl)) Via.refl My d8_142 (fun T489 X489 => ?_)
    refine g_iload C X489 d8_145 rfl ?_
    refine g_aconst_null C X489 d8_147 ?_
    refine g_static (argsL := [(.ref mx), (.int 2), (.ref my), (.int 2), .null]) (st := []) C X489 (wd hw 154 rfl) (wd hw 155 rfl) (wd hw 36 rfl) (wd hw 156 rfl) (by decide) (pay_of (W' := 0) (rMT l hw X489.ext mx my Vx Vy) C.hZ (wd hw 156 rfl) (wd hw 36 rfl) (by decide) (by decide)) pd_7 rfl rfl _ rfl (Nat.le_of_eq rfl) d8_148 (by decide) (by decide) (fun T490 h490 v490 q490 X490 => ?_)
    obtain ⟨b490, rfl, E490, V490⟩ := q490
    show Goes p e below _ T490 (mkF m 151 #[.val (.ref xx), .val (.ref yy), .val (.int 0), .val (.int 0), .val (.int 0), .val (.int 2), .val (.int 2), .val (.int 1), .unset] [(.ref b490)])
    refine g_astore C X490 d8_151 rfl (l' := #[.val (.ref xx), .val (.ref yy), .val (.int 0), .val (.int 0), .val (.int 0), .val (.int 2), .val (.int 2), .val (.int 1), .val (.ref b490)]) rfl ?_
    refine g_aload C X490 d8_153 rfl rfl ?_
    refine g_static (argsL := [(.ref b490)]) (st := []) C X490 (wd hw 167 rfl) (wd hw 168 rfl) (wd hw 36 rfl) (wd hw 169 rfl) (by decide) (pay_of (W' := 0) (rTS l hw X490.ext b490 V490) C.hZ (wd hw 169 rfl) (wd hw 36 rfl) (by decide) (by decide)) pd_14 rfl rfl _ rfl (Nat.le_of_eq rfl) d8_155 (by decide) (by decide) (fun T491 h491 v491 q491 X491 => ?_)
    obtain ⟨b491, nn491, rfl, E491, V491, nb491⟩ := q491
    show Goes p e below _ T491 (mkF m 158 #[.val (.ref xx), .val (.ref yy), .val (.int 0), .val (.int 0), .val (.int 0), .val (.int 2), .val (.int 2), .val (.int 1), .val (.ref b490)] [(.ref b491)])
    refine g_astore C X491 d8_158 rfl (l' := #[.val (.ref xx), .val (.ref yy), .val (.int 0), .val (.int 0), .val (.int 0), .val (.int 2), .val (.int 2), .val (.int 1), .val (.ref b491)]) rfl ?_
    refine g_new C X491 (wd hw 117 rfl) (wd hw 118 rfl) (wd hw 36 rfl) d8_160 (by decide) (by decide) (fun T492 h492 b492 g_b492 n_b492 X492 E492 A492 D492 M492 => ?_)
    have f493 := (Exa.ext E491 (Exa.ext E490 Ex))
    have lt494 : xx < b492 := by rw [g_b492]; exact Exa.lt f493
    have f495 := (IaS.ext (IaS.ext Vx E490) E491)
    have lt496 : mx < b492 := by rw [g_b492]; exact IaS.lt f495
    have f497 := (Exa.ext E491 (Exa.ext E490 Ey))
    have lt498 : yy < b492 := by rw [g_b492]; exact Exa.lt f497
    have f499 := (IaS.ext (IaS.ext Vy E490) E491)
    have lt500 : my < b492 := by rw [g_b492]; exact IaS.lt f499
    have f501 := (IaS.ext V490 E491)
    have lt502 : b490 < b492 := by rw [g_b492]; exact IaS.lt f501
    have lt503 : b491 < b492 := by rw [g_b492]; exact IaS.lt V491
    have F_signum_b492 : Fld Z h492 b492 "java/math/BigInteger" "signum" "I" (.int 0) := D492 (Or.inr (wd hw 85 rfl)) (ty := .int) (by decide)
    have F_mag_b492 : Fld Z h492 b492 "java/math/BigInteger" "mag" "[I" .null := D492 (Or.inr (wd hw 87 rfl)) (ty := (.array .int)) (by decide)
    refine g_dup C X492 d8_163 rfl ?_
    refine g_aload C X492 d8_164 rfl rfl ?_
    refine g_iload C X492 d8_166 rfl ?_
    have f505 := (IaS.ext V491 E492)
    have ne504 := own_neI A492 f505 (wd hw 118 rfl)
    refine g_special (argsL := [(.ref b491), (.int 1)]) (st := [(.ref b492)]) C X492 rfl (wd hw 119 rfl) (wd hw 120 rfl) (wd hw 122 rfl) (by decide) (pay_of (W' := 1) (rBA l hw X492.ext b492 b491 nn491 A492 F_signum_b492 F_mag_b492 n_b492 f505 (by omega)) C.hZ (wd hw 122 rfl) (wd hw 36 rfl) (by decide) (by decide)) pd_6 rfl rfl _ rfl (Nat.le_of_eq rfl) d8_168 (by decide) (by decide) (fun T506 h506 v506 q506 X506 => ?_)
    obtain ⟨rfl, K506, EX506, sg506, FS506, FM506, hs506⟩ := q506
    show Goes p e below _ T506 (mkF m 171 #[.val (.ref xx), .val (.ref yy), .val (.int 0), .val (.int 0), .val (.int 0), .val (.int 2), .val (.int 2), .val (.int 1), .val (.ref b491)] [(.ref b492)])
    have kp507 := (Keep.refl h []).ext E490
    have kp508 := kp507.ext E491
    have sz509 : h.size ≤ b492 := by rw [g_b492]; exact kp508.1
    have kp510 := kp508.ext E492
    have kp511 := kp510.trans K506 (allS (Or.inr sz509) all0)
    have f512 := (IaS.keep f505 K506 (ninS (Ne.symm ne504) nin0))
    exact g_retA C X506 rfl rfl d8_171 (by decide) (by decide) ⟨b492, b491, sg506, nn491, rfl, keep_ext kp511, EX506, FS506, FM506, f512, hs506, (Int.le_trans nb491 (by decide))⟩
  · refine g_iload C X481 d8_30 rfl ?_
    refine g_bipush 20 C X481 d8_32 rfl ?_
    refine g_icmpn (hI_le _ _) C X481 d8_34 (fun _ => ?_) (fun q => absurd q (by decide))
    refine g_aloadN C X481 d8_46 rfl rfl ?_
    refine g_getfield (host := "") C X481 (Or.inl (wd hw 86 rfl)) Via.refl My d8_47 (fun T513 X513 => ?_)
    refine g_arraylengthI C X513 Vy d8_50 ?_
    refine g_istore C X513 d8_51 (l' := #[.val (.ref xx), .val (.ref yy), .val (.int 0), .val (.int 0), .val (.int 0), .val (.int 2), .val (.int 2), .unset, .unset]) rfl ?_
    refine g_iload C X513 d8_53 rfl ?_
    refine g_bipush 80 C X513 d8_55 rfl ?_
    refine g_icmp (hI_lt _ _) C X513 d8_57 (fun _ => ?_) (fun q => absurd (by decide) q)
    refine g_aloadN C X513 d8_67 rfl rfl ?_
    refine g_getfield (host := "") C X513 (Or.inl (wd hw 84 rfl)) Via.refl Sx d8_68 (fun T514 X514 => ?_)
    refine g_aloadN C X514 d8_71 rfl rfl ?_
    refine g_getfield (host := "") C X514 (Or.inl (wd hw 84 rfl)) Via.refl Sy d8_72 (fun T515 X515 => ?_)
    refine g_icmpn (hI_ne _ _) C X515 d8_75 (fun q => absurd (by decide) q) (fun _ => ?_)
    refine g_iconst 1 C X515 d8_78 rfl ?_
    refine g_goto C X515 d8_79 ?_
    refine g_istore C X515 d8_83 (l' := #[.val (.ref xx), .val (.ref yy), .val (.int 0), .val (.int 0), .val (.int 0), .val (.int 2), .val (.int 2), .val (.int 1), .unset]) rfl ?_
    refine g_aloadN C X515 d8_85 rfl rfl ?_
    refine g_getfield (host := "") C X515 (Or.inl (wd hw 86 rfl)) Via.refl My d8_86 (fun T516 X516 => ?_)
    refine g_arraylengthI C X516 Vy d8_89 ?_
    refine g_iconst 1 C X516 d8_90 rfl ?_
    refine g_icmpn (hI_ne _ _) C X516 d8_91 (fun _ => ?_) (fun q => absurd q (by decide))
    refine g_aloadN C X516 d8_110 rfl rfl ?_
    refine g_getfield (host := "") C X516 (Or.inl (wd hw 86 rfl)) Via.refl Mx d8_111 (fun T517 X517 => ?_)
    refine g_arraylengthI C X517 Vx d8_114 ?_
    refine g_iconst 1 C X517 d8_115 rfl ?_
    refine g_icmpn (hI_ne _ _) C X517 d8_116 (fun _ => ?_) (fun q => absurd q (by decide))
    refine g_aloadN C X517 d8_135 rfl rfl ?_
    refine g_getfield (host := "") C X517 (Or.inl (wd hw 86 rfl)) Via.refl Mx d8_136 (fun T518 X518 => ?_)
    refine g_iload C X518 d8_139 rfl ?_
    refine g_aloadN C X518 d8_141 rfl rfl ?_
    refine g_getfield (host := "") C X518 (Or.inl (wd hw 86 rfl)) Via.refl My d8_142 (fun T519 X519 => ?_)
    refine g_iload C X519 d8_145 rfl ?_
    refine g_aconst_null C X519 d8_147 ?_
    refine g_static (argsL := [(.ref mx), (.int 2), (.ref my), (.int 2), .null]) (st := []) C X519 (wd hw 154 rfl) (wd hw 155 rfl) (wd hw 36 rfl) (wd hw 156 rfl) (by decide) (pay_of (W' := 0) (rMT l hw X519.ext mx my Vx Vy) C.hZ (wd hw 156 rfl) (wd hw 36 rfl) (by decide) (by decide)) pd_7 rfl rfl _ rfl (Nat.le_of_eq rfl) d8_148 (by decide) (by decide) (fun T520 h520 v520 q520 X520 => ?_)
    obtain ⟨b520, rfl, E520, V520⟩ := q520
    show Goes p e below _ T520 (mkF m 151 #[.val (.ref xx), .val (.ref yy), .val (.int 0), .val (.int 0), .val (.int 0), .val (.int 2), .val (.int 2), .val (.int 1), .unset] [(.ref b520)])
    refine g_astore C X520 d8_151 rfl (l' := #[.val (.ref xx), .val (.ref yy), .val (.int 0), .val (.int 0), .val (.int 0), .val (.int 2), .val (.int 2), .val (.int 1), .val (.ref b520)]) rfl ?_
    refine g_aload C X520 d8_153 rfl rfl ?_
    refine g_static (argsL := [(.ref b520)]) (st := []) C X520 (wd hw 167 rfl) (wd hw 168 rfl) (wd hw 36 rfl) (wd hw 169 rfl) (by decide) (pay_of (W' := 0) (rTS l hw X520.ext b520 V520) C.hZ (wd hw 169 rfl) (wd hw 36 rfl) (by decide) (by decide)) pd_14 rfl rfl _ rfl (Nat.le_of_eq rfl) d8_155 (by decide) (by decide) (fun T521 h521 v521 q521 X521 => ?_)
    obtain ⟨b521, nn521, rfl, E521, V521, nb521⟩ := q521
    show Goes p e below _ T521 (mkF m 158 #[.val (.ref xx), .val (.ref yy), .val (.int 0), .val (.int 0), .val (.int 0), .val (.int 2), .val (.int 2), .val (.int 1), .val (.ref b520)] [(.ref b521)])
    refine g_astore C X521 d8_158 rfl (l' := #[.val (.ref xx), .val (.ref yy), .val (.int 0), .val (.int 0), .val (.int 0), .val (.int 2), .val (.int 2), .val (.int 1), .val (.ref b521)]) rfl ?_
    refine g_new C X521 (wd hw 117 rfl) (wd hw 118 rfl) (wd hw 36 rfl) d8_160 (by decide) (by decide) (fun T522 h522 b522 g_b522 n_b522 X522 E522 A522 D522 M522 => ?_)
    have f523 := (Exa.ext E521 (Exa.ext E520 Ex))
    have lt524 : xx < b522 := by rw [g_b522]; exact Exa.lt f523
    have f525 := (IaS.ext (IaS.ext Vx E520) E521)
    have lt526 : mx < b522 := by rw [g_b522]; exact IaS.lt f525
    have f527 := (Exa.ext E521 (Exa.ext E520 Ey))
    have lt528 : yy < b522 := by rw [g_b522]; exact Exa.lt f527
    have f529 := (IaS.ext (IaS.ext Vy E520) E521)
    have lt530 : my < b522 := by rw [g_b522]; exact IaS.lt f529
    have f531 := (IaS.ext V520 E521)
    have lt532 : b520 < b522 := by rw [g_b522]; exact IaS.lt f531
    have lt533 : b521 < b522 := by rw [g_b522]; exact IaS.lt V521
    have F_signum_b522 : Fld Z h522 b522 "java/math/BigInteger" "signum" "I" (.int 0) := D522 (Or.inr (wd hw 85 rfl)) (ty := .int) (by decide)
    have F_mag_b522 : Fld Z h522 b522 "java/math/BigInteger" "mag" "[I" .null := D522 (Or.inr (wd hw 87 rfl)) (ty := (.array .int)) (by decide)
    refine g_dup C X522 d8_163 rfl ?_
    refine g_aload C X522 d8_164 rfl rfl ?_
    refine g_iload C X522 d8_166 rfl ?_
    have f535 := (IaS.ext V521 E522)
    have ne534 := own_neI A522 f535 (wd hw 118 rfl)
    refine g_special (argsL := [(.ref b521), (.int 1)]) (st := [(.ref b522)]) C X522 rfl (wd hw 119 rfl) (wd hw 120 rfl) (wd hw 122 rfl) (by decide) (pay_of (W' := 1) (rBA l hw X522.ext b522 b521 nn521 A522 F_signum_b522 F_mag_b522 n_b522 f535 (by omega)) C.hZ (wd hw 122 rfl) (wd hw 36 rfl) (by decide) (by decide)) pd_6 rfl rfl _ rfl (Nat.le_of_eq rfl) d8_168 (by decide) (by decide) (fun T536 h536 v536 q536 X536 => ?_)
    obtain ⟨rfl, K536, EX536, sg536, FS536, FM536, hs536⟩ := q536
    show Goes p e below _ T536 (mkF m 171 #[.val (.ref xx), .val (.ref yy), .val (.int 0), .val (.int 0), .val (.int 0), .val (.int 2), .val (.int 2), .val (.int 1), .val (.ref b521)] [(.ref b522)])
    have kp537 := (Keep.refl h []).ext E520
    have kp538 := kp537.ext E521
    have sz539 : h.size ≤ b522 := by rw [g_b522]; exact kp538.1
    have kp540 := kp538.ext E522
    have kp541 := kp540.trans K536 (allS (Or.inr sz539) all0)
    have f542 := (IaS.keep f535 K536 (ninS (Ne.symm ne534) nin0))
    exact g_retA C X536 rfl rfl d8_171 (by decide) (by decide) ⟨b522, b521, sg536, nn521, rfl, keep_ext kp541, EX536, FS536, FM536, f542, hs536, (Int.le_trans nb521 (by decide))⟩
theorem ef_rMz (m : MethodId) (xx : Addr) (yy : Addr) : entryFrame m #[(.ref xx), (.ref yy), (.int 0), (.int 0), (.int 0)] 9 = mkF m 0 #[.val (.ref xx), .val (.ref yy), .val (.int 0), .val (.int 0), .val (.int 0), .unset, .unset, .unset, .unset] [] := by first | (simp [entryFrame, mkF, argsToLocals, Value.category]; done) | rfl
theorem d8_14 : Dc jdk_2097_method_42_code 14 (.getstatic 22) 3 17 := ⟨by decide +kernel, rfl⟩
theorem d8_17 : Dc jdk_2097_method_42_code 17 (.areturn) 1 18 := ⟨by decide +kernel, rfl⟩
theorem rMz (l : Launch) {Z : State} {a0 : Array Value} (hw : ∀ d ∈ tables_1, d.before a0 Z = true) {h : Heap} (hE : Ext Z.heap h) (xx : Addr) (yy : Addr) (mx my : Addr) (g1 n1 n2 : Int32) (zr zm pc_ : Addr) (kp : ClassId) (vp : List Value) (SZR : Sta Z Z.heap "java/math/BigInteger" "ZERO" "Ljava/math/BigInteger;" (.ref zr)) (ZE : Exa Z Z.heap zr "java/math/BigInteger") (ZS : Fld Z Z.heap zr "java/math/BigInteger" "signum" "I" (.int (0 : Int32))) (ZM : Fld Z Z.heap zr "java/math/BigInteger" "mag" "[I" (.ref zm)) (ZV : IaS Z Z.heap zm 0) (SPC : Sta Z Z.heap "java/math/BigInteger" "posConst" "[Ljava/math/BigInteger;" (.ref pc_)) (VP : Arv Z Z.heap pc_ kp (.object "java/math/BigInteger") 17 vp .null) (PC : ∀ j : Nat, 1 ≤ j → j ≤ 16 → ∃ x mg : Addr, vp.getD j .null = .ref x ∧ Exa Z Z.heap x "java/math/BigInteger" ∧ Fld Z Z.heap x "java/math/BigInteger" "signum" "I" (.int (1 : Int32)) ∧ Fld Z Z.heap x "java/math/BigInteger" "mag" "[I" (.ref mg) ∧ IaS Z Z.heap mg 1) (Ex : Exa Z h xx "java/math/BigInteger") (Sx : Fld Z h xx "java/math/BigInteger" "signum" "I" (.int g1)) (Mx : Fld Z h xx "java/math/BigInteger" "mag" "[I" (.ref mx)) (Vx : IaS Z h mx n1) (Ey : Exa Z h yy "java/math/BigInteger") (Sy : Fld Z h yy "java/math/BigInteger" "signum" "I" (.int (0 : Int32))) (My : Fld Z h yy "java/math/BigInteger" "mag" "[I" (.ref my)) (Vy : IaS Z h my n2) :
    Con l (⟨"java/math/BigInteger", "multiply", "(Ljava/math/BigInteger;ZZI)Ljava/math/BigInteger;"⟩ : MethodName) jdk_2097_method_42_code 9 (some (.object "java/math/BigInteger")) [] ({ frames := 5, cells := 3, slots := 40, locals := 120 } : Room) Z #[(.ref xx), (.ref yy), (.int 0), (.int 0), (.int 0)] h (fun v' h' => ∃ (x mg : Addr) (sg nn : Int32), v' = some (.ref x) ∧ Ext h h' ∧ Exa Z h' x "java/math/BigInteger" ∧ Fld Z h' x "java/math/BigInteger" "signum" "I" (.int sg) ∧ Fld Z h' x "java/math/BigInteger" "mag" "[I" (.ref mg) ∧ IaS Z h' mg nn ∧ (sg = 0 ∨ (sg = 1 ∧ 1 ≤ nn.toInt)) ∧ nn.toInt ≤ 5) := by
  refine con_of (plainFor_of_name pn_3) hE (fun m => ef_rMz m xx yy) ?_
  intro p e s m below meth c T0 C X0
  have C : Cx p s m meth c Z "java/math/BigInteger" "multiply" jdk_2097_method_42_code 9 (some (.object "java/math/BigInteger")) := C
  show Goes p e below _ T0 (mkF m 0 #[.val (.ref xx), .val (.ref yy), .val (.int 0), .val (.int 0), .val (.int 0), .unset, .unset, .unset, .unset] [])
  refine g_aloadN C X0 d8_0 rfl rfl ?_
  refine g_getfield (host := "") C X0 (Or.inl (wd hw 84 rfl)) Via.refl Sy d8_1 (fun T543 X543 => ?_)
  refine g_if (h0_eq _) C X543 d8_4 (fun _ => ?_) (fun q => absurd (by decide) q)
  refine g_getstatic (host := "") C X543 (Or.inl (wd hw 153 rfl)) Via.refl SZR d8_14 (fun T544 X544 => ?_)
  exact g_retA C X544 rfl rfl d8_17 (by decide) (by decide) ⟨zr, zm, (0 : Int32), (0 : Int32), rfl, keep_ext (Keep.refl h []), (Exa.ext X544.ext ZE), (Fld.ext X544.ext ZS), (Fld.ext X544.ext ZM), (IaS.ext ZV X544.ext), (Or.inl rfl), (by decide)⟩
theorem ef_rMy (m : MethodId) (xx : Addr) (yy : Addr) : entryFrame m #[(.ref xx), (.ref yy), (.int 0), (.int 0), (.int 0)] 9 = mkF m 0 #[.val (.ref xx), .val (.ref yy), .val (.int 0), .val (.int 0), .val (.int 0), .unset, .unset, .unset, .unset] [] := by first | (simp [entryFrame, mkF, argsToLocals, Value.category]; done) | rfl
theorem rMy (l : Launch) {Z : State} {a0 : Array Value} (hw : ∀ d ∈ tables_1, d.before a0 Z = true) {h : Heap} (hE : Ext Z.heap h) (xx : Addr) (yy : Addr) (mx my : Addr) (g1 n1 n2 : Int32) (zr zm pc_ : Addr) (kp : ClassId) (vp : List Value) (SZR : Sta Z Z.heap "java/math/BigInteger" "ZERO" "Ljava/math/BigInteger;" (.ref zr)) (ZE : Exa Z Z.heap zr "java/math/BigInteger") (ZS : Fld Z Z.heap zr "java/math/BigInteger" "signum" "I" (.int (0 : Int32))) (ZM : Fld Z Z.heap zr "java/math/BigInteger" "mag" "[I" (.ref zm)) (ZV : IaS Z Z.heap zm 0) (SPC : Sta Z Z.heap "java/math/BigInteger" "posConst" "[Ljava/math/BigInteger;" (.ref pc_)) (VP : Arv Z Z.heap pc_ kp (.object "java/math/BigInteger") 17 vp .null) (PC : ∀ j : Nat, 1 ≤ j → j ≤ 16 → ∃ x mg : Addr, vp.getD j .null = .ref x ∧ Exa Z Z.heap x "java/math/BigInteger" ∧ Fld Z Z.heap x "java/math/BigInteger" "signum" "I" (.int (1 : Int32)) ∧ Fld Z Z.heap x "java/math/BigInteger" "mag" "[I" (.ref mg) ∧ IaS Z Z.heap mg 1) (Ex : Exa Z h xx "java/math/BigInteger") (Sx : Fld Z h xx "java/math/BigInteger" "signum" "I" (.int (0 : Int32))) (Mx : Fld Z h xx "java/math/BigInteger" "mag" "[I" (.ref mx)) (Vx : IaS Z h mx n1) (Ey : Exa Z h yy "java/math/BigInteger") (Sy : Fld Z h yy "java/math/BigInteger" "signum" "I" (.int (1 : Int32))) (My : Fld Z h yy "java/math/BigInteger" "mag" "[I" (.ref my)) (Vy : IaS Z h my n2) :
    Con l (⟨"java/math/BigInteger", "multiply", "(Ljava/math/BigInteger;ZZI)Ljava/math/BigInteger;"⟩ : MethodName) jdk_2097_method_42_code 9 (some (.object "java/math/BigInteger")) [] ({ frames := 5, cells := 3, slots := 40, locals := 120 } : Room) Z #[(.ref xx), (.ref yy), (.int 0), (.int 0), (.int 0)] h (fun v' h' => ∃ (x mg : Addr) (sg nn : Int32), v' = some (.ref x) ∧ Ext h h' ∧ Exa Z h' x "java/math/BigInteger" ∧ Fld Z h' x "java/math/BigInteger" "signum" "I" (.int sg) ∧ Fld Z h' x "java/math/BigInteger" "mag" "[I" (.ref mg) ∧ IaS Z h' mg nn ∧ (sg = 0 ∨ (sg = 1 ∧ 1 ≤ nn.toInt)) ∧ nn.toInt ≤ 5) := by
  refine con_of (plainFor_of_name pn_3) hE (fun m => ef_rMy m xx yy) ?_
  intro p e s m below meth c T0 C X0
  have C : Cx p s m meth c Z "java/math/BigInteger" "multiply" jdk_2097_method_42_code 9 (some (.object "java/math/BigInteger")) := C
  show Goes p e below _ T0 (mkF m 0 #[.val (.ref xx), .val (.ref yy), .val (.int 0), .val (.int 0), .val (.int 0), .unset, .unset, .unset, .unset] [])
  refine g_aloadN C X0 d8_0 rfl rfl ?_
  refine g_getfield (host := "") C X0 (Or.inl (wd hw 84 rfl)) Via.refl Sy d8_1 (fun T545 X545 => ?_)
  refine g_if (h0_eq _) C X545 d8_4 (fun q => absurd q (by decide)) (fun _ => ?_)
  refine g_aloadN C X545 d8_7 rfl rfl ?_
  refine g_getfield (host := "") C X545 (Or.inl (wd hw 84 rfl)) Via.refl Sx d8_8 (fun T546 X546 => ?_)
  refine g_ifn (h0_ne _) C X546 d8_11 (fun q => absurd (by decide) q) (fun _ => ?_)
  refine g_getstatic (host := "") C X546 (Or.inl (wd hw 153 rfl)) Via.refl SZR d8_14 (fun T547 X547 => ?_)
  exact g_retA C X547 rfl rfl d8_17 (by decide) (by decide) ⟨zr, zm, (0 : Int32), (0 : Int32), rfl, keep_ext (Keep.refl h []), (Exa.ext X547.ext ZE), (Fld.ext X547.ext ZS), (Fld.ext X547.ext ZM), (IaS.ext ZV X547.ext), (Or.inl rfl), (by decide)⟩
theorem own_12 {n : Int32} (h1 : 1 ≤ n.toInt) (h2 : n.toInt ≤ 2) : n = 1 ∨ n = 2 := by
  rcases (show n.toInt = 1 ∨ n.toInt = 2 by omega) with q | q
  · exact Or.inl (Int32.toInt_inj.mp q)
  · exact Or.inr (Int32.toInt_inj.mp q)
theorem ef_rMul (m : MethodId) (xx : Addr) (yy : Addr) : entryFrame m #[(.ref xx), (.ref yy)] 2 = mkF m 0 #[.val (.ref xx), .val (.ref yy)] [] := by first | (simp [entryFrame, mkF, argsToLocals, Value.category]; done) | rfl
theorem d7_0 : Dc jdk_2097_method_40_code 0 (.aload_n 0) 1 1 := ⟨by decide +kernel, rfl⟩
theorem d7_1 : Dc jdk_2097_method_40_code 1 (.aload_n 1) 1 2 := ⟨by decide +kernel, rfl⟩
theorem d7_2 : Dc jdk_2097_method_40_code 2 (.iconst 0) 1 3 := ⟨by decide +kernel, rfl⟩
theorem d7_3 : Dc jdk_2097_method_40_code 3 (.iconst 0) 1 4 := ⟨by decide +kernel, rfl⟩
theorem d7_4 : Dc jdk_2097_method_40_code 4 (.iconst 0) 1 5 := ⟨by decide +kernel, rfl⟩
theorem d7_5 : Dc jdk_2097_method_40_code 5 (.invokevirtual 397) 3 8 := ⟨by decide +kernel, rfl⟩
theorem pd_15 : parseMethodDescriptor "(Ljava/math/BigInteger;ZZI)Ljava/math/BigInteger;" = some ⟨[(.object "java/math/BigInteger"), .boolean, .boolean, .int], some (.object "java/math/BigInteger")⟩ := by decide +kernel
theorem d7_8 : Dc jdk_2097_method_40_code 8 (.areturn) 1 9 := ⟨by decide +kernel, rfl⟩
theorem rMul (l : Launch) {Z : State} {a0 : Array Value} (hw : ∀ d ∈ tables_1, d.before a0 Z = true) {h : Heap} (hE : Ext Z.heap h) (xx : Addr) (yy : Addr) (mx my : Addr) (g1 n1 g2 n2 : Int32) (zr zm pc_ : Addr) (kp : ClassId) (vp : List Value) (SZR : Sta Z Z.heap "java/math/BigInteger" "ZERO" "Ljava/math/BigInteger;" (.ref zr)) (ZE : Exa Z Z.heap zr "java/math/BigInteger") (ZS : Fld Z Z.heap zr "java/math/BigInteger" "signum" "I" (.int (0 : Int32))) (ZM : Fld Z Z.heap zr "java/math/BigInteger" "mag" "[I" (.ref zm)) (ZV : IaS Z Z.heap zm 0) (SPC : Sta Z Z.heap "java/math/BigInteger" "posConst" "[Ljava/math/BigInteger;" (.ref pc_)) (VP : Arv Z Z.heap pc_ kp (.object "java/math/BigInteger") 17 vp .null) (PC : ∀ j : Nat, 1 ≤ j → j ≤ 16 → ∃ x mg : Addr, vp.getD j .null = .ref x ∧ Exa Z Z.heap x "java/math/BigInteger" ∧ Fld Z Z.heap x "java/math/BigInteger" "signum" "I" (.int (1 : Int32)) ∧ Fld Z Z.heap x "java/math/BigInteger" "mag" "[I" (.ref mg) ∧ IaS Z Z.heap mg 1) (Ex : Exa Z h xx "java/math/BigInteger") (Sx : Fld Z h xx "java/math/BigInteger" "signum" "I" (.int g1)) (Mx : Fld Z h xx "java/math/BigInteger" "mag" "[I" (.ref mx)) (Vx : IaS Z h mx n1) (Ey : Exa Z h yy "java/math/BigInteger") (Sy : Fld Z h yy "java/math/BigInteger" "signum" "I" (.int g2)) (My : Fld Z h yy "java/math/BigInteger" "mag" "[I" (.ref my)) (Vy : IaS Z h my n2) (s1 : g1 = 0 ∨ (g1 = 1 ∧ 1 ≤ n1.toInt)) (b1 : n1.toInt ≤ 2) (s2 : g2 = 0 ∨ (g2 = 1 ∧ 1 ≤ n2.toInt)) (b2 : n2.toInt ≤ 2) :
    Con l (⟨"java/math/BigInteger", "multiply", "(Ljava/math/BigInteger;)Ljava/math/BigInteger;"⟩ : MethodName) jdk_2097_method_40_code 2 (some (.object "java/math/BigInteger")) [] ({ frames := 6, cells := 3, slots := 40, locals := 144 } : Room) Z #[(.ref xx), (.ref yy)] h (fun v' h' => ∃ (x mg : Addr) (sg nn : Int32), v' = some (.ref x) ∧ Ext h h' ∧ Exa Z h' x "java/math/BigInteger" ∧ Fld Z h' x "java/math/BigInteger" "signum" "I" (.int sg) ∧ Fld Z h' x "java/math/BigInteger" "mag" "[I" (.ref mg) ∧ IaS Z h' mg nn ∧ (sg = 0 ∨ (sg = 1 ∧ 1 ≤ nn.toInt)) ∧ nn.toInt ≤ 5) := by
  refine con_of (plainFor_of_name pn_3) hE (fun m => ef_rMul m xx yy) ?_
  intro p e s m below meth c T0 C X0
  have C : Cx p s m meth c Z "java/math/BigInteger" "multiply" jdk_2097_method_40_code 2 (some (.object "java/math/BigInteger")) := C
  show Goes p e below _ T0 (mkF m 0 #[.val (.ref xx), .val (.ref yy)] [])
  rcases s2 with rfl | ⟨rfl, t2⟩
  · refine g_aloadN C X0 d7_0 rfl rfl ?_
    refine g_aloadN C X0 d7_1 rfl rfl ?_
    refine g_iconst 0 C X0 d7_2 rfl ?_
    refine g_iconst 0 C X0 d7_3 rfl ?_
    refine g_iconst 0 C X0 d7_4 rfl ?_
    refine g_private (argsL := [(.ref yy), (.int 0), (.int 0), (.int 0)]) (st := []) C X0 (wd hw 79 rfl) (wd hw 80 rfl) (mvT C.hZ (wd hw 82 rfl)) (wd hw 81 rfl) (wd hw 83 rfl) (by decide) Ex (pay_of (W' := 0) (rMz l hw X0.ext xx yy mx my g1 n1 n2 zr zm pc_ kp vp SZR ZE ZS ZM ZV SPC VP PC Ex Sx Mx Vx Ey Sy My Vy) C.hZ (wd hw 83 rfl) (wd hw 36 rfl) (by decide) (by decide)) pd_15 rfl rfl _ rfl (Nat.le_of_eq rfl) d7_5 (by decide) (by decide) (fun T548 h548 v548 q548 X548 => ?_)
    obtain ⟨x548, mg548, sg548, nn548, rfl, E548, EX548, FS548, FM548, VM548, hs548, hb548⟩ := q548
    show Goes p e below _ T548 (mkF m 8 #[.val (.ref xx), .val (.ref yy)] [(.ref x548)])
    have kp549 := (Keep.refl h []).ext E548
    exact g_retA C X548 rfl rfl d7_8 (by decide) (by decide) ⟨x548, mg548, sg548, nn548, rfl, keep_ext kp549, EX548, FS548, FM548, VM548, hs548, hb548⟩
  · rcases s1 with rfl | ⟨rfl, t1⟩
    · refine g_aloadN C X0 d7_0 rfl rfl ?_
      refine g_aloadN C X0 d7_1 rfl rfl ?_
      refine g_iconst 0 C X0 d7_2 rfl ?_
      refine g_iconst 0 C X0 d7_3 rfl ?_
      refine g_iconst 0 C X0 d7_4 rfl ?_
      refine g_private (argsL := [(.ref yy), (.int 0), (.int 0), (.int 0)]) (st := []) C X0 (wd hw 79 rfl) (wd hw 80 rfl) (mvT C.hZ (wd hw 82 rfl)) (wd hw 81 rfl) (wd hw 83 rfl) (by decide) Ex (pay_of (W' := 0) (rMy l hw X0.ext xx yy mx my 0 n1 n2 zr zm pc_ kp vp SZR ZE ZS ZM ZV SPC VP PC Ex Sx Mx Vx Ey Sy My Vy) C.hZ (wd hw 83 rfl) (wd hw 36 rfl) (by decide) (by decide)) pd_15 rfl rfl _ rfl (Nat.le_of_eq rfl) d7_5 (by decide) (by decide) (fun T550 h550 v550 q550 X550 => ?_)
      obtain ⟨x550, mg550, sg550, nn550, rfl, E550, EX550, FS550, FM550, VM550, hs550, hb550⟩ := q550
      show Goes p e below _ T550 (mkF m 8 #[.val (.ref xx), .val (.ref yy)] [(.ref x550)])
      have kp551 := (Keep.refl h []).ext E550
      exact g_retA C X550 rfl rfl d7_8 (by decide) (by decide) ⟨x550, mg550, sg550, nn550, rfl, keep_ext kp551, EX550, FS550, FM550, VM550, hs550, hb550⟩
    · rcases own_12 t1 b1 with rfl | rfl
      · rcases own_12 t2 b2 with rfl | rfl
        · skip
          refine g_aloadN C X0 d7_0 rfl rfl ?_
          refine g_aloadN C X0 d7_1 rfl rfl ?_
          refine g_iconst 0 C X0 d7_2 rfl ?_
          refine g_iconst 0 C X0 d7_3 rfl ?_
          refine g_iconst 0 C X0 d7_4 rfl ?_
          refine g_private (argsL := [(.ref yy), (.int 0), (.int 0), (.int 0)]) (st := []) C X0 (wd hw 79 rfl) (wd hw 80 rfl) (mvT C.hZ (wd hw 82 rfl)) (wd hw 81 rfl) (wd hw 83 rfl) (by decide) Ex (pay_of (W' := 0) (rM11 l hw X0.ext xx yy mx my Ex Sx Mx Vx Ey Sy My Vy) C.hZ (wd hw 83 rfl) (wd hw 36 rfl) (by decide) (by decide)) pd_15 rfl rfl _ rfl (Nat.le_of_eq rfl) d7_5 (by decide) (by decide) (fun T552 h552 v552 q552 X552 => ?_)
          obtain ⟨x552, mg552, sg552, nn552, rfl, E552, EX552, FS552, FM552, VM552, hs552, hb552⟩ := q552
          show Goes p e below _ T552 (mkF m 8 #[.val (.ref xx), .val (.ref yy)] [(.ref x552)])
          have kp553 := (Keep.refl h []).ext E552
          exact g_retA C X552 rfl rfl d7_8 (by decide) (by decide) ⟨x552, mg552, sg552, nn552, rfl, keep_ext kp553, EX552, FS552, FM552, VM552, hs552, hb552⟩
        · skip
          refine g_aloadN C X0 d7_0 rfl rfl ?_
          refine g_aloadN C X0 d7_1 rfl rfl ?_
          refine g_iconst 0 C X0 d7_2 rfl ?_
          refine g_iconst 0 C X0 d7_3 rfl ?_
          refine g_iconst 0 C X0 d7_4 rfl ?_
          refine g_private (argsL := [(.ref yy), (.int 0), (.int 0), (.int 0)]) (st := []) C X0 (wd hw 79 rfl) (wd hw 80 rfl) (mvT C.hZ (wd hw 82 rfl)) (wd hw 81 rfl) (wd hw 83 rfl) (by decide) Ex (pay_of (W' := 0) (rM12 l hw X0.ext xx yy mx my Ex Sx Mx Vx Ey Sy My Vy) C.hZ (wd hw 83 rfl) (wd hw 36 rfl) (by decide) (by decide)) pd_15 rfl rfl _ rfl (Nat.le_of_eq rfl) d7_5 (by decide) (by decide) (fun T554 h554 v554 q554 X554 => ?_)
          obtain ⟨x554, mg554, sg554, nn554, rfl, E554, EX554, FS554, FM554, VM554, hs554, hb554⟩ := q554
          show Goes p e below _ T554 (mkF m 8 #[.val (.ref xx), .val (.ref yy)] [(.ref x554)])
          have kp555 := (Keep.refl h []).ext E554
          exact g_retA C X554 rfl rfl d7_8 (by decide) (by decide) ⟨x554, mg554, sg554, nn554, rfl, keep_ext kp555, EX554, FS554, FM554, VM554, hs554, hb554⟩
      · rcases own_12 t2 b2 with rfl | rfl
        · skip
          refine g_aloadN C X0 d7_0 rfl rfl ?_
          refine g_aloadN C X0 d7_1 rfl rfl ?_
          refine g_iconst 0 C X0 d7_2 rfl ?_
          refine g_iconst 0 C X0 d7_3 rfl ?_
          refine g_iconst 0 C X0 d7_4 rfl ?_
          refine g_private (argsL := [(.ref yy), (.int 0), (.int 0), (.int 0)]) (st := []) C X0 (wd hw 79 rfl) (wd hw 80 rfl) (mvT C.hZ (wd hw 82 rfl)) (wd hw 81 rfl) (wd hw 83 rfl) (by decide) Ex (pay_of (W' := 0) (rM21 l hw X0.ext xx yy mx my Ex Sx Mx Vx Ey Sy My Vy) C.hZ (wd hw 83 rfl) (wd hw 36 rfl) (by decide) (by decide)) pd_15 rfl rfl _ rfl (Nat.le_of_eq rfl) d7_5 (by decide) (by decide) (fun T556 h556 v556 q556 X556 => ?_)
          obtain ⟨x556, mg556, sg556, nn556, rfl, E556, EX556, FS556, FM556, VM556, hs556, hb556⟩ := q556
          show Goes p e below _ T556 (mkF m 8 #[.val (.ref xx), .val (.ref yy)] [(.ref x556)])
          have kp557 := (Keep.refl h []).ext E556
          exact g_retA C X556 rfl rfl d7_8 (by decide) (by decide) ⟨x556, mg556, sg556, nn556, rfl, keep_ext kp557, EX556, FS556, FM556, VM556, hs556, hb556⟩
        · skip
          refine g_aloadN C X0 d7_0 rfl rfl ?_
          refine g_aloadN C X0 d7_1 rfl rfl ?_
          refine g_iconst 0 C X0 d7_2 rfl ?_
          refine g_iconst 0 C X0 d7_3 rfl ?_
          refine g_iconst 0 C X0 d7_4 rfl ?_
          refine g_private (argsL := [(.ref yy), (.int 0), (.int 0), (.int 0)]) (st := []) C X0 (wd hw 79 rfl) (wd hw 80 rfl) (mvT C.hZ (wd hw 82 rfl)) (wd hw 81 rfl) (wd hw 83 rfl) (by decide) Ex (pay_of (W' := 0) (rM22 l hw X0.ext xx yy mx my Ex Sx Mx Vx Ey Sy My Vy) C.hZ (wd hw 83 rfl) (wd hw 36 rfl) (by decide) (by decide)) pd_15 rfl rfl _ rfl (Nat.le_of_eq rfl) d7_5 (by decide) (by decide) (fun T558 h558 v558 q558 X558 => ?_)
          obtain ⟨x558, mg558, sg558, nn558, rfl, E558, EX558, FS558, FM558, VM558, hs558, hb558⟩ := q558
          show Goes p e below _ T558 (mkF m 8 #[.val (.ref xx), .val (.ref yy)] [(.ref x558)])
          have kp559 := (Keep.refl h []).ext E558
          exact g_retA C X558 rfl rfl d7_8 (by decide) (by decide) ⟨x558, mg558, sg558, nn558, rfl, keep_ext kp559, EX558, FS558, FM558, VM558, hs558, hb558⟩
theorem d18_178 : Dc jdk_2097_method_35_code 178 (.iload 7) 2 180 := ⟨by decide +kernel, rfl⟩
theorem d18_180 : Dj jdk_2097_method_35_code 180 (.ifCond .eq 32) 32 3 183 212 := ⟨by decide +kernel, rfl, by decide, by decide⟩
theorem d18_212 : Dc jdk_2097_method_35_code 212 (.aload 4) 2 214 := ⟨by decide +kernel, rfl⟩
theorem d18_214 : Dc jdk_2097_method_35_code 214 (.areturn) 1 215 := ⟨by decide +kernel, rfl⟩
theorem d18_183 : Dc jdk_2097_method_35_code 183 (.aload 4) 2 185 := ⟨by decide +kernel, rfl⟩
theorem d18_185 : Dc jdk_2097_method_35_code 185 (.arraylength) 1 186 := ⟨by decide +kernel, rfl⟩
theorem d18_186 : Dc jdk_2097_method_35_code 186 (.iconst 1) 1 187 := ⟨by decide +kernel, rfl⟩
theorem d18_187 : Dc jdk_2097_method_35_code 187 (.iadd) 1 188 := ⟨by decide +kernel, rfl⟩
theorem d18_188 : Dc jdk_2097_method_35_code 188 (.newarray .int) 2 190 := ⟨by decide +kernel, rfl⟩
theorem d18_190 : Dc jdk_2097_method_35_code 190 (.astore 8) 2 192 := ⟨by decide +kernel, rfl⟩
theorem d18_192 : Dc jdk_2097_method_35_code 192 (.aload 4) 2 194 := ⟨by decide +kernel, rfl⟩
theorem d18_194 : Dc jdk_2097_method_35_code 194 (.iconst 0) 1 195 := ⟨by decide +kernel, rfl⟩
theorem d18_195 : Dc jdk_2097_method_35_code 195 (.aload 8) 2 197 := ⟨by decide +kernel, rfl⟩
theorem d18_197 : Dc jdk_2097_method_35_code 197 (.iconst 1) 1 198 := ⟨by decide +kernel, rfl⟩
theorem d18_198 : Dc jdk_2097_method_35_code 198 (.aload 4) 2 200 := ⟨by decide +kernel, rfl⟩
theorem d18_200 : Dc jdk_2097_method_35_code 200 (.arraylength) 1 201 := ⟨by decide +kernel, rfl⟩
theorem d18_201 : Dc jdk_2097_method_35_code 201 (.invokestatic 388) 3 204 := ⟨by decide +kernel, rfl⟩
theorem d18_204 : Dc jdk_2097_method_35_code 204 (.aload 8) 2 206 := ⟨by decide +kernel, rfl⟩
theorem d18_206 : Dc jdk_2097_method_35_code 206 (.iconst 0) 1 207 := ⟨by decide +kernel, rfl⟩
theorem d18_207 : Dc jdk_2097_method_35_code 207 (.iconst 1) 1 208 := ⟨by decide +kernel, rfl⟩
theorem d18_208 : Dc jdk_2097_method_35_code 208 (.iastore) 1 209 := ⟨by decide +kernel, rfl⟩
theorem d18_209 : Dc jdk_2097_method_35_code 209 (.aload 8) 2 211 := ⟨by decide +kernel, rfl⟩
theorem d18_211 : Dc jdk_2097_method_35_code 211 (.areturn) 1 212 := ⟨by decide +kernel, rfl⟩
theorem adE {p : Program} {l : Launch} {e : Env} {s : State} {m : MethodId} {A : Array Value} {below : List Frame} {meth : Method} {c : Code} {Z : State} {a0 : Array Value} (hw : ∀ d ∈ tables_1, d.before a0 Z = true) {T0 : State} {h : Heap} {xa ya rs : Addr} {nx ny : Int32} {h0 : Heap} {xi yi cr : Int32} {su : Int64} (C : Cx p s m meth c Z "java/math/BigInteger" "add" jdk_2097_method_35_code 9 (some (.array .int))) (X0 : St p l e ({ frames := 1, cells := 2, slots := 40, locals := 24 } : Room) s m A below meth c Z T0 h 1 20) (VX : IaS Z h xa nx) (VY : IaS Z h ya ny) (VR : Ia Z h rs nx) (nr : Z.heap.size ≤ rs) (hr : h0.size ≤ rs) (e1 : xa ≠ rs) (e2 : ya ≠ rs) (KP : Keep h0 h []) (y1 : 1 ≤ ny.toInt) (y2 : ny.toInt ≤ nx.toInt) (y3 : nx.toInt ≤ 18) :
    Goes p e below (EndW Z s 2 40 (fun v' h' => ∃ (br : Addr) (L : Int32), v' = some (.ref br) ∧ Ext h0 h' ∧ IaS Z h' br L ∧ 1 ≤ L.toInt ∧ L.toInt ≤ nx.toInt + 1)) T0 (mkF m 178 #[.val (.ref xa), .val (.ref ya), .val (.int xi), .val (.int yi), .val (.ref rs), .val (.long su), .second, .val (.int cr), .unset] []) := by
  have c1 : (1 : Int32).toInt = 1 := rfl
  have a1 := own_add nx 1 (by omega) (by omega)
  refine g_iload C X0 d18_178 rfl ?_
  refine g_if (h0_eq _) C X0 d18_180 (fun c180_560 => ?_) (fun c180_560 => ?_)
  · refine g_aload C X0 d18_212 rfl rfl ?_
    exact g_retA C X0 rfl rfl d18_214 (by decide) (by decide) ⟨rs, nx, rfl, keep_ext KP, Ia.toS VR, by omega, by omega⟩
  · refine g_aload C X0 d18_183 rfl rfl ?_
    refine g_arraylengthI C X0 (Ia.toS VR) d18_185 ?_
    refine g_iconst 1 C X0 d18_186 rfl ?_
    refine g_iadd C X0 d18_187 ?_
    refine g_newarrayI C X0 (wd hw 97 rfl) d18_188 (own_nn (by omega)) 20 (by have := own_tn (x := nx + 1) (by omega); omega) (by decide) (by decide) (by decide) (fun T561 h561 b561 g_b561 n_b561 X561 E561 V561 => ?_)
    have lt562 : xa < b561 := by rw [g_b561]; exact IaS.lt VX
    have lt563 : ya < b561 := by rw [g_b561]; exact IaS.lt VY
    have lt564 : rs < b561 := by rw [g_b561]; exact Ia.lt VR
    refine g_astore C X561 d18_190 rfl (l' := #[.val (.ref xa), .val (.ref ya), .val (.int xi), .val (.int yi), .val (.ref rs), .val (.long su), .second, .val (.int cr), .val (.ref b561)]) rfl ?_
    refine g_aload C X561 d18_192 rfl rfl ?_
    refine g_iconst 0 C X561 d18_194 rfl ?_
    refine g_aload C X561 d18_195 rfl rfl ?_
    refine g_iconst 1 C X561 d18_197 rfl ?_
    refine g_aload C X561 d18_198 rfl rfl ?_
    have f565 := (Ia.ext VR E561)
    refine g_arraylengthI C X561 (Ia.toS f565) d18_200 ?_
    refine g_arraycopyI C X561 (wd hw 176 rfl) (wd hw 116 rfl) (wd hw 114 rfl) (wd hw 115 rfl) (Ia.toS f565) V561 (by decide) (by decide) (by omega) (by rw [show (0 : Int32).toInt = 0 from rfl]; omega) (by omega) n_b561 rfl d18_201 (by decide) 0 (Nat.le_of_eq rfl) (by decide) (fun T566 h566 X566 K566 V566 => ?_)
    show Goes p e below _ T566 (mkF m 204 #[.val (.ref xa), .val (.ref ya), .val (.int xi), .val (.int yi), .val (.ref rs), .val (.long su), .second, .val (.int cr), .val (.ref b561)] [])
    refine g_aload C X566 d18_204 rfl rfl ?_
    refine g_iconst 0 C X566 d18_206 rfl ?_
    refine g_iconst 1 C X566 d18_207 rfl ?_
    refine g_iastoreI C X566 V566 n_b561 d18_208 (by decide) (own_lt (by rw [show (0 : Int32).toInt = 0 from rfl]; omega)) (fun T567 h567 X567 W567 V567 => ?_)
    refine g_aload C X567 d18_209 rfl rfl ?_
    have sz568 : h.size ≤ b561 := by rw [g_b561]; exact (Keep.refl h []).1
    have kp569 := (Keep.refl h []).ext E561
    have kp570 := kp569.trans K566 (allS (Or.inr sz568) all0)
    have kp571 := kp570.wr W567 (Or.inr sz568)
    exact g_retA C X567 rfl rfl d18_211 (by decide) (by decide) ⟨b561, _, rfl, keep_ext (KP.trans kp571 all0), Ia.toS V567, by omega, by omega⟩
theorem d18_161 : Dc jdk_2097_method_35_code 161 (.iload_n 2) 1 162 := ⟨by decide +kernel, rfl⟩
theorem d18_162 : Dj jdk_2097_method_35_code 162 (.ifCond .le 16) 16 3 165 178 := ⟨by decide +kernel, rfl, by decide, by decide⟩
theorem d18_165 : Dc jdk_2097_method_35_code 165 (.aload 4) 2 167 := ⟨by decide +kernel, rfl⟩
theorem d18_167 : Dc jdk_2097_method_35_code 167 (.iinc 2 (-1)) 3 170 := ⟨by decide +kernel, rfl⟩
theorem d18_170 : Dc jdk_2097_method_35_code 170 (.iload_n 2) 1 171 := ⟨by decide +kernel, rfl⟩
theorem d18_171 : Dc jdk_2097_method_35_code 171 (.aload_n 0) 1 172 := ⟨by decide +kernel, rfl⟩
theorem d18_172 : Dc jdk_2097_method_35_code 172 (.iload_n 2) 1 173 := ⟨by decide +kernel, rfl⟩
theorem d18_173 : Dc jdk_2097_method_35_code 173 (.iaload) 1 174 := ⟨by decide +kernel, rfl⟩
theorem d18_174 : Dc jdk_2097_method_35_code 174 (.iastore) 1 175 := ⟨by decide +kernel, rfl⟩
theorem d18_175 : Dj jdk_2097_method_35_code 175 (.goto (-14)) (-14) 3 178 161 := ⟨by decide +kernel, rfl, by decide, by decide⟩
theorem adDT {p : Program} {l : Launch} {e : Env} {s : State} {m : MethodId} {A : Array Value} {below : List Frame} {meth : Method} {c : Code} {Z : State} {a0 : Array Value} (hw : ∀ d ∈ tables_1, d.before a0 Z = true) {T0 : State} {h : Heap} {W : Outcome → State → Prop} {xa ya rs : Addr} {nx ny : Int32} {h0 : Heap} {xi yi cr : Int32} {su : Int64} (C : Cx p s m meth c Z "java/math/BigInteger" "add" jdk_2097_method_35_code 9 (some (.array .int))) (X0 : St p l e ({ frames := 1, cells := 2, slots := 40, locals := 24 } : Room) s m A below meth c Z T0 h 1 20) (VX : IaS Z h xa nx) (VY : IaS Z h ya ny) (VR : Ia Z h rs nx) (nr : Z.heap.size ≤ rs) (hr : h0.size ≤ rs) (e1 : xa ≠ rs) (e2 : ya ≠ rs) (KP : Keep h0 h []) (y1 : 1 ≤ ny.toInt) (y2 : ny.toInt ≤ nx.toInt) (y3 : nx.toInt ≤ 18) (t0 : 0 < xi.toInt) (x1 : 0 ≤ xi.toInt) (x2 : xi.toInt ≤ nx.toInt)
    (K : ∀ (T' : State) (h' : Heap) , St p l e ({ frames := 1, cells := 2, slots := 40, locals := 24 } : Room) s m A below meth c Z T' h' 1 20 → Keep h0 h' [] → IaS Z h' xa nx → IaS Z h' ya ny → Ia Z h' rs nx → Goes p e below W T' (mkF m 161 #[.val (.ref xa), .val (.ref ya), .val (.int (xi + (-1 : Int32))), .val (.int yi), .val (.ref rs), .val (.long su), .second, .val (.int cr), .unset] [])) :
    Goes p e below W T0 (mkF m 161 #[.val (.ref xa), .val (.ref ya), .val (.int xi), .val (.int yi), .val (.ref rs), .val (.long su), .second, .val (.int cr), .unset] []) := by
  have p1 := own_dec xi (by omega)
  refine g_iloadN C X0 d18_161 rfl ?_
  refine g_ifn (h0_le _) C X0 d18_162 (fun q => absurd (own_lt (by rw [show (0 : Int32).toInt = 0 from rfl]; omega)) q) (fun _ => ?_)
  refine g_aload C X0 d18_165 rfl rfl ?_
  refine g_iinc (-1) C X0 d18_167 rfl rfl (l' := #[.val (.ref xa), .val (.ref ya), .val (.int (xi + (-1 : Int32))), .val (.int yi), .val (.ref rs), .val (.long su), .second, .val (.int cr), .unset]) rfl ?_
  refine g_iloadN C X0 d18_170 rfl ?_
  refine g_aloadN C X0 d18_171 rfl rfl ?_
  refine g_iloadN C X0 d18_172 rfl ?_
  refine g_ialoadI C X0 VX d18_173 (own_nn (by omega)) (own_lt (by omega)) (fun v572 => ?_)
  refine g_iastoreI C X0 VR nr d18_174 (own_nn (by omega)) (own_lt (by omega)) (fun T573 h573 X573 W573 V573 => ?_)
  refine g_goto C X573 d18_175 ?_
  have kp574 := (Keep.refl h [rs]).wr W573 (Or.inl (by simp))
  have f575 := (IaS.other VX W573 e1)
  have f576 := (IaS.other VY W573 e2)
  exact K T573 h573 X573 (KP.trans kp574 (allS (Or.inr hr) all0)) f575 f576 V573
theorem adDE {p : Program} {l : Launch} {e : Env} {s : State} {m : MethodId} {A : Array Value} {below : List Frame} {meth : Method} {c : Code} {Z : State} {a0 : Array Value} (hw : ∀ d ∈ tables_1, d.before a0 Z = true) {T0 : State} {h : Heap} {xa ya rs : Addr} {nx ny : Int32} {h0 : Heap} {xi yi cr : Int32} {su : Int64} (C : Cx p s m meth c Z "java/math/BigInteger" "add" jdk_2097_method_35_code 9 (some (.array .int))) (X0 : St p l e ({ frames := 1, cells := 2, slots := 40, locals := 24 } : Room) s m A below meth c Z T0 h 1 20) (VX : IaS Z h xa nx) (VY : IaS Z h ya ny) (VR : Ia Z h rs nx) (nr : Z.heap.size ≤ rs) (hr : h0.size ≤ rs) (e1 : xa ≠ rs) (e2 : ya ≠ rs) (KP : Keep h0 h []) (y1 : 1 ≤ ny.toInt) (y2 : ny.toInt ≤ nx.toInt) (y3 : nx.toInt ≤ 18) (t0 : xi.toInt ≤ 0) (x1 : 0 ≤ xi.toInt) (x2 : xi.toInt ≤ nx.toInt) :
    Goes p e below (EndW Z s 2 40 (fun v' h' => ∃ (br : Addr) (L : Int32), v' = some (.ref br) ∧ Ext h0 h' ∧ IaS Z h' br L ∧ 1 ≤ L.toInt ∧ L.toInt ≤ nx.toInt + 1)) T0 (mkF m 161 #[.val (.ref xa), .val (.ref ya), .val (.int xi), .val (.int yi), .val (.ref rs), .val (.long su), .second, .val (.int cr), .unset] []) := by
  refine g_iloadN C X0 d18_161 rfl ?_
  refine g_ifn (h0_le _) C X0 d18_162 (fun _ => ?_) (fun q => absurd q (own_nlt (by rw [show (0 : Int32).toInt = 0 from rfl]; omega)))
  exact adE hw C X0 VX VY VR nr hr e1 e2 KP y1 y2 y3
theorem adDL {p : Program} {l : Launch} {e : Env} {s : State} {m : MethodId} {A : Array Value} {below : List Frame} {meth : Method} {c : Code} {Z : State} {a0 : Array Value} (hw : ∀ d ∈ tables_1, d.before a0 Z = true) {xa ya rs : Addr} {nx ny : Int32} {h0 : Heap} (C : Cx p s m meth c Z "java/math/BigInteger" "add" jdk_2097_method_35_code 9 (some (.array .int))) (nr : Z.heap.size ≤ rs) (hr : h0.size ≤ rs) (e1 : xa ≠ rs) (e2 : ya ≠ rs) (y1 : 1 ≤ ny.toInt) (y2 : ny.toInt ≤ nx.toInt) (y3 : nx.toInt ≤ 18) (j : Nat) :
    ∀ {T0 : State} {h : Heap} {xi yi cr : Int32} {su : Int64} (X0 : St p l e ({ frames := 1, cells := 2, slots := 40, locals := 24 } : Room) s m A below meth c Z T0 h 1 20) (VX : IaS Z h xa nx) (VY : IaS Z h ya ny) (VR : Ia Z h rs nx) (KP : Keep h0 h []) (x1 : 0 ≤ xi.toInt) (x2 : xi.toInt ≤ nx.toInt) (hj : xi.toInt = (j : Int)), Goes p e below (EndW Z s 2 40 (fun v' h' => ∃ (br : Addr) (L : Int32), v' = some (.ref br) ∧ Ext h0 h' ∧ IaS Z h' br L ∧ 1 ≤ L.toInt ∧ L.toInt ≤ nx.toInt + 1)) T0 (mkF m 161 #[.val (.ref xa), .val (.ref ya), .val (.int xi), .val (.int yi), .val (.ref rs), .val (.long su), .second, .val (.int cr), .unset] []) := by
  induction j with
  | zero => intro T0 h xi yi cr su X0 VX VY VR KP x1 x2 hj; exact adDE hw C X0 VX VY VR nr hr e1 e2 KP y1 y2 y3 (by omega) x1 x2
  | succ j ih =>
    intro T0 h xi yi cr su X0 VX VY VR KP x1 x2 hj
    have p1 := own_dec xi (by omega)
    exact adDT hw C X0 VX VY VR nr hr e1 e2 KP y1 y2 y3 (by omega) x1 x2 fun T' h' X' KP' VX' VY' VR' => ih X' VX' VY' VR' KP' (by omega) (by omega) (by omega)
theorem d18_126 : Dc jdk_2097_method_35_code 126 (.iload_n 2) 1 127 := ⟨by decide +kernel, rfl⟩
theorem d18_127 : Dj jdk_2097_method_35_code 127 (.ifCond .le 34) 34 3 130 161 := ⟨by decide +kernel, rfl, by decide, by decide⟩
theorem d18_130 : Dc jdk_2097_method_35_code 130 (.iload 7) 2 132 := ⟨by decide +kernel, rfl⟩
theorem d18_132 : Dj jdk_2097_method_35_code 132 (.ifCond .eq 29) 29 3 135 161 := ⟨by decide +kernel, rfl, by decide, by decide⟩
theorem d18_135 : Dc jdk_2097_method_35_code 135 (.aload 4) 2 137 := ⟨by decide +kernel, rfl⟩
theorem d18_137 : Dc jdk_2097_method_35_code 137 (.iinc 2 (-1)) 3 140 := ⟨by decide +kernel, rfl⟩
theorem d18_140 : Dc jdk_2097_method_35_code 140 (.iload_n 2) 1 141 := ⟨by decide +kernel, rfl⟩
theorem d18_141 : Dc jdk_2097_method_35_code 141 (.aload_n 0) 1 142 := ⟨by decide +kernel, rfl⟩
theorem d18_142 : Dc jdk_2097_method_35_code 142 (.iload_n 2) 1 143 := ⟨by decide +kernel, rfl⟩
theorem d18_143 : Dc jdk_2097_method_35_code 143 (.iaload) 1 144 := ⟨by decide +kernel, rfl⟩
theorem d18_144 : Dc jdk_2097_method_35_code 144 (.iconst 1) 1 145 := ⟨by decide +kernel, rfl⟩
theorem d18_145 : Dc jdk_2097_method_35_code 145 (.iadd) 1 146 := ⟨by decide +kernel, rfl⟩
theorem d18_146 : Dc jdk_2097_method_35_code 146 (.dup_x2) 1 147 := ⟨by decide +kernel, rfl⟩
theorem d18_147 : Dc jdk_2097_method_35_code 147 (.iastore) 1 148 := ⟨by decide +kernel, rfl⟩
theorem d18_148 : Dj jdk_2097_method_35_code 148 (.ifCond .ne 7) 7 3 151 155 := ⟨by decide +kernel, rfl, by decide, by decide⟩
theorem d18_155 : Dc jdk_2097_method_35_code 155 (.iconst 0) 1 156 := ⟨by decide +kernel, rfl⟩
theorem d18_156 : Dc jdk_2097_method_35_code 156 (.istore 7) 2 158 := ⟨by decide +kernel, rfl⟩
theorem d18_158 : Dj jdk_2097_method_35_code 158 (.goto (-32)) (-32) 3 161 126 := ⟨by decide +kernel, rfl, by decide, by decide⟩
theorem d18_151 : Dc jdk_2097_method_35_code 151 (.iconst 1) 1 152 := ⟨by decide +kernel, rfl⟩
theorem d18_152 : Dj jdk_2097_method_35_code 152 (.goto 4) 4 3 155 156 := ⟨by decide +kernel, rfl, by decide, by decide⟩
theorem adCT {p : Program} {l : Launch} {e : Env} {s : State} {m : MethodId} {A : Array Value} {below : List Frame} {meth : Method} {c : Code} {Z : State} {a0 : Array Value} (hw : ∀ d ∈ tables_1, d.before a0 Z = true) {T0 : State} {h : Heap} {W : Outcome → State → Prop} {xa ya rs : Addr} {nx ny : Int32} {h0 : Heap} {xi yi cr : Int32} {su : Int64} (C : Cx p s m meth c Z "java/math/BigInteger" "add" jdk_2097_method_35_code 9 (some (.array .int))) (X0 : St p l e ({ frames := 1, cells := 2, slots := 40, locals := 24 } : Room) s m A below meth c Z T0 h 1 20) (VX : IaS Z h xa nx) (VY : IaS Z h ya ny) (VR : Ia Z h rs nx) (nr : Z.heap.size ≤ rs) (hr : h0.size ≤ rs) (e1 : xa ≠ rs) (e2 : ya ≠ rs) (KP : Keep h0 h []) (y1 : 1 ≤ ny.toInt) (y2 : ny.toInt ≤ nx.toInt) (y3 : nx.toInt ≤ 18) (t0 : 0 < xi.toInt) (t1 : ¬ cr = 0) (x1 : 0 ≤ xi.toInt) (x2 : xi.toInt ≤ nx.toInt)
    (K : ∀ (T' : State) (h' : Heap) (cr' : Int32), St p l e ({ frames := 1, cells := 2, slots := 40, locals := 24 } : Room) s m A below meth c Z T' h' 1 20 → Keep h0 h' [] → IaS Z h' xa nx → IaS Z h' ya ny → Ia Z h' rs nx → Goes p e below W T' (mkF m 126 #[.val (.ref xa), .val (.ref ya), .val (.int (xi + (-1 : Int32))), .val (.int yi), .val (.ref rs), .val (.long su), .second, .val (.int cr'), .unset] [])) :
    Goes p e below W T0 (mkF m 126 #[.val (.ref xa), .val (.ref ya), .val (.int xi), .val (.int yi), .val (.ref rs), .val (.long su), .second, .val (.int cr), .unset] []) := by
  have p1 := own_dec xi (by omega)
  refine g_iloadN C X0 d18_126 rfl ?_
  refine g_ifn (h0_le _) C X0 d18_127 (fun q => absurd (own_lt (by rw [show (0 : Int32).toInt = 0 from rfl]; omega)) q) (fun _ => ?_)
  refine g_iload C X0 d18_130 rfl ?_
  refine g_if (h0_eq _) C X0 d18_132 (fun q => absurd q t1) (fun _ => ?_)
  refine g_aload C X0 d18_135 rfl rfl ?_
  refine g_iinc (-1) C X0 d18_137 rfl rfl (l' := #[.val (.ref xa), .val (.ref ya), .val (.int (xi + (-1 : Int32))), .val (.int yi), .val (.ref rs), .val (.long su), .second, .val (.int cr), .unset]) rfl ?_
  refine g_iloadN C X0 d18_140 rfl ?_
  refine g_aloadN C X0 d18_141 rfl rfl ?_
  refine g_iloadN C X0 d18_142 rfl ?_
  refine g_ialoadI C X0 VX d18_143 (own_nn (by omega)) (own_lt (by omega)) (fun v577 => ?_)
  refine g_iconst 1 C X0 d18_144 rfl ?_
  refine g_iadd C X0 d18_145 ?_
  refine g_dup_x2 C X0 d18_146 rfl rfl rfl ?_
  refine g_iastoreI C X0 VR nr d18_147 (own_nn (by omega)) (own_lt (by omega)) (fun T578 h578 X578 W578 V578 => ?_)
  refine g_ifn (h0_ne _) C X578 d18_148 (fun c148_579 => ?_) (fun c148_579 => ?_)
  · refine g_iconst 0 C X578 d18_155 rfl ?_
    refine g_istore C X578 d18_156 (l' := #[.val (.ref xa), .val (.ref ya), .val (.int (xi + (-1 : Int32))), .val (.int yi), .val (.ref rs), .val (.long su), .second, .val (.int 0), .unset]) rfl ?_
    refine g_goto C X578 d18_158 ?_
    have kp580 := (Keep.refl h [rs]).wr W578 (Or.inl (by simp))
    have f581 := (IaS.other VX W578 e1)
    have f582 := (IaS.other VY W578 e2)
    exact K T578 h578 (0 : Int32) X578 (KP.trans kp580 (allS (Or.inr hr) all0)) f581 f582 V578
  · refine g_iconst 1 C X578 d18_151 rfl ?_
    refine g_goto C X578 d18_152 ?_
    refine g_istore C X578 d18_156 (l' := #[.val (.ref xa), .val (.ref ya), .val (.int (xi + (-1 : Int32))), .val (.int yi), .val (.ref rs), .val (.long su), .second, .val (.int 1), .unset]) rfl ?_
    refine g_goto C X578 d18_158 ?_
    have kp583 := (Keep.refl h [rs]).wr W578 (Or.inl (by simp))
    have f584 := (IaS.other VX W578 e1)
    have f585 := (IaS.other VY W578 e2)
    exact K T578 h578 (1 : Int32) X578 (KP.trans kp583 (allS (Or.inr hr) all0)) f584 f585 V578
theorem adC1 {p : Program} {l : Launch} {e : Env} {s : State} {m : MethodId} {A : Array Value} {below : List Frame} {meth : Method} {c : Code} {Z : State} {a0 : Array Value} (hw : ∀ d ∈ tables_1, d.before a0 Z = true) {T0 : State} {h : Heap} {xa ya rs : Addr} {nx ny : Int32} {h0 : Heap} {xi yi cr : Int32} {su : Int64} (C : Cx p s m meth c Z "java/math/BigInteger" "add" jdk_2097_method_35_code 9 (some (.array .int))) (X0 : St p l e ({ frames := 1, cells := 2, slots := 40, locals := 24 } : Room) s m A below meth c Z T0 h 1 20) (VX : IaS Z h xa nx) (VY : IaS Z h ya ny) (VR : Ia Z h rs nx) (nr : Z.heap.size ≤ rs) (hr : h0.size ≤ rs) (e1 : xa ≠ rs) (e2 : ya ≠ rs) (KP : Keep h0 h []) (y1 : 1 ≤ ny.toInt) (y2 : ny.toInt ≤ nx.toInt) (y3 : nx.toInt ≤ 18) (t0 : xi.toInt ≤ 0) (x1 : 0 ≤ xi.toInt) (x2 : xi.toInt ≤ nx.toInt) :
    Goes p e below (EndW Z s 2 40 (fun v' h' => ∃ (br : Addr) (L : Int32), v' = some (.ref br) ∧ Ext h0 h' ∧ IaS Z h' br L ∧ 1 ≤ L.toInt ∧ L.toInt ≤ nx.toInt + 1)) T0 (mkF m 126 #[.val (.ref xa), .val (.ref ya), .val (.int xi), .val (.int yi), .val (.ref rs), .val (.long su), .second, .val (.int cr), .unset] []) := by
  refine g_iloadN C X0 d18_126 rfl ?_
  refine g_ifn (h0_le _) C X0 d18_127 (fun _ => ?_) (fun q => absurd q (own_nlt (by rw [show (0 : Int32).toInt = 0 from rfl]; omega)))
  exact adDL hw C nr hr e1 e2 y1 y2 y3 xi.toInt.toNat X0 VX VY VR KP x1 x2 (by omega)
theorem adC2 {p : Program} {l : Launch} {e : Env} {s : State} {m : MethodId} {A : Array Value} {below : List Frame} {meth : Method} {c : Code} {Z : State} {a0 : Array Value} (hw : ∀ d ∈ tables_1, d.before a0 Z = true) {T0 : State} {h : Heap} {xa ya rs : Addr} {nx ny : Int32} {h0 : Heap} {xi yi cr : Int32} {su : Int64} (C : Cx p s m meth c Z "java/math/BigInteger" "add" jdk_2097_method_35_code 9 (some (.array .int))) (X0 : St p l e ({ frames := 1, cells := 2, slots := 40, locals := 24 } : Room) s m A below meth c Z T0 h 1 20) (VX : IaS Z h xa nx) (VY : IaS Z h ya ny) (VR : Ia Z h rs nx) (nr : Z.heap.size ≤ rs) (hr : h0.size ≤ rs) (e1 : xa ≠ rs) (e2 : ya ≠ rs) (KP : Keep h0 h []) (y1 : 1 ≤ ny.toInt) (y2 : ny.toInt ≤ nx.toInt) (y3 : nx.toInt ≤ 18) (t0 : 0 < xi.toInt) (t1 : cr = 0) (x1 : 0 ≤ xi.toInt) (x2 : xi.toInt ≤ nx.toInt) :
    Goes p e below (EndW Z s 2 40 (fun v' h' => ∃ (br : Addr) (L : Int32), v' = some (.ref br) ∧ Ext h0 h' ∧ IaS Z h' br L ∧ 1 ≤ L.toInt ∧ L.toInt ≤ nx.toInt + 1)) T0 (mkF m 126 #[.val (.ref xa), .val (.ref ya), .val (.int xi), .val (.int yi), .val (.ref rs), .val (.long su), .second, .val (.int cr), .unset] []) := by
  refine g_iloadN C X0 d18_126 rfl ?_
  refine g_ifn (h0_le _) C X0 d18_127 (fun q => absurd (own_lt (by rw [show (0 : Int32).toInt = 0 from rfl]; omega)) q) (fun _ => ?_)
  refine g_iload C X0 d18_130 rfl ?_
  refine g_if (h0_eq _) C X0 d18_132 (fun _ => ?_) (fun q => absurd t1 q)
  exact adDL hw C nr hr e1 e2 y1 y2 y3 xi.toInt.toNat X0 VX VY VR KP x1 x2 (by omega)
theorem adCL {p : Program} {l : Launch} {e : Env} {s : State} {m : MethodId} {A : Array Value} {below : List Frame} {meth : Method} {c : Code} {Z : State} {a0 : Array Value} (hw : ∀ d ∈ tables_1, d.before a0 Z = true) {xa ya rs : Addr} {nx ny : Int32} {h0 : Heap} (C : Cx p s m meth c Z "java/math/BigInteger" "add" jdk_2097_method_35_code 9 (some (.array .int))) (nr : Z.heap.size ≤ rs) (hr : h0.size ≤ rs) (e1 : xa ≠ rs) (e2 : ya ≠ rs) (y1 : 1 ≤ ny.toInt) (y2 : ny.toInt ≤ nx.toInt) (y3 : nx.toInt ≤ 18) (j : Nat) :
    ∀ {T0 : State} {h : Heap} {xi yi cr : Int32} {su : Int64} (X0 : St p l e ({ frames := 1, cells := 2, slots := 40, locals := 24 } : Room) s m A below meth c Z T0 h 1 20) (VX : IaS Z h xa nx) (VY : IaS Z h ya ny) (VR : Ia Z h rs nx) (KP : Keep h0 h []) (x1 : 0 ≤ xi.toInt) (x2 : xi.toInt ≤ nx.toInt) (hj : xi.toInt = (j : Int)), Goes p e below (EndW Z s 2 40 (fun v' h' => ∃ (br : Addr) (L : Int32), v' = some (.ref br) ∧ Ext h0 h' ∧ IaS Z h' br L ∧ 1 ≤ L.toInt ∧ L.toInt ≤ nx.toInt + 1)) T0 (mkF m 126 #[.val (.ref xa), .val (.ref ya), .val (.int xi), .val (.int yi), .val (.ref rs), .val (.long su), .second, .val (.int cr), .unset] []) := by
  induction j with
  | zero => intro T0 h xi yi cr su X0 VX VY VR KP x1 x2 hj; exact adC1 hw C X0 VX VY VR nr hr e1 e2 KP y1 y2 y3 (by omega) x1 x2
  | succ j ih =>
    intro T0 h xi yi cr su X0 VX VY VR KP x1 x2 hj
    have p1 := own_dec xi (by omega)
    by_cases t1 : cr = 0
    · exact adC2 hw C X0 VX VY VR nr hr e1 e2 KP y1 y2 y3 (by omega) t1 x1 x2
    · exact adCT hw C X0 VX VY VR nr hr e1 e2 KP y1 y2 y3 (by omega) t1 x1 x2 fun T' h' cr' X' KP' VX' VY' VR' => ih X' VX' VY' VR' KP' (by omega) (by omega) (by omega)
theorem d18_109 : Dc jdk_2097_method_35_code 109 (.lload 5) 2 111 := ⟨by decide +kernel, rfl⟩
theorem d18_111 : Dc jdk_2097_method_35_code 111 (.bipush 32) 2 113 := ⟨by decide +kernel, rfl⟩
theorem d18_113 : Dc jdk_2097_method_35_code 113 (.lushr) 1 114 := ⟨by decide +kernel, rfl⟩
theorem d18_114 : Dc jdk_2097_method_35_code 114 (.lconst 0) 1 115 := ⟨by decide +kernel, rfl⟩
theorem d18_115 : Dc jdk_2097_method_35_code 115 (.lcmp) 1 116 := ⟨by decide +kernel, rfl⟩
theorem d18_116 : Dj jdk_2097_method_35_code 116 (.ifCond .eq 7) 7 3 119 123 := ⟨by decide +kernel, rfl, by decide, by decide⟩
theorem d18_123 : Dc jdk_2097_method_35_code 123 (.iconst 0) 1 124 := ⟨by decide +kernel, rfl⟩
theorem d18_124 : Dc jdk_2097_method_35_code 124 (.istore 7) 2 126 := ⟨by decide +kernel, rfl⟩
theorem d18_119 : Dc jdk_2097_method_35_code 119 (.iconst 1) 1 120 := ⟨by decide +kernel, rfl⟩
theorem d18_120 : Dj jdk_2097_method_35_code 120 (.goto 4) 4 3 123 124 := ⟨by decide +kernel, rfl, by decide, by decide⟩
theorem adB {p : Program} {l : Launch} {e : Env} {s : State} {m : MethodId} {A : Array Value} {below : List Frame} {meth : Method} {c : Code} {Z : State} {a0 : Array Value} (hw : ∀ d ∈ tables_1, d.before a0 Z = true) {T0 : State} {h : Heap} {xa ya rs : Addr} {nx ny : Int32} {h0 : Heap} {xi yi : Int32} {su : Int64} (C : Cx p s m meth c Z "java/math/BigInteger" "add" jdk_2097_method_35_code 9 (some (.array .int))) (X0 : St p l e ({ frames := 1, cells := 2, slots := 40, locals := 24 } : Room) s m A below meth c Z T0 h 1 20) (VX : IaS Z h xa nx) (VY : IaS Z h ya ny) (VR : Ia Z h rs nx) (nr : Z.heap.size ≤ rs) (hr : h0.size ≤ rs) (e1 : xa ≠ rs) (e2 : ya ≠ rs) (KP : Keep h0 h []) (y1 : 1 ≤ ny.toInt) (y2 : ny.toInt ≤ nx.toInt) (y3 : nx.toInt ≤ 18) (x1 : 0 ≤ xi.toInt) (x2 : xi.toInt ≤ nx.toInt) :
    Goes p e below (EndW Z s 2 40 (fun v' h' => ∃ (br : Addr) (L : Int32), v' = some (.ref br) ∧ Ext h0 h' ∧ IaS Z h' br L ∧ 1 ≤ L.toInt ∧ L.toInt ≤ nx.toInt + 1)) T0 (mkF m 109 #[.val (.ref xa), .val (.ref ya), .val (.int xi), .val (.int yi), .val (.ref rs), .val (.long su), .second, .unset, .unset] []) := by
  refine g_lload C X0 d18_109 rfl ?_
  refine g_bipush 32 C X0 d18_111 rfl ?_
  refine g_lushr C X0 d18_113 ?_
  refine g_lconst 0 C X0 d18_114 rfl ?_
  refine g_lcmp C X0 d18_115 ?_
  refine g_if (hL_eq _ _) C X0 d18_116 (fun c116_586 => ?_) (fun c116_586 => ?_)
  · refine g_iconst 0 C X0 d18_123 rfl ?_
    refine g_istore C X0 d18_124 (l' := #[.val (.ref xa), .val (.ref ya), .val (.int xi), .val (.int yi), .val (.ref rs), .val (.long su), .second, .val (.int 0), .unset]) rfl ?_
    exact adCL hw C nr hr e1 e2 y1 y2 y3 xi.toInt.toNat X0 VX VY VR KP x1 x2 (by omega)
  · refine g_iconst 1 C X0 d18_119 rfl ?_
    refine g_goto C X0 d18_120 ?_
    refine g_istore C X0 d18_124 (l' := #[.val (.ref xa), .val (.ref ya), .val (.int xi), .val (.int yi), .val (.ref rs), .val (.long su), .second, .val (.int 1), .unset]) rfl ?_
    exact adCL hw C nr hr e1 e2 y1 y2 y3 xi.toInt.toNat X0 VX VY VR KP x1 x2 (by omega)
theorem d18_64 : Dc jdk_2097_method_35_code 64 (.iload_n 3) 1 65 := ⟨by decide +kernel, rfl⟩
theorem d18_65 : Dj jdk_2097_method_35_code 65 (.ifCond .le 44) 44 3 68 109 := ⟨by decide +kernel, rfl, by decide, by decide⟩
theorem d18_68 : Dc jdk_2097_method_35_code 68 (.aload_n 0) 1 69 := ⟨by decide +kernel, rfl⟩
theorem d18_69 : Dc jdk_2097_method_35_code 69 (.iinc 2 (-1)) 3 72 := ⟨by decide +kernel, rfl⟩
theorem d18_72 : Dc jdk_2097_method_35_code 72 (.iload_n 2) 1 73 := ⟨by decide +kernel, rfl⟩
theorem d18_73 : Dc jdk_2097_method_35_code 73 (.iaload) 1 74 := ⟨by decide +kernel, rfl⟩
theorem d18_74 : Dc jdk_2097_method_35_code 74 (.i2l) 1 75 := ⟨by decide +kernel, rfl⟩
theorem d18_75 : Dc jdk_2097_method_35_code 75 (.ldc2_w 130) 3 78 := ⟨by decide +kernel, rfl⟩
theorem d18_78 : Dc jdk_2097_method_35_code 78 (.land) 1 79 := ⟨by decide +kernel, rfl⟩
theorem d18_79 : Dc jdk_2097_method_35_code 79 (.aload_n 1) 1 80 := ⟨by decide +kernel, rfl⟩
theorem d18_80 : Dc jdk_2097_method_35_code 80 (.iinc 3 (-1)) 3 83 := ⟨by decide +kernel, rfl⟩
theorem d18_83 : Dc jdk_2097_method_35_code 83 (.iload_n 3) 1 84 := ⟨by decide +kernel, rfl⟩
theorem d18_84 : Dc jdk_2097_method_35_code 84 (.iaload) 1 85 := ⟨by decide +kernel, rfl⟩
theorem d18_85 : Dc jdk_2097_method_35_code 85 (.i2l) 1 86 := ⟨by decide +kernel, rfl⟩
theorem d18_86 : Dc jdk_2097_method_35_code 86 (.ldc2_w 130) 3 89 := ⟨by decide +kernel, rfl⟩
theorem d18_89 : Dc jdk_2097_method_35_code 89 (.land) 1 90 := ⟨by decide +kernel, rfl⟩
theorem d18_90 : Dc jdk_2097_method_35_code 90 (.ladd) 1 91 := ⟨by decide +kernel, rfl⟩
theorem d18_91 : Dc jdk_2097_method_35_code 91 (.lload 5) 2 93 := ⟨by decide +kernel, rfl⟩
theorem d18_93 : Dc jdk_2097_method_35_code 93 (.bipush 32) 2 95 := ⟨by decide +kernel, rfl⟩
theorem d18_95 : Dc jdk_2097_method_35_code 95 (.lushr) 1 96 := ⟨by decide +kernel, rfl⟩
theorem d18_96 : Dc jdk_2097_method_35_code 96 (.ladd) 1 97 := ⟨by decide +kernel, rfl⟩
theorem d18_97 : Dc jdk_2097_method_35_code 97 (.lstore 5) 2 99 := ⟨by decide +kernel, rfl⟩
theorem d18_99 : Dc jdk_2097_method_35_code 99 (.aload 4) 2 101 := ⟨by decide +kernel, rfl⟩
theorem d18_101 : Dc jdk_2097_method_35_code 101 (.iload_n 2) 1 102 := ⟨by decide +kernel, rfl⟩
theorem d18_102 : Dc jdk_2097_method_35_code 102 (.lload 5) 2 104 := ⟨by decide +kernel, rfl⟩
theorem d18_104 : Dc jdk_2097_method_35_code 104 (.l2i) 1 105 := ⟨by decide +kernel, rfl⟩
theorem d18_105 : Dc jdk_2097_method_35_code 105 (.iastore) 1 106 := ⟨by decide +kernel, rfl⟩
theorem d18_106 : Dj jdk_2097_method_35_code 106 (.goto (-42)) (-42) 3 109 64 := ⟨by decide +kernel, rfl, by decide, by decide⟩
theorem adLT {p : Program} {l : Launch} {e : Env} {s : State} {m : MethodId} {A : Array Value} {below : List Frame} {meth : Method} {c : Code} {Z : State} {a0 : Array Value} (hw : ∀ d ∈ tables_1, d.before a0 Z = true) {T0 : State} {h : Heap} {W : Outcome → State → Prop} {xa ya rs : Addr} {nx ny : Int32} {h0 : Heap} {xi yi : Int32} {su : Int64} (C : Cx p s m meth c Z "java/math/BigInteger" "add" jdk_2097_method_35_code 9 (some (.array .int))) (X0 : St p l e ({ frames := 1, cells := 2, slots := 40, locals := 24 } : Room) s m A below meth c Z T0 h 1 20) (VX : IaS Z h xa nx) (VY : IaS Z h ya ny) (VR : Ia Z h rs nx) (nr : Z.heap.size ≤ rs) (hr : h0.size ≤ rs) (e1 : xa ≠ rs) (e2 : ya ≠ rs) (KP : Keep h0 h []) (y1 : 1 ≤ ny.toInt) (y2 : ny.toInt ≤ nx.toInt) (y3 : nx.toInt ≤ 18) (t0 : 0 < yi.toInt) (x0 : 0 ≤ yi.toInt) (x2 : yi.toInt ≤ ny.toInt) (x3 : xi.toInt - yi.toInt = nx.toInt - ny.toInt)
    (K : ∀ (T' : State) (h' : Heap) (su' : Int64), St p l e ({ frames := 1, cells := 2, slots := 40, locals := 24 } : Room) s m A below meth c Z T' h' 1 20 → Keep h0 h' [] → IaS Z h' xa nx → IaS Z h' ya ny → Ia Z h' rs nx → Goes p e below W T' (mkF m 64 #[.val (.ref xa), .val (.ref ya), .val (.int (xi + (-1 : Int32))), .val (.int (yi + (-1 : Int32))), .val (.ref rs), .val (.long su'), .second, .unset, .unset] [])) :
    Goes p e below W T0 (mkF m 64 #[.val (.ref xa), .val (.ref ya), .val (.int xi), .val (.int yi), .val (.ref rs), .val (.long su), .second, .unset, .unset] []) := by
  have p1 := own_dec xi (by omega)
  have p2 := own_dec yi (by omega)
  refine g_iloadN C X0 d18_64 rfl ?_
  refine g_ifn (h0_le _) C X0 d18_65 (fun q => absurd (own_lt (by rw [show (0 : Int32).toInt = 0 from rfl]; omega)) q) (fun _ => ?_)
  refine g_aloadN C X0 d18_68 rfl rfl ?_
  refine g_iinc (-1) C X0 d18_69 rfl rfl (l' := #[.val (.ref xa), .val (.ref ya), .val (.int (xi + (-1 : Int32))), .val (.int yi), .val (.ref rs), .val (.long su), .second, .unset, .unset]) rfl ?_
  refine g_iloadN C X0 d18_72 rfl ?_
  refine g_ialoadI C X0 VX d18_73 (own_nn (by omega)) (own_lt (by omega)) (fun v587 => ?_)
  refine g_i2l C X0 d18_74 ?_
  refine g_ldcJ C X0 (wd hw 98 rfl) d18_75 ?_
  refine g_land C X0 d18_78 ?_
  refine g_aloadN C X0 d18_79 rfl rfl ?_
  refine g_iinc (-1) C X0 d18_80 rfl rfl (l' := #[.val (.ref xa), .val (.ref ya), .val (.int (xi + (-1 : Int32))), .val (.int (yi + (-1 : Int32))), .val (.ref rs), .val (.long su), .second, .unset, .unset]) rfl ?_
  refine g_iloadN C X0 d18_83 rfl ?_
  refine g_ialoadI C X0 VY d18_84 (own_nn (by omega)) (own_lt (by omega)) (fun v588 => ?_)
  refine g_i2l C X0 d18_85 ?_
  refine g_ldcJ C X0 (wd hw 98 rfl) d18_86 ?_
  refine g_land C X0 d18_89 ?_
  refine g_ladd C X0 d18_90 ?_
  refine g_lload C X0 d18_91 rfl ?_
  refine g_bipush 32 C X0 d18_93 rfl ?_
  refine g_lushr C X0 d18_95 ?_
  refine g_ladd C X0 d18_96 ?_
  refine g_lstore C X0 d18_97 (l' := #[.val (.ref xa), .val (.ref ya), .val (.int (xi + (-1 : Int32))), .val (.int (yi + (-1 : Int32))), .val (.ref rs), .val (.long ((((v587.toInt64) &&& (4294967295 : Int64)) + ((v588.toInt64) &&& (4294967295 : Int64))) + ((su.toUInt64 >>> ((32 : Int32) &&& 0x3f).toInt64.toUInt64).toInt64))), .second, .unset, .unset]) rfl ?_
  refine g_aload C X0 d18_99 rfl rfl ?_
  refine g_iloadN C X0 d18_101 rfl ?_
  refine g_lload C X0 d18_102 rfl ?_
  refine g_l2i C X0 d18_104 ?_
  refine g_iastoreI C X0 VR nr d18_105 (own_nn (by omega)) (own_lt (by omega)) (fun T589 h589 X589 W589 V589 => ?_)
  refine g_goto C X589 d18_106 ?_
  have kp590 := (Keep.refl h [rs]).wr W589 (Or.inl (by simp))
  have f591 := (IaS.other VX W589 e1)
  have f592 := (IaS.other VY W589 e2)
  exact K T589 h589 ((((v587.toInt64) &&& (4294967295 : Int64)) + ((v588.toInt64) &&& (4294967295 : Int64))) + ((su.toUInt64 >>> ((32 : Int32) &&& 0x3f).toInt64.toUInt64).toInt64)) X589 (KP.trans kp590 (allS (Or.inr hr) all0)) f591 f592 V589
theorem adLE {p : Program} {l : Launch} {e : Env} {s : State} {m : MethodId} {A : Array Value} {below : List Frame} {meth : Method} {c : Code} {Z : State} {a0 : Array Value} (hw : ∀ d ∈ tables_1, d.before a0 Z = true) {T0 : State} {h : Heap} {xa ya rs : Addr} {nx ny : Int32} {h0 : Heap} {xi yi : Int32} {su : Int64} (C : Cx p s m meth c Z "java/math/BigInteger" "add" jdk_2097_method_35_code 9 (some (.array .int))) (X0 : St p l e ({ frames := 1, cells := 2, slots := 40, locals := 24 } : Room) s m A below meth c Z T0 h 1 20) (VX : IaS Z h xa nx) (VY : IaS Z h ya ny) (VR : Ia Z h rs nx) (nr : Z.heap.size ≤ rs) (hr : h0.size ≤ rs) (e1 : xa ≠ rs) (e2 : ya ≠ rs) (KP : Keep h0 h []) (y1 : 1 ≤ ny.toInt) (y2 : ny.toInt ≤ nx.toInt) (y3 : nx.toInt ≤ 18) (t0 : yi.toInt ≤ 0) (x0 : 0 ≤ yi.toInt) (x2 : yi.toInt ≤ ny.toInt) (x3 : xi.toInt - yi.toInt = nx.toInt - ny.toInt) :
    Goes p e below (EndW Z s 2 40 (fun v' h' => ∃ (br : Addr) (L : Int32), v' = some (.ref br) ∧ Ext h0 h' ∧ IaS Z h' br L ∧ 1 ≤ L.toInt ∧ L.toInt ≤ nx.toInt + 1)) T0 (mkF m 64 #[.val (.ref xa), .val (.ref ya), .val (.int xi), .val (.int yi), .val (.ref rs), .val (.long su), .second, .unset, .unset] []) := by
  refine g_iloadN C X0 d18_64 rfl ?_
  refine g_ifn (h0_le _) C X0 d18_65 (fun _ => ?_) (fun q => absurd q (own_nlt (by rw [show (0 : Int32).toInt = 0 from rfl]; omega)))
  exact adB hw C X0 VX VY VR nr hr e1 e2 KP y1 y2 y3 (by omega) (by omega)
theorem adLL {p : Program} {l : Launch} {e : Env} {s : State} {m : MethodId} {A : Array Value} {below : List Frame} {meth : Method} {c : Code} {Z : State} {a0 : Array Value} (hw : ∀ d ∈ tables_1, d.before a0 Z = true) {xa ya rs : Addr} {nx ny : Int32} {h0 : Heap} (C : Cx p s m meth c Z "java/math/BigInteger" "add" jdk_2097_method_35_code 9 (some (.array .int))) (nr : Z.heap.size ≤ rs) (hr : h0.size ≤ rs) (e1 : xa ≠ rs) (e2 : ya ≠ rs) (y1 : 1 ≤ ny.toInt) (y2 : ny.toInt ≤ nx.toInt) (y3 : nx.toInt ≤ 18) (j : Nat) :
    ∀ {T0 : State} {h : Heap} {xi yi : Int32} {su : Int64} (X0 : St p l e ({ frames := 1, cells := 2, slots := 40, locals := 24 } : Room) s m A below meth c Z T0 h 1 20) (VX : IaS Z h xa nx) (VY : IaS Z h ya ny) (VR : Ia Z h rs nx) (KP : Keep h0 h []) (x0 : 0 ≤ yi.toInt) (x2 : yi.toInt ≤ ny.toInt) (x3 : xi.toInt - yi.toInt = nx.toInt - ny.toInt) (hj : yi.toInt = (j : Int)), Goes p e below (EndW Z s 2 40 (fun v' h' => ∃ (br : Addr) (L : Int32), v' = some (.ref br) ∧ Ext h0 h' ∧ IaS Z h' br L ∧ 1 ≤ L.toInt ∧ L.toInt ≤ nx.toInt + 1)) T0 (mkF m 64 #[.val (.ref xa), .val (.ref ya), .val (.int xi), .val (.int yi), .val (.ref rs), .val (.long su), .second, .unset, .unset] []) := by
  induction j with
  | zero => intro T0 h xi yi su X0 VX VY VR KP x0 x2 x3 hj; exact adLE hw C X0 VX VY VR nr hr e1 e2 KP y1 y2 y3 (by omega) x0 x2 x3
  | succ j ih =>
    intro T0 h xi yi su X0 VX VY VR KP x0 x2 x3 hj
    have p1 := own_dec xi (by omega)
    have p2 := own_dec yi (by omega)
    exact adLT hw C X0 VX VY VR nr hr e1 e2 KP y1 y2 y3 (by omega) x0 x2 x3 fun T' h' su' X' KP' VX' VY' VR' => ih X' VX' VY' VR' KP' (by omega) (by omega) (by omega) (by omega)
theorem d18_13 : Dc jdk_2097_method_35_code 13 (.aload_n 0) 1 14 := ⟨by decide +kernel, rfl⟩
theorem d18_14 : Dc jdk_2097_method_35_code 14 (.arraylength) 1 15 := ⟨by decide +kernel, rfl⟩
theorem d18_15 : Dc jdk_2097_method_35_code 15 (.istore_n 2) 1 16 := ⟨by decide +kernel, rfl⟩
theorem d18_16 : Dc jdk_2097_method_35_code 16 (.aload_n 1) 1 17 := ⟨by decide +kernel, rfl⟩
theorem d18_17 : Dc jdk_2097_method_35_code 17 (.arraylength) 1 18 := ⟨by decide +kernel, rfl⟩
theorem d18_18 : Dc jdk_2097_method_35_code 18 (.istore_n 3) 1 19 := ⟨by decide +kernel, rfl⟩
theorem d18_19 : Dc jdk_2097_method_35_code 19 (.iload_n 2) 1 20 := ⟨by decide +kernel, rfl⟩
theorem d18_20 : Dc jdk_2097_method_35_code 20 (.newarray .int) 2 22 := ⟨by decide +kernel, rfl⟩
theorem d18_22 : Dc jdk_2097_method_35_code 22 (.astore 4) 2 24 := ⟨by decide +kernel, rfl⟩
theorem d18_24 : Dc jdk_2097_method_35_code 24 (.lconst 0) 1 25 := ⟨by decide +kernel, rfl⟩
theorem d18_25 : Dc jdk_2097_method_35_code 25 (.lstore 5) 2 27 := ⟨by decide +kernel, rfl⟩
theorem d18_27 : Dc jdk_2097_method_35_code 27 (.iload_n 3) 1 28 := ⟨by decide +kernel, rfl⟩
theorem d18_28 : Dc jdk_2097_method_35_code 28 (.iconst 1) 1 29 := ⟨by decide +kernel, rfl⟩
theorem d18_29 : Dj jdk_2097_method_35_code 29 (.if_icmp .ne 35) 35 3 32 64 := ⟨by decide +kernel, rfl, by decide, by decide⟩
theorem d18_32 : Dc jdk_2097_method_35_code 32 (.aload_n 0) 1 33 := ⟨by decide +kernel, rfl⟩
theorem d18_33 : Dc jdk_2097_method_35_code 33 (.iinc 2 (-1)) 3 36 := ⟨by decide +kernel, rfl⟩
theorem d18_36 : Dc jdk_2097_method_35_code 36 (.iload_n 2) 1 37 := ⟨by decide +kernel, rfl⟩
theorem d18_37 : Dc jdk_2097_method_35_code 37 (.iaload) 1 38 := ⟨by decide +kernel, rfl⟩
theorem d18_38 : Dc jdk_2097_method_35_code 38 (.i2l) 1 39 := ⟨by decide +kernel, rfl⟩
theorem d18_39 : Dc jdk_2097_method_35_code 39 (.ldc2_w 130) 3 42 := ⟨by decide +kernel, rfl⟩
theorem d18_42 : Dc jdk_2097_method_35_code 42 (.land) 1 43 := ⟨by decide +kernel, rfl⟩
theorem d18_43 : Dc jdk_2097_method_35_code 43 (.aload_n 1) 1 44 := ⟨by decide +kernel, rfl⟩
theorem d18_44 : Dc jdk_2097_method_35_code 44 (.iconst 0) 1 45 := ⟨by decide +kernel, rfl⟩
theorem d18_45 : Dc jdk_2097_method_35_code 45 (.iaload) 1 46 := ⟨by decide +kernel, rfl⟩
theorem d18_46 : Dc jdk_2097_method_35_code 46 (.i2l) 1 47 := ⟨by decide +kernel, rfl⟩
theorem d18_47 : Dc jdk_2097_method_35_code 47 (.ldc2_w 130) 3 50 := ⟨by decide +kernel, rfl⟩
theorem d18_50 : Dc jdk_2097_method_35_code 50 (.land) 1 51 := ⟨by decide +kernel, rfl⟩
theorem d18_51 : Dc jdk_2097_method_35_code 51 (.ladd) 1 52 := ⟨by decide +kernel, rfl⟩
theorem d18_52 : Dc jdk_2097_method_35_code 52 (.lstore 5) 2 54 := ⟨by decide +kernel, rfl⟩
theorem d18_54 : Dc jdk_2097_method_35_code 54 (.aload 4) 2 56 := ⟨by decide +kernel, rfl⟩
theorem d18_56 : Dc jdk_2097_method_35_code 56 (.iload_n 2) 1 57 := ⟨by decide +kernel, rfl⟩
theorem d18_57 : Dc jdk_2097_method_35_code 57 (.lload 5) 2 59 := ⟨by decide +kernel, rfl⟩
theorem d18_59 : Dc jdk_2097_method_35_code 59 (.l2i) 1 60 := ⟨by decide +kernel, rfl⟩
theorem d18_60 : Dc jdk_2097_method_35_code 60 (.iastore) 1 61 := ⟨by decide +kernel, rfl⟩
theorem d18_61 : Dj jdk_2097_method_35_code 61 (.goto 48) 48 3 64 109 := ⟨by decide +kernel, rfl, by decide, by decide⟩
theorem adAU {p : Program} {l : Launch} {e : Env} {s : State} {m : MethodId} {A : Array Value} {below : List Frame} {meth : Method} {c : Code} {Z : State} {a0 : Array Value} (hw : ∀ d ∈ tables_1, d.before a0 Z = true) {T0 : State} {h : Heap} {xa ya : Addr} {nx ny : Int32}  (C : Cx p s m meth c Z "java/math/BigInteger" "add" jdk_2097_method_35_code 9 (some (.array .int))) (X0 : St p l e ({ frames := 1, cells := 2, slots := 40, locals := 24 } : Room) s m A below meth c Z T0 h 0 0) (VX : IaS Z h xa nx) (VY : IaS Z h ya ny) (y1 : 1 ≤ ny.toInt) (y2 : ny.toInt ≤ nx.toInt) (y3 : nx.toInt ≤ 18) :
    Goes p e below (EndW Z s 2 40 (fun v' h' => ∃ (br : Addr) (L : Int32), v' = some (.ref br) ∧ Ext h h' ∧ IaS Z h' br L ∧ 1 ≤ L.toInt ∧ L.toInt ≤ nx.toInt + 1)) T0 (mkF m 13 #[.val (.ref xa), .val (.ref ya), .unset, .unset, .unset, .unset, .unset, .unset, .unset] []) := by
  have p1 := own_dec nx (by omega)
  have c1 : (1 : Int32).toInt = 1 := rfl
  refine g_aloadN C X0 d18_13 rfl rfl ?_
  refine g_arraylengthI C X0 VX d18_14 ?_
  refine g_istoreN C X0 d18_15 (l' := #[.val (.ref xa), .val (.ref ya), .val (.int nx), .unset, .unset, .unset, .unset, .unset, .unset]) rfl ?_
  refine g_aloadN C X0 d18_16 rfl rfl ?_
  refine g_arraylengthI C X0 VY d18_17 ?_
  refine g_istoreN C X0 d18_18 (l' := #[.val (.ref xa), .val (.ref ya), .val (.int nx), .val (.int ny), .unset, .unset, .unset, .unset, .unset]) rfl ?_
  refine g_iloadN C X0 d18_19 rfl ?_
  refine g_newarrayI C X0 (wd hw 97 rfl) d18_20 (own_nn (by omega)) 20 (by have := own_tn (x := nx) (by omega); omega) (by decide) (by decide) (by decide) (fun T593 h593 b593 g_b593 n_b593 X593 E593 V593 => ?_)
  have lt594 : xa < b593 := by rw [g_b593]; exact IaS.lt VX
  have lt595 : ya < b593 := by rw [g_b593]; exact IaS.lt VY
  refine g_astore C X593 d18_22 rfl (l' := #[.val (.ref xa), .val (.ref ya), .val (.int nx), .val (.int ny), .val (.ref b593), .unset, .unset, .unset, .unset]) rfl ?_
  refine g_lconst 0 C X593 d18_24 rfl ?_
  refine g_lstore C X593 d18_25 (l' := #[.val (.ref xa), .val (.ref ya), .val (.int nx), .val (.int ny), .val (.ref b593), .val (.long 0), .second, .unset, .unset]) rfl ?_
  refine g_iloadN C X593 d18_27 rfl ?_
  refine g_iconst 1 C X593 d18_28 rfl ?_
  refine g_icmpn (hI_ne _ _) C X593 d18_29 (fun c29_596 => ?_) (fun c29_596 => ?_)
  · have sz597 : h.size ≤ b593 := by rw [g_b593]; exact (Keep.refl h []).1
    have kp598 := (Keep.refl h []).ext E593
    have kk0 : Keep h h593 [] := kp598
    have f599 := (IaS.ext VX E593)
    have f600 := (IaS.ext VY E593)
    exact adLL hw C n_b593 (Nat.le_of_eq g_b593.symm) (Nat.ne_of_lt lt594) (Nat.ne_of_lt lt595) y1 y2 y3 ny.toInt.toNat X593 f599 f600 V593 kk0 (by omega) (by omega) (by omega) (by omega)
  · have q1 := congrArg Int32.toInt c29_596
    refine g_aloadN C X593 d18_32 rfl rfl ?_
    refine g_iinc (-1) C X593 d18_33 rfl rfl (l' := #[.val (.ref xa), .val (.ref ya), .val (.int (nx + (-1 : Int32))), .val (.int ny), .val (.ref b593), .val (.long 0), .second, .unset, .unset]) rfl ?_
    refine g_iloadN C X593 d18_36 rfl ?_
    have f601 := (IaS.ext VX E593)
    refine g_ialoadI C X593 f601 d18_37 (own_nn (by omega)) (own_lt (by omega)) (fun v602 => ?_)
    refine g_i2l C X593 d18_38 ?_
    refine g_ldcJ C X593 (wd hw 98 rfl) d18_39 ?_
    refine g_land C X593 d18_42 ?_
    refine g_aloadN C X593 d18_43 rfl rfl ?_
    refine g_iconst 0 C X593 d18_44 rfl ?_
    have f603 := (IaS.ext VY E593)
    refine g_ialoadI C X593 f603 d18_45 (by decide) (own_lt (by rw [show (0 : Int32).toInt = 0 from rfl]; omega)) (fun v604 => ?_)
    refine g_i2l C X593 d18_46 ?_
    refine g_ldcJ C X593 (wd hw 98 rfl) d18_47 ?_
    refine g_land C X593 d18_50 ?_
    refine g_ladd C X593 d18_51 ?_
    refine g_lstore C X593 d18_52 (l' := #[.val (.ref xa), .val (.ref ya), .val (.int (nx + (-1 : Int32))), .val (.int ny), .val (.ref b593), .val (.long (((v602.toInt64) &&& (4294967295 : Int64)) + ((v604.toInt64) &&& (4294967295 : Int64)))), .second, .unset, .unset]) rfl ?_
    refine g_aload C X593 d18_54 rfl rfl ?_
    refine g_iloadN C X593 d18_56 rfl ?_
    refine g_lload C X593 d18_57 rfl ?_
    refine g_l2i C X593 d18_59 ?_
    refine g_iastoreI C X593 V593 n_b593 d18_60 (own_nn (by omega)) (own_lt (by omega)) (fun T605 h605 X605 W605 V605 => ?_)
    refine g_goto C X605 d18_61 ?_
    have sz606 : h.size ≤ b593 := by rw [g_b593]; exact (Keep.refl h []).1
    have kp607 := (Keep.refl h []).ext E593
    have kp608 := kp607.wr W605 (Or.inr sz606)
    have kk0 : Keep h h605 [] := kp608
    have f609 := (IaS.other f601 W605 (Nat.ne_of_lt lt594))
    have f610 := (IaS.other f603 W605 (Nat.ne_of_lt lt595))
    exact adB hw C X605 f609 f610 V605 n_b593 (Nat.le_of_eq g_b593.symm) (Nat.ne_of_lt lt594) (Nat.ne_of_lt lt595) kk0 y1 y2 y3 (by omega) (by omega)
theorem adAR {p : Program} {l : Launch} {e : Env} {s : State} {m : MethodId} {A : Array Value} {below : List Frame} {meth : Method} {c : Code} {Z : State} {a0 : Array Value} (hw : ∀ d ∈ tables_1, d.before a0 Z = true) {T0 : State} {h : Heap} {xa ya : Addr} {nx ny : Int32} {t_ : Addr} (C : Cx p s m meth c Z "java/math/BigInteger" "add" jdk_2097_method_35_code 9 (some (.array .int))) (X0 : St p l e ({ frames := 1, cells := 2, slots := 40, locals := 24 } : Room) s m A below meth c Z T0 h 0 0) (VX : IaS Z h xa nx) (VY : IaS Z h ya ny) (y1 : 1 ≤ ny.toInt) (y2 : ny.toInt ≤ nx.toInt) (y3 : nx.toInt ≤ 18) :
    Goes p e below (EndW Z s 2 40 (fun v' h' => ∃ (br : Addr) (L : Int32), v' = some (.ref br) ∧ Ext h h' ∧ IaS Z h' br L ∧ 1 ≤ L.toInt ∧ L.toInt ≤ nx.toInt + 1)) T0 (mkF m 13 #[.val (.ref xa), .val (.ref ya), .val (.ref t_), .unset, .unset, .unset, .unset, .unset, .unset] []) := by
  have p1 := own_dec nx (by omega)
  have c1 : (1 : Int32).toInt = 1 := rfl
  refine g_aloadN C X0 d18_13 rfl rfl ?_
  refine g_arraylengthI C X0 VX d18_14 ?_
  refine g_istoreN C X0 d18_15 (l' := #[.val (.ref xa), .val (.ref ya), .val (.int nx), .unset, .unset, .unset, .unset, .unset, .unset]) rfl ?_
  refine g_aloadN C X0 d18_16 rfl rfl ?_
  refine g_arraylengthI C X0 VY d18_17 ?_
  refine g_istoreN C X0 d18_18 (l' := #[.val (.ref xa), .val (.ref ya), .val (.int nx), .val (.int ny), .unset, .unset, .unset, .unset, .unset]) rfl ?_
  refine g_iloadN C X0 d18_19 rfl ?_
  refine g_newarrayI C X0 (wd hw 97 rfl) d18_20 (own_nn (by omega)) 20 (by have := own_tn (x := nx) (by omega); omega) (by decide) (by decide) (by decide) (fun T611 h611 b611 g_b611 n_b611 X611 E611 V611 => ?_)
  have lt612 : xa < b611 := by rw [g_b611]; exact IaS.lt VX
  have lt613 : ya < b611 := by rw [g_b611]; exact IaS.lt VY
  refine g_astore C X611 d18_22 rfl (l' := #[.val (.ref xa), .val (.ref ya), .val (.int nx), .val (.int ny), .val (.ref b611), .unset, .unset, .unset, .unset]) rfl ?_
  refine g_lconst 0 C X611 d18_24 rfl ?_
  refine g_lstore C X611 d18_25 (l' := #[.val (.ref xa), .val (.ref ya), .val (.int nx), .val (.int ny), .val (.ref b611), .val (.long 0), .second, .unset, .unset]) rfl ?_
  refine g_iloadN C X611 d18_27 rfl ?_
  refine g_iconst 1 C X611 d18_28 rfl ?_
  refine g_icmpn (hI_ne _ _) C X611 d18_29 (fun c29_614 => ?_) (fun c29_614 => ?_)
  · have sz615 : h.size ≤ b611 := by rw [g_b611]; exact (Keep.refl h []).1
    have kp616 := (Keep.refl h []).ext E611
    have kk0 : Keep h h611 [] := kp616
    have f617 := (IaS.ext VX E611)
    have f618 := (IaS.ext VY E611)
    exact adLL hw C n_b611 (Nat.le_of_eq g_b611.symm) (Nat.ne_of_lt lt612) (Nat.ne_of_lt lt613) y1 y2 y3 ny.toInt.toNat X611 f617 f618 V611 kk0 (by omega) (by omega) (by omega) (by omega)
  · have q1 := congrArg Int32.toInt c29_614
    refine g_aloadN C X611 d18_32 rfl rfl ?_
    refine g_iinc (-1) C X611 d18_33 rfl rfl (l' := #[.val (.ref xa), .val (.ref ya), .val (.int (nx + (-1 : Int32))), .val (.int ny), .val (.ref b611), .val (.long 0), .second, .unset, .unset]) rfl ?_
    refine g_iloadN C X611 d18_36 rfl ?_
    have f619 := (IaS.ext VX E611)
    refine g_ialoadI C X611 f619 d18_37 (own_nn (by omega)) (own_lt (by omega)) (fun v620 => ?_)
    refine g_i2l C X611 d18_38 ?_
    refine g_ldcJ C X611 (wd hw 98 rfl) d18_39 ?_
    refine g_land C X611 d18_42 ?_
    refine g_aloadN C X611 d18_43 rfl rfl ?_
    refine g_iconst 0 C X611 d18_44 rfl ?_
    have f621 := (IaS.ext VY E611)
    refine g_ialoadI C X611 f621 d18_45 (by decide) (own_lt (by rw [show (0 : Int32).toInt = 0 from rfl]; omega)) (fun v622 => ?_)
    refine g_i2l C X611 d18_46 ?_
    refine g_ldcJ C X611 (wd hw 98 rfl) d18_47 ?_
    refine g_land C X611 d18_50 ?_
    refine g_ladd C X611 d18_51 ?_
    refine g_lstore C X611 d18_52 (l' := #[.val (.ref xa), .val (.ref ya), .val (.int (nx + (-1 : Int32))), .val (.int ny), .val (.ref b611), .val (.long (((v620.toInt64) &&& (4294967295 : Int64)) + ((v622.toInt64) &&& (4294967295 : Int64)))), .second, .unset, .unset]) rfl ?_
    refine g_aload C X611 d18_54 rfl rfl ?_
    refine g_iloadN C X611 d18_56 rfl ?_
    refine g_lload C X611 d18_57 rfl ?_
    refine g_l2i C X611 d18_59 ?_
    refine g_iastoreI C X611 V611 n_b611 d18_60 (own_nn (by omega)) (own_lt (by omega)) (fun T623 h623 X623 W623 V623 => ?_)
    refine g_goto C X623 d18_61 ?_
    have sz624 : h.size ≤ b611 := by rw [g_b611]; exact (Keep.refl h []).1
    have kp625 := (Keep.refl h []).ext E611
    have kp626 := kp625.wr W623 (Or.inr sz624)
    have kk0 : Keep h h623 [] := kp626
    have f627 := (IaS.other f619 W623 (Nat.ne_of_lt lt612))
    have f628 := (IaS.other f621 W623 (Nat.ne_of_lt lt613))
    exact adB hw C X623 f627 f628 V623 n_b611 (Nat.le_of_eq g_b611.symm) (Nat.ne_of_lt lt612) (Nat.ne_of_lt lt613) kk0 y1 y2 y3 (by omega) (by omega)
theorem ef_rAA (m : MethodId) (xa : Addr) (ya : Addr) : entryFrame m #[(.ref xa), (.ref ya)] 9 = mkF m 0 #[.val (.ref xa), .val (.ref ya), .unset, .unset, .unset, .unset, .unset, .unset, .unset] [] := by first | (simp [entryFrame, mkF, argsToLocals, Value.category]; done) | rfl
theorem d18_0 : Dc jdk_2097_method_35_code 0 (.aload_n 0) 1 1 := ⟨by decide +kernel, rfl⟩
theorem d18_1 : Dc jdk_2097_method_35_code 1 (.arraylength) 1 2 := ⟨by decide +kernel, rfl⟩
theorem d18_2 : Dc jdk_2097_method_35_code 2 (.aload_n 1) 1 3 := ⟨by decide +kernel, rfl⟩
theorem d18_3 : Dc jdk_2097_method_35_code 3 (.arraylength) 1 4 := ⟨by decide +kernel, rfl⟩
theorem d18_4 : Dj jdk_2097_method_35_code 4 (.if_icmp .ge 9) 9 3 7 13 := ⟨by decide +kernel, rfl, by decide, by decide⟩
theorem d18_7 : Dc jdk_2097_method_35_code 7 (.aload_n 0) 1 8 := ⟨by decide +kernel, rfl⟩
theorem d18_8 : Dc jdk_2097_method_35_code 8 (.astore_n 2) 1 9 := ⟨by decide +kernel, rfl⟩
theorem d18_9 : Dc jdk_2097_method_35_code 9 (.aload_n 1) 1 10 := ⟨by decide +kernel, rfl⟩
theorem d18_10 : Dc jdk_2097_method_35_code 10 (.astore_n 0) 1 11 := ⟨by decide +kernel, rfl⟩
theorem d18_11 : Dc jdk_2097_method_35_code 11 (.aload_n 2) 1 12 := ⟨by decide +kernel, rfl⟩
theorem d18_12 : Dc jdk_2097_method_35_code 12 (.astore_n 1) 1 13 := ⟨by decide +kernel, rfl⟩
theorem rAA (l : Launch) {Z : State} {a0 : Array Value} (hw : ∀ d ∈ tables_1, d.before a0 Z = true) {h : Heap} (hE : Ext Z.heap h) (xa : Addr) (ya : Addr) (nx ny : Int32) (VX : IaS Z h xa nx) (VY : IaS Z h ya ny) (x1 : 1 ≤ nx.toInt) (x3 : nx.toInt ≤ 18) (y1 : 1 ≤ ny.toInt) (y3 : ny.toInt ≤ 18) :
    Con l (⟨"java/math/BigInteger", "add", "([I[I)[I"⟩ : MethodName) jdk_2097_method_35_code 9 (some (.array .int)) [] ({ frames := 1, cells := 2, slots := 40, locals := 24 } : Room) Z #[(.ref xa), (.ref ya)] h (fun v' h' => ∃ (br : Addr) (L : Int32), v' = some (.ref br) ∧ Ext h h' ∧ IaS Z h' br L ∧ 1 ≤ L.toInt ∧ L.toInt ≤ nx.toInt + ny.toInt + 1) := by
  refine con_of (plainFor_of_name pn_3) hE (fun m => ef_rAA m xa ya) ?_
  intro p e s m below meth c T0 C X0
  have C : Cx p s m meth c Z "java/math/BigInteger" "add" jdk_2097_method_35_code 9 (some (.array .int)) := C
  show Goes p e below _ T0 (mkF m 0 #[.val (.ref xa), .val (.ref ya), .unset, .unset, .unset, .unset, .unset, .unset, .unset] [])
  refine g_aloadN C X0 d18_0 rfl rfl ?_
  refine g_arraylengthI C X0 VX d18_1 ?_
  refine g_aloadN C X0 d18_2 rfl rfl ?_
  refine g_arraylengthI C X0 VY d18_3 ?_
  refine g_icmpn (hI_ge _ _) C X0 d18_4 (fun c4_629 => ?_) (fun c4_629 => ?_)
  · have q0 := own_nlt' c4_629
    obtain ⟨s₂, o, r1, r2, r3, v, L, r4, ⟨r5, r6, br, L', r7, r8, r9, r10, r11⟩, r12⟩ := adAU hw C X0 VX VY y1 (by omega) x3
    exact ⟨s₂, o, r1, r2, r3, v, L, r4, ⟨r5, r6, br, L', r7, r8, r9, r10, by omega⟩, r12⟩
  · refine g_aloadN C X0 d18_7 rfl rfl ?_
    refine g_astoreN C X0 d18_8 rfl (l' := #[.val (.ref xa), .val (.ref ya), .val (.ref xa), .unset, .unset, .unset, .unset, .unset, .unset]) rfl ?_
    refine g_aloadN C X0 d18_9 rfl rfl ?_
    refine g_astoreN C X0 d18_10 rfl (l' := #[.val (.ref ya), .val (.ref ya), .val (.ref xa), .unset, .unset, .unset, .unset, .unset, .unset]) rfl ?_
    refine g_aloadN C X0 d18_11 rfl rfl ?_
    refine g_astoreN C X0 d18_12 rfl (l' := #[.val (.ref ya), .val (.ref xa), .val (.ref xa), .unset, .unset, .unset, .unset, .unset, .unset]) rfl ?_
    have q0 := own_lt' c4_629
    obtain ⟨s₂, o, r1, r2, r3, v, L, r4, ⟨r5, r6, br, L', r7, r8, r9, r10, r11⟩, r12⟩ := adAR hw C X0 VY VX x1 (by omega) y3
    exact ⟨s₂, o, r1, r2, r3, v, L, r4, ⟨r5, r6, br, L', r7, r8, r9, r10, by omega⟩, r12⟩
theorem ef_rAdd (m : MethodId) (xx : Addr) (yy : Addr) : entryFrame m #[(.ref xx), (.ref yy)] 4 = mkF m 0 #[.val (.ref xx), .val (.ref yy), .unset, .unset] [] := by first | (simp [entryFrame, mkF, argsToLocals, Value.category]; done) | rfl
theorem d17_0 : Dc jdk_2097_method_32_code 0 (.aload_n 1) 1 1 := ⟨by decide +kernel, rfl⟩
theorem d17_1 : Dc jdk_2097_method_32_code 1 (.getfield 32) 3 4 := ⟨by decide +kernel, rfl⟩
theorem d17_4 : Dj jdk_2097_method_32_code 4 (.ifCond .ne 5) 5 3 7 9 := ⟨by decide +kernel, rfl, by decide, by decide⟩
theorem d17_7 : Dc jdk_2097_method_32_code 7 (.aload_n 0) 1 8 := ⟨by decide +kernel, rfl⟩
theorem d17_8 : Dc jdk_2097_method_32_code 8 (.areturn) 1 9 := ⟨by decide +kernel, rfl⟩
theorem d17_9 : Dc jdk_2097_method_32_code 9 (.aload_n 0) 1 10 := ⟨by decide +kernel, rfl⟩
theorem d17_10 : Dc jdk_2097_method_32_code 10 (.getfield 32) 3 13 := ⟨by decide +kernel, rfl⟩
theorem d17_13 : Dj jdk_2097_method_32_code 13 (.ifCond .ne 5) 5 3 16 18 := ⟨by decide +kernel, rfl, by decide, by decide⟩
theorem d17_16 : Dc jdk_2097_method_32_code 16 (.aload_n 1) 1 17 := ⟨by decide +kernel, rfl⟩
theorem d17_17 : Dc jdk_2097_method_32_code 17 (.areturn) 1 18 := ⟨by decide +kernel, rfl⟩
theorem d17_18 : Dc jdk_2097_method_32_code 18 (.aload_n 1) 1 19 := ⟨by decide +kernel, rfl⟩
theorem d17_19 : Dc jdk_2097_method_32_code 19 (.getfield 32) 3 22 := ⟨by decide +kernel, rfl⟩
theorem d17_22 : Dc jdk_2097_method_32_code 22 (.aload_n 0) 1 23 := ⟨by decide +kernel, rfl⟩
theorem d17_23 : Dc jdk_2097_method_32_code 23 (.getfield 32) 3 26 := ⟨by decide +kernel, rfl⟩
theorem d17_26 : Dj jdk_2097_method_32_code 26 (.if_icmp .ne 26) 26 3 29 52 := ⟨by decide +kernel, rfl, by decide, by decide⟩
theorem d17_29 : Dc jdk_2097_method_32_code 29 (.new 23) 3 32 := ⟨by decide +kernel, rfl⟩
theorem d17_32 : Dc jdk_2097_method_32_code 32 (.dup) 1 33 := ⟨by decide +kernel, rfl⟩
theorem d17_33 : Dc jdk_2097_method_32_code 33 (.aload_n 0) 1 34 := ⟨by decide +kernel, rfl⟩
theorem d17_34 : Dc jdk_2097_method_32_code 34 (.getfield 28) 3 37 := ⟨by decide +kernel, rfl⟩
theorem d17_37 : Dc jdk_2097_method_32_code 37 (.aload_n 1) 1 38 := ⟨by decide +kernel, rfl⟩
theorem d17_38 : Dc jdk_2097_method_32_code 38 (.getfield 28) 3 41 := ⟨by decide +kernel, rfl⟩
theorem d17_41 : Dc jdk_2097_method_32_code 41 (.invokestatic 362) 3 44 := ⟨by decide +kernel, rfl⟩
theorem pd_16 : parseMethodDescriptor "([I[I)[I" = some ⟨[(.array .int), (.array .int)], some (.array .int)⟩ := by decide +kernel
theorem d17_44 : Dc jdk_2097_method_32_code 44 (.aload_n 0) 1 45 := ⟨by decide +kernel, rfl⟩
theorem d17_45 : Dc jdk_2097_method_32_code 45 (.getfield 32) 3 48 := ⟨by decide +kernel, rfl⟩
theorem d17_48 : Dc jdk_2097_method_32_code 48 (.invokespecial 175) 3 51 := ⟨by decide +kernel, rfl⟩
theorem d17_51 : Dc jdk_2097_method_32_code 51 (.areturn) 1 52 := ⟨by decide +kernel, rfl⟩
theorem rAdd (l : Launch) {Z : State} {a0 : Array Value} (hw : ∀ d ∈ tables_1, d.before a0 Z = true) {h : Heap} (hE : Ext Z.heap h) (xx : Addr) (yy : Addr) (mx my : Addr) (g1 n1 g2 n2 : Int32) (Ex : Exa Z h xx "java/math/BigInteger") (Sx : Fld Z h xx "java/math/BigInteger" "signum" "I" (.int g1)) (Mx : Fld Z h xx "java/math/BigInteger" "mag" "[I" (.ref mx)) (Vx : IaS Z h mx n1) (Ey : Exa Z h yy "java/math/BigInteger") (Sy : Fld Z h yy "java/math/BigInteger" "signum" "I" (.int g2)) (My : Fld Z h yy "java/math/BigInteger" "mag" "[I" (.ref my)) (Vy : IaS Z h my n2) (s1 : g1 = 0 ∨ (g1 = 1 ∧ 1 ≤ n1.toInt)) (b1 : n1.toInt ≤ 6) (s2 : g2 = 0 ∨ (g2 = 1 ∧ 1 ≤ n2.toInt)) (b2 : n2.toInt ≤ 5) :
    Con l (⟨"java/math/BigInteger", "add", "(Ljava/math/BigInteger;)Ljava/math/BigInteger;"⟩ : MethodName) jdk_2097_method_32_code 4 (some (.object "java/math/BigInteger")) [] ({ frames := 3, cells := 3, slots := 46, locals := 72 } : Room) Z #[(.ref xx), (.ref yy)] h (fun v' h' => ∃ (x mg : Addr) (sg nn : Int32), v' = some (.ref x) ∧ Ext h h' ∧ Exa Z h' x "java/math/BigInteger" ∧ Fld Z h' x "java/math/BigInteger" "signum" "I" (.int sg) ∧ Fld Z h' x "java/math/BigInteger" "mag" "[I" (.ref mg) ∧ IaS Z h' mg nn ∧ (sg = 0 ∨ (sg = 1 ∧ 1 ≤ nn.toInt)) ∧ nn.toInt ≤ n1.toInt + 6) := by
  refine con_of (plainFor_of_name pn_3) hE (fun m => ef_rAdd m xx yy) ?_
  intro p e s m below meth c T0 C X0
  have C : Cx p s m meth c Z "java/math/BigInteger" "add" jdk_2097_method_32_code 4 (some (.object "java/math/BigInteger")) := C
  show Goes p e below _ T0 (mkF m 0 #[.val (.ref xx), .val (.ref yy), .unset, .unset] [])
  have l1 := Vx.len
  have l2 := Vy.len
  rcases s2 with rfl | ⟨rfl, t2⟩
  · refine g_aloadN C X0 d17_0 rfl rfl ?_
    refine g_getfield (host := "") C X0 (Or.inl (wd hw 84 rfl)) Via.refl Sy d17_1 (fun T630 X630 => ?_)
    refine g_ifn (h0_ne _) C X630 d17_4 (fun q => absurd (by decide) q) (fun _ => ?_)
    refine g_aloadN C X630 d17_7 rfl rfl ?_
    exact g_retA C X630 rfl rfl d17_8 (by decide) (by decide) ⟨xx, mx, g1, n1, rfl, keep_ext (Keep.refl h []), Ex, Sx, Mx, Vx, s1, (by omega)⟩
  · rcases s1 with rfl | ⟨rfl, t1⟩
    · refine g_aloadN C X0 d17_0 rfl rfl ?_
      refine g_getfield (host := "") C X0 (Or.inl (wd hw 84 rfl)) Via.refl Sy d17_1 (fun T631 X631 => ?_)
      refine g_ifn (h0_ne _) C X631 d17_4 (fun _ => ?_) (fun q => absurd q (by decide))
      refine g_aloadN C X631 d17_9 rfl rfl ?_
      refine g_getfield (host := "") C X631 (Or.inl (wd hw 84 rfl)) Via.refl Sx d17_10 (fun T632 X632 => ?_)
      refine g_ifn (h0_ne _) C X632 d17_13 (fun q => absurd (by decide) q) (fun _ => ?_)
      refine g_aloadN C X632 d17_16 rfl rfl ?_
      exact g_retA C X632 rfl rfl d17_17 (by decide) (by decide) ⟨yy, my, 1, n2, rfl, keep_ext (Keep.refl h []), Ey, Sy, My, Vy, (Or.inr ⟨rfl, t2⟩), (by omega)⟩
    · skip
      refine g_aloadN C X0 d17_0 rfl rfl ?_
      refine g_getfield (host := "") C X0 (Or.inl (wd hw 84 rfl)) Via.refl Sy d17_1 (fun T633 X633 => ?_)
      refine g_ifn (h0_ne _) C X633 d17_4 (fun _ => ?_) (fun q => absurd q (by decide))
      refine g_aloadN C X633 d17_9 rfl rfl ?_
      refine g_getfield (host := "") C X633 (Or.inl (wd hw 84 rfl)) Via.refl Sx d17_10 (fun T634 X634 => ?_)
      refine g_ifn (h0_ne _) C X634 d17_13 (fun _ => ?_) (fun q => absurd q (by decide))
      refine g_aloadN C X634 d17_18 rfl rfl ?_
      refine g_getfield (host := "") C X634 (Or.inl (wd hw 84 rfl)) Via.refl Sy d17_19 (fun T635 X635 => ?_)
      refine g_aloadN C X635 d17_22 rfl rfl ?_
      refine g_getfield (host := "") C X635 (Or.inl (wd hw 84 rfl)) Via.refl Sx d17_23 (fun T636 X636 => ?_)
      refine g_icmpn (hI_ne _ _) C X636 d17_26 (fun q => absurd (by decide) q) (fun _ => ?_)
      refine g_new C X636 (wd hw 117 rfl) (wd hw 118 rfl) (wd hw 36 rfl) d17_29 (by decide) (by decide) (fun T637 h637 b637 g_b637 n_b637 X637 E637 A637 D637 M637 => ?_)
      have lt638 : xx < b637 := by rw [g_b637]; exact Exa.lt Ex
      have lt639 : mx < b637 := by rw [g_b637]; exact IaS.lt Vx
      have lt640 : yy < b637 := by rw [g_b637]; exact Exa.lt Ey
      have lt641 : my < b637 := by rw [g_b637]; exact IaS.lt Vy
      have F_signum_b637 : Fld Z h637 b637 "java/math/BigInteger" "signum" "I" (.int 0) := D637 (Or.inr (wd hw 85 rfl)) (ty := .int) (by decide)
      have F_mag_b637 : Fld Z h637 b637 "java/math/BigInteger" "mag" "[I" .null := D637 (Or.inr (wd hw 87 rfl)) (ty := (.array .int)) (by decide)
      refine g_dup C X637 d17_32 rfl ?_
      refine g_aloadN C X637 d17_33 rfl rfl ?_
      have f642 := (Fld.ext E637 Mx)
      refine g_getfield (host := "") C X637 (Or.inl (wd hw 86 rfl)) Via.refl f642 d17_34 (fun T643 X643 => ?_)
      refine g_aloadN C X643 d17_37 rfl rfl ?_
      have f644 := (Fld.ext E637 My)
      refine g_getfield (host := "") C X643 (Or.inl (wd hw 86 rfl)) Via.refl f644 d17_38 (fun T645 X645 => ?_)
      have f646 := (IaS.ext Vx E637)
      have f647 := (IaS.ext Vy E637)
      refine g_static (argsL := [(.ref mx), (.ref my)]) (st := [(.ref b637), (.ref b637)]) C X645 (wd hw 136 rfl) (wd hw 137 rfl) (wd hw 36 rfl) (wd hw 138 rfl) (by decide) (pay_of (W' := 2) (rAA l hw X645.ext mx my n1 n2 f646 f647 t1 (by omega) t2 (by omega)) C.hZ (wd hw 138 rfl) (wd hw 36 rfl) (by decide) (by decide)) pd_16 rfl rfl _ rfl (Nat.le_of_eq rfl) d17_41 (by decide) (by decide) (fun T648 h648 v648 q648 X648 => ?_)
      obtain ⟨b648, nn648, rfl, E648, V648, nc648, nd648⟩ := q648
      show Goes p e below _ T648 (mkF m 44 #[.val (.ref xx), .val (.ref yy), .unset, .unset] [(.ref b648), (.ref b637), (.ref b637)])
      refine g_aloadN C X648 d17_44 rfl rfl ?_
      have f649 := (Fld.ext E648 (Fld.ext E637 Sx))
      refine g_getfield (host := "") C X648 (Or.inl (wd hw 84 rfl)) Via.refl f649 d17_45 (fun T650 X650 => ?_)
      have f652 := (Exa.ext E648 A637)
      have ne651 := own_neI f652 V648 (wd hw 118 rfl)
      have f653 := (Fld.ext E648 F_signum_b637)
      have f654 := (Fld.ext E648 F_mag_b637)
      refine g_special (argsL := [(.ref b648), (.int 1)]) (st := [(.ref b637)]) C X650 rfl (wd hw 119 rfl) (wd hw 120 rfl) (wd hw 122 rfl) (by decide) (pay_of (W' := 1) (rBA l hw X650.ext b637 b648 nn648 f652 f653 f654 n_b637 V648 (by omega)) C.hZ (wd hw 122 rfl) (wd hw 36 rfl) (by decide) (by decide)) pd_6 rfl rfl _ rfl (Nat.le_of_eq rfl) d17_48 (by decide) (by decide) (fun T655 h655 v655 q655 X655 => ?_)
      obtain ⟨rfl, K655, EX655, sg655, FS655, FM655, hs655⟩ := q655
      show Goes p e below _ T655 (mkF m 51 #[.val (.ref xx), .val (.ref yy), .unset, .unset] [(.ref b637)])
      have sz656 : h.size ≤ b637 := by rw [g_b637]; exact (Keep.refl h []).1
      have kp657 := (Keep.refl h []).ext E637
      have kp658 := kp657.ext E648
      have kp659 := kp658.trans K655 (allS (Or.inr sz656) all0)
      have f660 := (IaS.keep V648 K655 (ninS (Ne.symm ne651) nin0))
      exact g_retA C X655 rfl rfl d17_51 (by decide) (by decide) ⟨b637, b648, sg655, nn648, rfl, keep_ext kp659, EX655, FS655, FM655, f660, hs655, (by omega)⟩
theorem pn_6 : plainName "com/example/halyard/halyard/orders/Order" = true := by first | (simp [plainName, overriddenIn]; done) | decide +kernel
theorem ef_rOI (m : MethodId) (o_ : Addr) (ra : Addr) (rb : Addr) (rc : Addr) (rd : Addr) (re : Addr) (rf : Addr) (pr : Int64) (qt : Int64) : entryFrame m #[(.ref o_), (.ref ra), (.ref rb), (.ref rc), (.ref rd), (.ref re), (.ref rf), (.long pr), (.long qt)] 11 = mkF m 0 #[.val (.ref o_), .val (.ref ra), .val (.ref rb), .val (.ref rc), .val (.ref rd), .val (.ref re), .val (.ref rf), .val (.long pr), .second, .val (.long qt), .second] [] := by first | (simp [entryFrame, mkF, argsToLocals, Value.category]; done) | rfl
theorem d2_0 : Dc prog_76_method_1_code 0 (.aload_n 0) 1 1 := ⟨by decide +kernel, rfl⟩
theorem d2_1 : Dc prog_76_method_1_code 1 (.invokespecial 1) 3 4 := ⟨by decide +kernel, rfl⟩
theorem d2_4 : Dc prog_76_method_1_code 4 (.aload_n 0) 1 5 := ⟨by decide +kernel, rfl⟩
theorem d2_5 : Dc prog_76_method_1_code 5 (.getstatic 7) 3 8 := ⟨by decide +kernel, rfl⟩
theorem d2_8 : Dc prog_76_method_1_code 8 (.putfield 13) 3 11 := ⟨by decide +kernel, rfl⟩
theorem d2_11 : Dc prog_76_method_1_code 11 (.aload_n 0) 1 12 := ⟨by decide +kernel, rfl⟩
theorem d2_12 : Dc prog_76_method_1_code 12 (.aload_n 1) 1 13 := ⟨by decide +kernel, rfl⟩
theorem d2_13 : Dc prog_76_method_1_code 13 (.putfield 18) 3 16 := ⟨by decide +kernel, rfl⟩
theorem d2_16 : Dc prog_76_method_1_code 16 (.aload_n 0) 1 17 := ⟨by decide +kernel, rfl⟩
theorem d2_17 : Dc prog_76_method_1_code 17 (.aload_n 2) 1 18 := ⟨by decide +kernel, rfl⟩
theorem d2_18 : Dc prog_76_method_1_code 18 (.putfield 22) 3 21 := ⟨by decide +kernel, rfl⟩
theorem d2_21 : Dc prog_76_method_1_code 21 (.aload_n 0) 1 22 := ⟨by decide +kernel, rfl⟩
theorem d2_22 : Dc prog_76_method_1_code 22 (.aload_n 3) 1 23 := ⟨by decide +kernel, rfl⟩
theorem d2_23 : Dc prog_76_method_1_code 23 (.putfield 26) 3 26 := ⟨by decide +kernel, rfl⟩
theorem d2_26 : Dc prog_76_method_1_code 26 (.aload_n 0) 1 27 := ⟨by decide +kernel, rfl⟩
theorem d2_27 : Dc prog_76_method_1_code 27 (.aload 4) 2 29 := ⟨by decide +kernel, rfl⟩
theorem d2_29 : Dc prog_76_method_1_code 29 (.putfield 29) 3 32 := ⟨by decide +kernel, rfl⟩
theorem d2_32 : Dc prog_76_method_1_code 32 (.aload_n 0) 1 33 := ⟨by decide +kernel, rfl⟩
theorem d2_33 : Dc prog_76_method_1_code 33 (.aload 5) 2 35 := ⟨by decide +kernel, rfl⟩
theorem d2_35 : Dc prog_76_method_1_code 35 (.putfield 33) 3 38 := ⟨by decide +kernel, rfl⟩
theorem d2_38 : Dc prog_76_method_1_code 38 (.aload_n 0) 1 39 := ⟨by decide +kernel, rfl⟩
theorem d2_39 : Dc prog_76_method_1_code 39 (.aload 6) 2 41 := ⟨by decide +kernel, rfl⟩
theorem d2_41 : Dc prog_76_method_1_code 41 (.putfield 37) 3 44 := ⟨by decide +kernel, rfl⟩
theorem d2_44 : Dc prog_76_method_1_code 44 (.aload_n 0) 1 45 := ⟨by decide +kernel, rfl⟩
theorem d2_45 : Dc prog_76_method_1_code 45 (.lload 7) 2 47 := ⟨by decide +kernel, rfl⟩
theorem d2_47 : Dc prog_76_method_1_code 47 (.putfield 41) 3 50 := ⟨by decide +kernel, rfl⟩
theorem d2_50 : Dc prog_76_method_1_code 50 (.aload_n 0) 1 51 := ⟨by decide +kernel, rfl⟩
theorem d2_51 : Dc prog_76_method_1_code 51 (.lload 9) 2 53 := ⟨by decide +kernel, rfl⟩
theorem d2_53 : Dc prog_76_method_1_code 53 (.putfield 45) 3 56 := ⟨by decide +kernel, rfl⟩
theorem d2_56 : Dc prog_76_method_1_code 56 (.return_) 1 57 := ⟨by decide +kernel, rfl⟩
theorem rOI (l : Launch) {Z : State} {a0 : Array Value} (hw : ∀ d ∈ tables_1, d.before a0 Z = true) {h : Heap} (hE : Ext Z.heap h) (o_ : Addr) (ra : Addr) (rb : Addr) (rc : Addr) (rd : Addr) (re : Addr) (rf : Addr) (pr : Int64) (qt : Int64) (zr zm pc_ : Addr) (kp : ClassId) (vp : List Value) (SZR : Sta Z Z.heap "java/math/BigInteger" "ZERO" "Ljava/math/BigInteger;" (.ref zr)) (ZE : Exa Z Z.heap zr "java/math/BigInteger") (ZS : Fld Z Z.heap zr "java/math/BigInteger" "signum" "I" (.int (0 : Int32))) (ZM : Fld Z Z.heap zr "java/math/BigInteger" "mag" "[I" (.ref zm)) (ZV : IaS Z Z.heap zm 0) (SPC : Sta Z Z.heap "java/math/BigInteger" "posConst" "[Ljava/math/BigInteger;" (.ref pc_)) (VP : Arv Z Z.heap pc_ kp (.object "java/math/BigInteger") 17 vp .null) (PC : ∀ j : Nat, 1 ≤ j → j ≤ 16 → ∃ x mg : Addr, vp.getD j .null = .ref x ∧ Exa Z Z.heap x "java/math/BigInteger" ∧ Fld Z Z.heap x "java/math/BigInteger" "signum" "I" (.int (1 : Int32)) ∧ Fld Z Z.heap x "java/math/BigInteger" "mag" "[I" (.ref mg) ∧ IaS Z Z.heap mg 1) (EO : Exa Z h o_ "com/example/halyard/halyard/orders/Order") (no : Z.heap.size ≤ o_) (O0 : Fld Z h o_ "com/example/halyard/halyard/orders/Order" "notional" "Ljava/math/BigInteger;" .null) (O1 : Fld Z h o_ "com/example/halyard/halyard/orders/Order" "id" "Ljava/lang/String;" .null) (O2 : Fld Z h o_ "com/example/halyard/halyard/orders/Order" "client" "Ljava/lang/Object;" .null) (O3 : Fld Z h o_ "com/example/halyard/halyard/orders/Order" "symbol" "Ljava/lang/String;" .null) (O4 : Fld Z h o_ "com/example/halyard/halyard/orders/Order" "side" "Lcom/example/halyard/halyard/book/Side;" .null) (O5 : Fld Z h o_ "com/example/halyard/halyard/orders/Order" "type" "Lcom/example/halyard/halyard/orders/Order$Type;" .null) (O6 : Fld Z h o_ "com/example/halyard/halyard/orders/Order" "timeInForce" "Lcom/example/halyard/halyard/orders/Order$TimeInForce;" .null) (O7 : Fld Z h o_ "com/example/halyard/halyard/orders/Order" "price" "J" (.long (0 : Int64))) (O8 : Fld Z h o_ "com/example/halyard/halyard/orders/Order" "quantity" "J" (.long (0 : Int64))) (O9 : Fld Z h o_ "com/example/halyard/halyard/orders/Order" "executed" "J" (.long (0 : Int64))) (O10 : Fld Z h o_ "com/example/halyard/halyard/orders/Order" "cancelled" "Z" (.int (0 : Int32))) :
    Con l (⟨"com/example/halyard/halyard/orders/Order", "<init>", "(Ljava/lang/String;Ljava/lang/Object;Ljava/lang/String;Lcom/example/halyard/halyard/book/Side;Lcom/example/halyard/halyard/orders/Order$Type;Lcom/example/halyard/halyard/orders/Order$TimeInForce;JJ)V"⟩ : MethodName) prog_76_method_1_code 11 none [] ({ frames := 1, cells := 0, slots := 0, locals := 24 } : Room) Z #[(.ref o_), (.ref ra), (.ref rb), (.ref rc), (.ref rd), (.ref re), (.ref rf), (.long pr), (.long qt)] h (fun v' h' => v' = none ∧ Keep h h' [o_] ∧ Exa Z h' o_ "com/example/halyard/halyard/orders/Order" ∧ Fld Z h' o_ "com/example/halyard/halyard/orders/Order" "notional" "Ljava/math/BigInteger;" (.ref zr) ∧ Fld Z h' o_ "com/example/halyard/halyard/orders/Order" "quantity" "J" (.long qt) ∧ Fld Z h' o_ "com/example/halyard/halyard/orders/Order" "executed" "J" (.long (0 : Int64)) ∧ Fld Z h' o_ "com/example/halyard/halyard/orders/Order" "cancelled" "Z" (.int (0 : Int32))) := by
  refine con_of (plainFor_of_name pn_6) hE (fun m => ef_rOI m o_ ra rb rc rd re rf pr qt) ?_
  intro p e s m below meth c T0 C X0
  have C : Cx p s m meth c Z "com/example/halyard/halyard/orders/Order" "<init>" prog_76_method_1_code 11 none := C
  show Goes p e below _ T0 (mkF m 0 #[.val (.ref o_), .val (.ref ra), .val (.ref rb), .val (.ref rc), .val (.ref rd), .val (.ref re), .val (.ref rf), .val (.long pr), .second, .val (.long qt), .second] [])
  refine g_aloadN C X0 d2_0 rfl rfl ?_
  refine g_initO C X0 (wd hw 32 rfl) (wd hw 33 rfl) (wd hw 34 rfl) rfl d2_1 (by decide) 0 (Nat.le_of_eq rfl) (by decide) (fun T661 X661 => ?_)
  refine g_aloadN C X661 d2_4 rfl rfl ?_
  refine g_getstatic (host := "") C X661 (Or.inl (wd hw 35 rfl)) Via.refl SZR d2_5 (fun T662 X662 => ?_)
  refine g_putfield (host := "") C X662 (Or.inl (wd hw 37 rfl)) Via.refl O0 EO (Or.inl (wd hw 38 rfl)) (wd hw 11 rfl) (ty := (.object "java/math/BigInteger")) (by decide) rfl rfl no d2_8 (fun T663 h663 X663 W663 => ?_)
  have f663 := Fld.same W663 O0
  refine g_aloadN C X663 d2_11 rfl rfl ?_
  refine g_aloadN C X663 d2_12 rfl rfl ?_
  have f664 := (Fld.other W663 O1 (Or.inr (slot_ne (Or.inr (wd hw 40 rfl)) (Or.inl (wd hw 38 rfl)) (by decide) (t := (.object "java/lang/String")) (t' := (.object "java/math/BigInteger")) (by decide) (by decide))))
  have f665 := (Exa.wr W663 EO)
  refine g_putfield (host := "") C X663 (Or.inl (wd hw 39 rfl)) Via.refl f664 f665 (Or.inr ⟨(wd hw 40 rfl), rfl, rfl⟩) (wd hw 11 rfl) (ty := (.object "java/lang/String")) (by decide) rfl rfl no d2_13 (fun T666 h666 X666 W666 => ?_)
  have f666 := Fld.same W666 f664
  refine g_aloadN C X666 d2_16 rfl rfl ?_
  refine g_aloadN C X666 d2_17 rfl rfl ?_
  have f667 := (Fld.other W666 (Fld.other W663 O2 (Or.inr (slot_ne (Or.inr (wd hw 42 rfl)) (Or.inl (wd hw 38 rfl)) (by decide) (t := (.object "java/lang/Object")) (t' := (.object "java/math/BigInteger")) (by decide) (by decide)))) (Or.inr (slot_ne (Or.inr (wd hw 42 rfl)) (Or.inr (wd hw 40 rfl)) (by decide) (t := (.object "java/lang/Object")) (t' := (.object "java/lang/String")) (by decide) (by decide))))
  have f668 := (Exa.wr W666 f665)
  refine g_putfield (host := "") C X666 (Or.inl (wd hw 41 rfl)) Via.refl f667 f668 (Or.inr ⟨(wd hw 42 rfl), rfl, rfl⟩) (wd hw 11 rfl) (ty := (.object "java/lang/Object")) (by decide) rfl rfl no d2_18 (fun T669 h669 X669 W669 => ?_)
  have f669 := Fld.same W669 f667
  refine g_aloadN C X669 d2_21 rfl rfl ?_
  refine g_aloadN C X669 d2_22 rfl rfl ?_
  have f670 := (Fld.other W669 (Fld.other W666 (Fld.other W663 O3 (Or.inr (slot_ne (Or.inr (wd hw 44 rfl)) (Or.inl (wd hw 38 rfl)) (by decide) (t := (.object "java/lang/String")) (t' := (.object "java/math/BigInteger")) (by decide) (by decide)))) (Or.inr (slot_ne (Or.inr (wd hw 44 rfl)) (Or.inr (wd hw 40 rfl)) (by decide) (t := (.object "java/lang/String")) (t' := (.object "java/lang/String")) (by decide) (by decide)))) (Or.inr (slot_ne (Or.inr (wd hw 44 rfl)) (Or.inr (wd hw 42 rfl)) (by decide) (t := (.object "java/lang/String")) (t' := (.object "java/lang/Object")) (by decide) (by decide))))
  have f671 := (Exa.wr W669 f668)
  refine g_putfield (host := "") C X669 (Or.inl (wd hw 43 rfl)) Via.refl f670 f671 (Or.inr ⟨(wd hw 44 rfl), rfl, rfl⟩) (wd hw 11 rfl) (ty := (.object "java/lang/String")) (by decide) rfl rfl no d2_23 (fun T672 h672 X672 W672 => ?_)
  have f672 := Fld.same W672 f670
  refine g_aloadN C X672 d2_26 rfl rfl ?_
  refine g_aload C X672 d2_27 rfl rfl ?_
  have f673 := (Fld.other W672 (Fld.other W669 (Fld.other W666 (Fld.other W663 O4 (Or.inr (slot_ne (Or.inr (wd hw 46 rfl)) (Or.inl (wd hw 38 rfl)) (by decide) (t := (.object "com/example/halyard/halyard/book/Side")) (t' := (.object "java/math/BigInteger")) (by decide) (by decide)))) (Or.inr (slot_ne (Or.inr (wd hw 46 rfl)) (Or.inr (wd hw 40 rfl)) (by decide) (t := (.object "com/example/halyard/halyard/book/Side")) (t' := (.object "java/lang/String")) (by decide) (by decide)))) (Or.inr (slot_ne (Or.inr (wd hw 46 rfl)) (Or.inr (wd hw 42 rfl)) (by decide) (t := (.object "com/example/halyard/halyard/book/Side")) (t' := (.object "java/lang/Object")) (by decide) (by decide)))) (Or.inr (slot_ne (Or.inr (wd hw 46 rfl)) (Or.inr (wd hw 44 rfl)) (by decide) (t := (.object "com/example/halyard/halyard/book/Side")) (t' := (.object "java/lang/String")) (by decide) (by decide))))
  have f674 := (Exa.wr W672 f671)
  refine g_putfield (host := "") C X672 (Or.inl (wd hw 45 rfl)) Via.refl f673 f674 (Or.inr ⟨(wd hw 46 rfl), rfl, rfl⟩) (wd hw 11 rfl) (ty := (.object "com/example/halyard/halyard/book/Side")) (by decide) rfl rfl no d2_29 (fun T675 h675 X675 W675 => ?_)
  have f675 := Fld.same W675 f673
  refine g_aloadN C X675 d2_32 rfl rfl ?_
  refine g_aload C X675 d2_33 rfl rfl ?_
  have f676 := (Fld.other W675 (Fld.other W672 (Fld.other W669 (Fld.other W666 (Fld.other W663 O5 (Or.inr (slot_ne (Or.inr (wd hw 48 rfl)) (Or.inl (wd hw 38 rfl)) (by decide) (t := (.object "com/example/halyard/halyard/orders/Order$Type")) (t' := (.object "java/math/BigInteger")) (by decide) (by decide)))) (Or.inr (slot_ne (Or.inr (wd hw 48 rfl)) (Or.inr (wd hw 40 rfl)) (by decide) (t := (.object "com/example/halyard/halyard/orders/Order$Type")) (t' := (.object "java/lang/String")) (by decide) (by decide)))) (Or.inr (slot_ne (Or.inr (wd hw 48 rfl)) (Or.inr (wd hw 42 rfl)) (by decide) (t := (.object "com/example/halyard/halyard/orders/Order$Type")) (t' := (.object "java/lang/Object")) (by decide) (by decide)))) (Or.inr (slot_ne (Or.inr (wd hw 48 rfl)) (Or.inr (wd hw 44 rfl)) (by decide) (t := (.object "com/example/halyard/halyard/orders/Order$Type")) (t' := (.object "java/lang/String")) (by decide) (by decide)))) (Or.inr (slot_ne (Or.inr (wd hw 48 rfl)) (Or.inr (wd hw 46 rfl)) (by decide) (t := (.object "com/example/halyard/halyard/orders/Order$Type")) (t' := (.object "com/example/halyard/halyard/book/Side")) (by decide) (by decide))))
  have f677 := (Exa.wr W675 f674)
  refine g_putfield (host := "") C X675 (Or.inl (wd hw 47 rfl)) Via.refl f676 f677 (Or.inr ⟨(wd hw 48 rfl), rfl, rfl⟩) (wd hw 11 rfl) (ty := (.object "com/example/halyard/halyard/orders/Order$Type")) (by decide) rfl rfl no d2_35 (fun T678 h678 X678 W678 => ?_)
  have f678 := Fld.same W678 f676
  refine g_aloadN C X678 d2_38 rfl rfl ?_
  refine g_aload C X678 d2_39 rfl rfl ?_
  have f679 := (Fld.other W678 (Fld.other W675 (Fld.other W672 (Fld.other W669 (Fld.other W666 (Fld.other W663 O6 (Or.inr (slot_ne (Or.inr (wd hw 50 rfl)) (Or.inl (wd hw 38 rfl)) (by decide) (t := (.object "com/example/halyard/halyard/orders/Order$TimeInForce")) (t' := (.object "java/math/BigInteger")) (by decide) (by decide)))) (Or.inr (slot_ne (Or.inr (wd hw 50 rfl)) (Or.inr (wd hw 40 rfl)) (by decide) (t := (.object "com/example/halyard/halyard/orders/Order$TimeInForce")) (t' := (.object "java/lang/String")) (by decide) (by decide)))) (Or.inr (slot_ne (Or.inr (wd hw 50 rfl)) (Or.inr (wd hw 42 rfl)) (by decide) (t := (.object "com/example/halyard/halyard/orders/Order$TimeInForce")) (t' := (.object "java/lang/Object")) (by decide) (by decide)))) (Or.inr (slot_ne (Or.inr (wd hw 50 rfl)) (Or.inr (wd hw 44 rfl)) (by decide) (t := (.object "com/example/halyard/halyard/orders/Order$TimeInForce")) (t' := (.object "java/lang/String")) (by decide) (by decide)))) (Or.inr (slot_ne (Or.inr (wd hw 50 rfl)) (Or.inr (wd hw 46 rfl)) (by decide) (t := (.object "com/example/halyard/halyard/orders/Order$TimeInForce")) (t' := (.object "com/example/halyard/halyard/book/Side")) (by decide) (by decide)))) (Or.inr (slot_ne (Or.inr (wd hw 50 rfl)) (Or.inr (wd hw 48 rfl)) (by decide) (t := (.object "com/example/halyard/halyard/orders/Order$TimeInForce")) (t' := (.object "com/example/halyard/halyard/orders/Order$Type")) (by decide) (by decide))))
  have f680 := (Exa.wr W678 f677)
  refine g_putfield (host := "") C X678 (Or.inl (wd hw 49 rfl)) Via.refl f679 f680 (Or.inr ⟨(wd hw 50 rfl), rfl, rfl⟩) (wd hw 11 rfl) (ty := (.object "com/example/halyard/halyard/orders/Order$TimeInForce")) (by decide) rfl rfl no d2_41 (fun T681 h681 X681 W681 => ?_)
  have f681 := Fld.same W681 f679
  refine g_aloadN C X681 d2_44 rfl rfl ?_
  refine g_lload C X681 d2_45 rfl ?_
  have f682 := (Fld.other W681 (Fld.other W678 (Fld.other W675 (Fld.other W672 (Fld.other W669 (Fld.other W666 (Fld.other W663 O7 (Or.inr (slot_ne (Or.inl (wd hw 52 rfl)) (Or.inl (wd hw 38 rfl)) (by decide) (t := .long) (t' := (.object "java/math/BigInteger")) (by decide) (by decide)))) (Or.inr (slot_ne (Or.inl (wd hw 52 rfl)) (Or.inr (wd hw 40 rfl)) (by decide) (t := .long) (t' := (.object "java/lang/String")) (by decide) (by decide)))) (Or.inr (slot_ne (Or.inl (wd hw 52 rfl)) (Or.inr (wd hw 42 rfl)) (by decide) (t := .long) (t' := (.object "java/lang/Object")) (by decide) (by decide)))) (Or.inr (slot_ne (Or.inl (wd hw 52 rfl)) (Or.inr (wd hw 44 rfl)) (by decide) (t := .long) (t' := (.object "java/lang/String")) (by decide) (by decide)))) (Or.inr (slot_ne (Or.inl (wd hw 52 rfl)) (Or.inr (wd hw 46 rfl)) (by decide) (t := .long) (t' := (.object "com/example/halyard/halyard/book/Side")) (by decide) (by decide)))) (Or.inr (slot_ne (Or.inl (wd hw 52 rfl)) (Or.inr (wd hw 48 rfl)) (by decide) (t := .long) (t' := (.object "com/example/halyard/halyard/orders/Order$Type")) (by decide) (by decide)))) (Or.inr (slot_ne (Or.inl (wd hw 52 rfl)) (Or.inr (wd hw 50 rfl)) (by decide) (t := .long) (t' := (.object "com/example/halyard/halyard/orders/Order$TimeInForce")) (by decide) (by decide))))
  have f683 := (Exa.wr W681 f680)
  refine g_putfield (host := "") C X681 (Or.inl (wd hw 51 rfl)) Via.refl f682 f683 (Or.inl (wd hw 52 rfl)) (wd hw 11 rfl) (ty := .long) (by decide) rfl rfl no d2_47 (fun T684 h684 X684 W684 => ?_)
  have f684 := Fld.same W684 f682
  refine g_aloadN C X684 d2_50 rfl rfl ?_
  refine g_lload C X684 d2_51 rfl ?_
  have f685 := (Fld.other W684 (Fld.other W681 (Fld.other W678 (Fld.other W675 (Fld.other W672 (Fld.other W669 (Fld.other W666 (Fld.other W663 O8 (Or.inr (slot_ne (Or.inl (wd hw 54 rfl)) (Or.inl (wd hw 38 rfl)) (by decide) (t := .long) (t' := (.object "java/math/BigInteger")) (by decide) (by decide)))) (Or.inr (slot_ne (Or.inl (wd hw 54 rfl)) (Or.inr (wd hw 40 rfl)) (by decide) (t := .long) (t' := (.object "java/lang/String")) (by decide) (by decide)))) (Or.inr (slot_ne (Or.inl (wd hw 54 rfl)) (Or.inr (wd hw 42 rfl)) (by decide) (t := .long) (t' := (.object "java/lang/Object")) (by decide) (by decide)))) (Or.inr (slot_ne (Or.inl (wd hw 54 rfl)) (Or.inr (wd hw 44 rfl)) (by decide) (t := .long) (t' := (.object "java/lang/String")) (by decide) (by decide)))) (Or.inr (slot_ne (Or.inl (wd hw 54 rfl)) (Or.inr (wd hw 46 rfl)) (by decide) (t := .long) (t' := (.object "com/example/halyard/halyard/book/Side")) (by decide) (by decide)))) (Or.inr (slot_ne (Or.inl (wd hw 54 rfl)) (Or.inr (wd hw 48 rfl)) (by decide) (t := .long) (t' := (.object "com/example/halyard/halyard/orders/Order$Type")) (by decide) (by decide)))) (Or.inr (slot_ne (Or.inl (wd hw 54 rfl)) (Or.inr (wd hw 50 rfl)) (by decide) (t := .long) (t' := (.object "com/example/halyard/halyard/orders/Order$TimeInForce")) (by decide) (by decide)))) (Or.inr (slot_ne (Or.inl (wd hw 54 rfl)) (Or.inl (wd hw 52 rfl)) (by decide) (t := .long) (t' := .long) (by decide) (by decide))))
  have f686 := (Exa.wr W684 f683)
  refine g_putfield (host := "") C X684 (Or.inl (wd hw 53 rfl)) Via.refl f685 f686 (Or.inl (wd hw 54 rfl)) (wd hw 11 rfl) (ty := .long) (by decide) rfl rfl no d2_53 (fun T687 h687 X687 W687 => ?_)
  have f687 := Fld.same W687 f685
  have kp688 := (Keep.refl h [o_]).wr W663 (Or.inl (by simp))
  have kp689 := kp688.wr W666 (Or.inl (by simp))
  have kp690 := kp689.wr W669 (Or.inl (by simp))
  have kp691 := kp690.wr W672 (Or.inl (by simp))
  have kp692 := kp691.wr W675 (Or.inl (by simp))
  have kp693 := kp692.wr W678 (Or.inl (by simp))
  have kp694 := kp693.wr W681 (Or.inl (by simp))
  have kp695 := kp694.wr W684 (Or.inl (by simp))
  have kp696 := kp695.wr W687 (Or.inl (by simp))
  have f697 := (Exa.wr W687 f686)
  have f698 := (Fld.other W687 (Fld.other W684 (Fld.other W681 (Fld.other W678 (Fld.other W675 (Fld.other W672 (Fld.other W669 (Fld.other W666 f663 (Or.inr (slot_ne (Or.inl (wd hw 38 rfl)) (Or.inr (wd hw 40 rfl)) (by decide) (t := (.object "java/math/BigInteger")) (t' := (.object "java/lang/String")) (by decide) (by decide)))) (Or.inr (slot_ne (Or.inl (wd hw 38 rfl)) (Or.inr (wd hw 42 rfl)) (by decide) (t := (.object "java/math/BigInteger")) (t' := (.object "java/lang/Object")) (by decide) (by decide)))) (Or.inr (slot_ne (Or.inl (wd hw 38 rfl)) (Or.inr (wd hw 44 rfl)) (by decide) (t := (.object "java/math/BigInteger")) (t' := (.object "java/lang/String")) (by decide) (by decide)))) (Or.inr (slot_ne (Or.inl (wd hw 38 rfl)) (Or.inr (wd hw 46 rfl)) (by decide) (t := (.object "java/math/BigInteger")) (t' := (.object "com/example/halyard/halyard/book/Side")) (by decide) (by decide)))) (Or.inr (slot_ne (Or.inl (wd hw 38 rfl)) (Or.inr (wd hw 48 rfl)) (by decide) (t := (.object "java/math/BigInteger")) (t' := (.object "com/example/halyard/halyard/orders/Order$Type")) (by decide) (by decide)))) (Or.inr (slot_ne (Or.inl (wd hw 38 rfl)) (Or.inr (wd hw 50 rfl)) (by decide) (t := (.object "java/math/BigInteger")) (t' := (.object "com/example/halyard/halyard/orders/Order$TimeInForce")) (by decide) (by decide)))) (Or.inr (slot_ne (Or.inl (wd hw 38 rfl)) (Or.inl (wd hw 52 rfl)) (by decide) (t := (.object "java/math/BigInteger")) (t' := .long) (by decide) (by decide)))) (Or.inr (slot_ne (Or.inl (wd hw 38 rfl)) (Or.inl (wd hw 54 rfl)) (by decide) (t := (.object "java/math/BigInteger")) (t' := .long) (by decide) (by decide))))
  have f699 := (Fld.other W687 (Fld.other W684 (Fld.other W681 (Fld.other W678 (Fld.other W675 (Fld.other W672 (Fld.other W669 (Fld.other W666 (Fld.other W663 O9 (Or.inr (slot_ne (Or.inl (wd hw 63 rfl)) (Or.inl (wd hw 38 rfl)) (by decide) (t := .long) (t' := (.object "java/math/BigInteger")) (by decide) (by decide)))) (Or.inr (slot_ne (Or.inl (wd hw 63 rfl)) (Or.inr (wd hw 40 rfl)) (by decide) (t := .long) (t' := (.object "java/lang/String")) (by decide) (by decide)))) (Or.inr (slot_ne (Or.inl (wd hw 63 rfl)) (Or.inr (wd hw 42 rfl)) (by decide) (t := .long) (t' := (.object "java/lang/Object")) (by decide) (by decide)))) (Or.inr (slot_ne (Or.inl (wd hw 63 rfl)) (Or.inr (wd hw 44 rfl)) (by decide) (t := .long) (t' := (.object "java/lang/String")) (by decide) (by decide)))) (Or.inr (slot_ne (Or.inl (wd hw 63 rfl)) (Or.inr (wd hw 46 rfl)) (by decide) (t := .long) (t' := (.object "com/example/halyard/halyard/book/Side")) (by decide) (by decide)))) (Or.inr (slot_ne (Or.inl (wd hw 63 rfl)) (Or.inr (wd hw 48 rfl)) (by decide) (t := .long) (t' := (.object "com/example/halyard/halyard/orders/Order$Type")) (by decide) (by decide)))) (Or.inr (slot_ne (Or.inl (wd hw 63 rfl)) (Or.inr (wd hw 50 rfl)) (by decide) (t := .long) (t' := (.object "com/example/halyard/halyard/orders/Order$TimeInForce")) (by decide) (by decide)))) (Or.inr (slot_ne (Or.inl (wd hw 63 rfl)) (Or.inl (wd hw 52 rfl)) (by decide) (t := .long) (t' := .long) (by decide) (by decide)))) (Or.inr (slot_ne (Or.inl (wd hw 63 rfl)) (Or.inl (wd hw 54 rfl)) (by decide) (t := .long) (t' := .long) (by decide) (by decide))))
  have f700 := (Fld.other W687 (Fld.other W684 (Fld.other W681 (Fld.other W678 (Fld.other W675 (Fld.other W672 (Fld.other W669 (Fld.other W666 (Fld.other W663 O10 (Or.inr (slot_ne (Or.inl (wd hw 61 rfl)) (Or.inl (wd hw 38 rfl)) (by decide) (t := .boolean) (t' := (.object "java/math/BigInteger")) (by decide) (by decide)))) (Or.inr (slot_ne (Or.inl (wd hw 61 rfl)) (Or.inr (wd hw 40 rfl)) (by decide) (t := .boolean) (t' := (.object "java/lang/String")) (by decide) (by decide)))) (Or.inr (slot_ne (Or.inl (wd hw 61 rfl)) (Or.inr (wd hw 42 rfl)) (by decide) (t := .boolean) (t' := (.object "java/lang/Object")) (by decide) (by decide)))) (Or.inr (slot_ne (Or.inl (wd hw 61 rfl)) (Or.inr (wd hw 44 rfl)) (by decide) (t := .boolean) (t' := (.object "java/lang/String")) (by decide) (by decide)))) (Or.inr (slot_ne (Or.inl (wd hw 61 rfl)) (Or.inr (wd hw 46 rfl)) (by decide) (t := .boolean) (t' := (.object "com/example/halyard/halyard/book/Side")) (by decide) (by decide)))) (Or.inr (slot_ne (Or.inl (wd hw 61 rfl)) (Or.inr (wd hw 48 rfl)) (by decide) (t := .boolean) (t' := (.object "com/example/halyard/halyard/orders/Order$Type")) (by decide) (by decide)))) (Or.inr (slot_ne (Or.inl (wd hw 61 rfl)) (Or.inr (wd hw 50 rfl)) (by decide) (t := .boolean) (t' := (.object "com/example/halyard/halyard/orders/Order$TimeInForce")) (by decide) (by decide)))) (Or.inr (slot_ne (Or.inl (wd hw 61 rfl)) (Or.inl (wd hw 52 rfl)) (by decide) (t := .boolean) (t' := .long) (by decide) (by decide)))) (Or.inr (slot_ne (Or.inl (wd hw 61 rfl)) (Or.inl (wd hw 54 rfl)) (by decide) (t := .boolean) (t' := .long) (by decide) (by decide))))
  exact g_retV C X687 d2_56 (by decide) (by decide) ⟨rfl, kp696, f697, f698, f687, f699, f700⟩
theorem ef_rFi (m : MethodId) (o_ : Addr) (sa : Int64) (lp : Int64) : entryFrame m #[(.ref o_), (.long sa), (.long lp)] 5 = mkF m 0 #[.val (.ref o_), .val (.long sa), .second, .val (.long lp), .second] [] := by first | (simp [entryFrame, mkF, argsToLocals, Value.category]; done) | rfl
theorem d5_0 : Dc prog_76_method_18_code 0 (.aload_n 0) 1 1 := ⟨by decide +kernel, rfl⟩
theorem d5_1 : Dc prog_76_method_18_code 1 (.dup) 1 2 := ⟨by decide +kernel, rfl⟩
theorem d5_2 : Dc prog_76_method_18_code 2 (.getfield 58) 3 5 := ⟨by decide +kernel, rfl⟩
theorem d5_5 : Dc prog_76_method_18_code 5 (.lload_n 1) 1 6 := ⟨by decide +kernel, rfl⟩
theorem d5_6 : Dc prog_76_method_18_code 6 (.ladd) 1 7 := ⟨by decide +kernel, rfl⟩
theorem d5_7 : Dc prog_76_method_18_code 7 (.putfield 58) 3 10 := ⟨by decide +kernel, rfl⟩
theorem d5_10 : Dc prog_76_method_18_code 10 (.aload_n 0) 1 11 := ⟨by decide +kernel, rfl⟩
theorem d5_11 : Dc prog_76_method_18_code 11 (.aload_n 0) 1 12 := ⟨by decide +kernel, rfl⟩
theorem d5_12 : Dc prog_76_method_18_code 12 (.getfield 13) 3 15 := ⟨by decide +kernel, rfl⟩
theorem d5_15 : Dc prog_76_method_18_code 15 (.lload_n 1) 1 16 := ⟨by decide +kernel, rfl⟩
theorem d5_16 : Dc prog_76_method_18_code 16 (.invokestatic 124) 3 19 := ⟨by decide +kernel, rfl⟩
theorem pd_17 : parseMethodDescriptor "(J)Ljava/math/BigInteger;" = some ⟨[.long], some (.object "java/math/BigInteger")⟩ := by decide +kernel
theorem d5_19 : Dc prog_76_method_18_code 19 (.lload_n 3) 1 20 := ⟨by decide +kernel, rfl⟩
theorem d5_20 : Dc prog_76_method_18_code 20 (.invokestatic 124) 3 23 := ⟨by decide +kernel, rfl⟩
theorem d5_23 : Dc prog_76_method_18_code 23 (.invokevirtual 127) 3 26 := ⟨by decide +kernel, rfl⟩
theorem pd_18 : parseMethodDescriptor "(Ljava/math/BigInteger;)Ljava/math/BigInteger;" = some ⟨[(.object "java/math/BigInteger")], some (.object "java/math/BigInteger")⟩ := by decide +kernel
theorem d5_26 : Dc prog_76_method_18_code 26 (.invokevirtual 131) 3 29 := ⟨by decide +kernel, rfl⟩
theorem d5_29 : Dc prog_76_method_18_code 29 (.putfield 13) 3 32 := ⟨by decide +kernel, rfl⟩
theorem d5_32 : Dc prog_76_method_18_code 32 (.return_) 1 33 := ⟨by decide +kernel, rfl⟩
theorem rFi (l : Launch) {Z : State} {a0 : Array Value} (hw : ∀ d ∈ tables_1, d.before a0 Z = true) {h : Heap} (hE : Ext Z.heap h) (o_ : Addr) (sa : Int64) (lp : Int64) (nt mx : Addr) (qt ex : Int64) (cc g1 n1 : Int32) (zr zm pc_ : Addr) (kp : ClassId) (vp : List Value) (SZR : Sta Z Z.heap "java/math/BigInteger" "ZERO" "Ljava/math/BigInteger;" (.ref zr)) (ZE : Exa Z Z.heap zr "java/math/BigInteger") (ZS : Fld Z Z.heap zr "java/math/BigInteger" "signum" "I" (.int (0 : Int32))) (ZM : Fld Z Z.heap zr "java/math/BigInteger" "mag" "[I" (.ref zm)) (ZV : IaS Z Z.heap zm 0) (SPC : Sta Z Z.heap "java/math/BigInteger" "posConst" "[Ljava/math/BigInteger;" (.ref pc_)) (VP : Arv Z Z.heap pc_ kp (.object "java/math/BigInteger") 17 vp .null) (PC : ∀ j : Nat, 1 ≤ j → j ≤ 16 → ∃ x mg : Addr, vp.getD j .null = .ref x ∧ Exa Z Z.heap x "java/math/BigInteger" ∧ Fld Z Z.heap x "java/math/BigInteger" "signum" "I" (.int (1 : Int32)) ∧ Fld Z Z.heap x "java/math/BigInteger" "mag" "[I" (.ref mg) ∧ IaS Z Z.heap mg 1) (EO : Exa Z h o_ "com/example/halyard/halyard/orders/Order") (no : Z.heap.size ≤ o_) (ON : Fld Z h o_ "com/example/halyard/halyard/orders/Order" "notional" "Ljava/math/BigInteger;" (.ref nt)) (OQ : Fld Z h o_ "com/example/halyard/halyard/orders/Order" "quantity" "J" (.long qt)) (OX : Fld Z h o_ "com/example/halyard/halyard/orders/Order" "executed" "J" (.long ex)) (OC : Fld Z h o_ "com/example/halyard/halyard/orders/Order" "cancelled" "Z" (.int cc)) (Ex : Exa Z h nt "java/math/BigInteger") (Sx : Fld Z h nt "java/math/BigInteger" "signum" "I" (.int g1)) (Mx : Fld Z h nt "java/math/BigInteger" "mag" "[I" (.ref mx)) (Vx : IaS Z h mx n1) (s1 : g1 = 0 ∨ (g1 = 1 ∧ 1 ≤ n1.toInt)) (b1 : n1.toInt ≤ 6) (hsa : ¬ sa < (0 : Int64)) (hlp : ¬ lp < (0 : Int64)) :
    Con l (⟨"com/example/halyard/halyard/orders/Order", "fill", "(JJ)V"⟩ : MethodName) prog_76_method_18_code 5 none [] ({ frames := 7, cells := 10, slots := 102, locals := 168 } : Room) Z #[(.ref o_), (.long sa), (.long lp)] h (fun v' h' => ∃ (nt' mg' : Addr) (g' n' : Int32), v' = none ∧ Keep h h' [o_] ∧ Exa Z h' o_ "com/example/halyard/halyard/orders/Order" ∧ Fld Z h' o_ "com/example/halyard/halyard/orders/Order" "notional" "Ljava/math/BigInteger;" (.ref nt') ∧ Fld Z h' o_ "com/example/halyard/halyard/orders/Order" "quantity" "J" (.long qt) ∧ Fld Z h' o_ "com/example/halyard/halyard/orders/Order" "executed" "J" (.long (ex + sa)) ∧ Fld Z h' o_ "com/example/halyard/halyard/orders/Order" "cancelled" "Z" (.int cc) ∧ Exa Z h' nt' "java/math/BigInteger" ∧ Fld Z h' nt' "java/math/BigInteger" "signum" "I" (.int g') ∧ Fld Z h' nt' "java/math/BigInteger" "mag" "[I" (.ref mg') ∧ IaS Z h' mg' n' ∧ (g' = 0 ∨ (g' = 1 ∧ 1 ≤ n'.toInt)) ∧ n'.toInt ≤ n1.toInt + 6) := by
  refine con_of (plainFor_of_name pn_6) hE (fun m => ef_rFi m o_ sa lp) ?_
  intro p e s m below meth c T0 C X0
  have C : Cx p s m meth c Z "com/example/halyard/halyard/orders/Order" "fill" prog_76_method_18_code 5 none := C
  show Goes p e below _ T0 (mkF m 0 #[.val (.ref o_), .val (.long sa), .second, .val (.long lp), .second] [])
  refine g_aloadN C X0 d5_0 rfl rfl ?_
  refine g_dup C X0 d5_1 rfl ?_
  refine g_getfield (host := "") C X0 (Or.inl (wd hw 62 rfl)) Via.refl OX d5_2 (fun T701 X701 => ?_)
  refine g_lloadN C X701 d5_5 rfl ?_
  refine g_ladd C X701 d5_6 ?_
  refine g_putfield (host := "") C X701 (Or.inl (wd hw 62 rfl)) Via.refl OX EO (Or.inl (wd hw 63 rfl)) (wd hw 11 rfl) (ty := .long) (by decide) rfl rfl no d5_7 (fun T702 h702 X702 W702 => ?_)
  have f702 := Fld.same W702 OX
  refine g_aloadN C X702 d5_10 rfl rfl ?_
  refine g_aloadN C X702 d5_11 rfl rfl ?_
  have f703 := (Fld.other W702 ON (Or.inr (slot_ne (Or.inl (wd hw 38 rfl)) (Or.inl (wd hw 63 rfl)) (by decide) (t := (.object "java/math/BigInteger")) (t' := .long) (by decide) (by decide))))
  refine g_getfield (host := "") C X702 (Or.inl (wd hw 37 rfl)) Via.refl f703 d5_12 (fun T704 X704 => ?_)
  refine g_lloadN C X704 d5_15 rfl ?_
  refine g_static (argsL := [(.long sa)]) (st := [(.ref nt), (.ref o_)]) C X704 (wd hw 69 rfl) (wd hw 70 rfl) (wd hw 36 rfl) (wd hw 71 rfl) (by decide) (pay_of (W' := 2) (rVO l hw X704.ext sa zr zm pc_ kp vp SZR ZE ZS ZM ZV SPC VP PC hsa) C.hZ (wd hw 71 rfl) (wd hw 36 rfl) (by decide) (by decide)) pd_17 rfl rfl _ rfl (Nat.le_of_eq rfl) d5_16 (by decide) (by decide) (fun T705 h705 v705 q705 X705 => ?_)
  obtain ⟨x705, mg705, sg705, nn705, rfl, E705, EX705, FS705, FM705, VM705, hs705, hb705⟩ := q705
  show Goes p e below _ T705 (mkF m 19 #[.val (.ref o_), .val (.long sa), .second, .val (.long lp), .second] [(.ref x705), (.ref nt), (.ref o_)])
  refine g_lloadN C X705 d5_19 rfl ?_
  refine g_static (argsL := [(.long lp)]) (st := [(.ref x705), (.ref nt), (.ref o_)]) C X705 (wd hw 69 rfl) (wd hw 70 rfl) (wd hw 36 rfl) (wd hw 71 rfl) (by decide) (pay_of (W' := 3) (rVO l hw X705.ext lp zr zm pc_ kp vp SZR ZE ZS ZM ZV SPC VP PC hlp) C.hZ (wd hw 71 rfl) (wd hw 36 rfl) (by decide) (by decide)) pd_17 rfl rfl _ rfl (Nat.le_of_eq rfl) d5_20 (by decide) (by decide) (fun T706 h706 v706 q706 X706 => ?_)
  obtain ⟨x706, mg706, sg706, nn706, rfl, E706, EX706, FS706, FM706, VM706, hs706, hb706⟩ := q706
  show Goes p e below _ T706 (mkF m 23 #[.val (.ref o_), .val (.long sa), .second, .val (.long lp), .second] [(.ref x706), (.ref x705), (.ref nt), (.ref o_)])
  have f707 := (Exa.ext E706 EX705)
  have f708 := (Fld.ext E706 FS705)
  have f709 := (Fld.ext E706 FM705)
  have f710 := (IaS.ext VM705 E706)
  refine g_virtual (argsL := [(.ref x706)]) (st := [(.ref nt), (.ref o_)]) C X706 (wd hw 74 rfl) (wd hw 75 rfl) (nf_of C (wd hw 77 rfl) rfl rfl) (wd hw 77 rfl) (wd hw 76 rfl) (by decide) f707 (pay_of (W' := 2) (rMul l hw X706.ext x705 x706 mg705 mg706 sg705 nn705 sg706 nn706 zr zm pc_ kp vp SZR ZE ZS ZM ZV SPC VP PC f707 f708 f709 f710 EX706 FS706 FM706 VM706 hs705 hb705 hs706 hb706) C.hZ (wd hw 78 rfl) (wd hw 36 rfl) (by decide) (by decide)) pd_18 rfl rfl _ rfl (Nat.le_of_eq rfl) d5_23 (by decide) (by decide) (fun T711 h711 v711 q711 X711 => ?_)
  obtain ⟨x711, mg711, sg711, nn711, rfl, E711, EX711, FS711, FM711, VM711, hs711, hb711⟩ := q711
  show Goes p e below _ T711 (mkF m 26 #[.val (.ref o_), .val (.long sa), .second, .val (.long lp), .second] [(.ref x711), (.ref nt), (.ref o_)])
  have f712 := (Exa.ext E711 (Exa.ext E706 (Exa.ext E705 (Exa.wr W702 Ex))))
  have f713 := (Fld.ext E711 (Fld.ext E706 (Fld.ext E705 (Fld.other W702 Sx (Or.inl (Ne.symm (Exa.ne EO Ex (by decide))))))))
  have f714 := (Fld.ext E711 (Fld.ext E706 (Fld.ext E705 (Fld.other W702 Mx (Or.inl (Ne.symm (Exa.ne EO Ex (by decide))))))))
  have f715 := (IaS.ext (IaS.ext (IaS.ext (IaS.other Vx W702 (Ne.symm (own_neI EO Vx (wd hw 11 rfl)))) E705) E706) E711)
  refine g_virtual (argsL := [(.ref x711)]) (st := [(.ref o_)]) C X711 (wd hw 131 rfl) (wd hw 132 rfl) (nf_of C (wd hw 134 rfl) rfl rfl) (wd hw 134 rfl) (wd hw 133 rfl) (by decide) f712 (pay_of (W' := 1) (rAdd l hw X711.ext nt x711 mx mg711 g1 n1 sg711 nn711 f712 f713 f714 f715 EX711 FS711 FM711 VM711 s1 b1 hs711 hb711) C.hZ (wd hw 135 rfl) (wd hw 36 rfl) (by decide) (by decide)) pd_18 rfl rfl _ rfl (Nat.le_of_eq rfl) d5_26 (by decide) (by decide) (fun T716 h716 v716 q716 X716 => ?_)
  obtain ⟨x716, mg716, sg716, nn716, rfl, E716, EX716, FS716, FM716, VM716, hs716, hb716⟩ := q716
  show Goes p e below _ T716 (mkF m 29 #[.val (.ref o_), .val (.long sa), .second, .val (.long lp), .second] [(.ref x716), (.ref o_)])
  have f718 := (Exa.ext E716 (Exa.ext E711 (Exa.ext E706 (Exa.ext E705 (Exa.wr W702 EO)))))
  have na717 := Exa.ne f718 EX716 (by decide)
  have nm717 := own_neI f718 VM716 (wd hw 11 rfl)
  have f719 := (Fld.ext E716 (Fld.ext E711 (Fld.ext E706 (Fld.ext E705 f703))))
  refine g_putfield (host := "") C X716 (Or.inl (wd hw 37 rfl)) Via.refl f719 f718 (Or.inl (wd hw 38 rfl)) (wd hw 11 rfl) (ty := (.object "java/math/BigInteger")) (by decide) rfl rfl no d5_29 (fun T720 h720 X720 W720 => ?_)
  have f720 := Fld.same W720 f719
  have kp721 := (Keep.refl h [o_]).wr W702 (Or.inl (by simp))
  have kp722 := kp721.ext E705
  have kp723 := kp722.ext E706
  have kp724 := kp723.ext E711
  have kp725 := kp724.ext E716
  have kp726 := kp725.wr W720 (Or.inl (by simp))
  have f727 := (Exa.wr W720 f718)
  have f728 := (Fld.other W720 (Fld.ext E716 (Fld.ext E711 (Fld.ext E706 (Fld.ext E705 (Fld.other W702 OQ (Or.inr (slot_ne (Or.inl (wd hw 54 rfl)) (Or.inl (wd hw 63 rfl)) (by decide) (t := .long) (t' := .long) (by decide) (by decide)))))))) (Or.inr (slot_ne (Or.inl (wd hw 54 rfl)) (Or.inl (wd hw 38 rfl)) (by decide) (t := .long) (t' := (.object "java/math/BigInteger")) (by decide) (by decide))))
  have f729 := (Fld.other W720 (Fld.ext E716 (Fld.ext E711 (Fld.ext E706 (Fld.ext E705 f702)))) (Or.inr (slot_ne (Or.inl (wd hw 63 rfl)) (Or.inl (wd hw 38 rfl)) (by decide) (t := .long) (t' := (.object "java/math/BigInteger")) (by decide) (by decide))))
  have f730 := (Fld.other W720 (Fld.ext E716 (Fld.ext E711 (Fld.ext E706 (Fld.ext E705 (Fld.other W702 OC (Or.inr (slot_ne (Or.inl (wd hw 61 rfl)) (Or.inl (wd hw 63 rfl)) (by decide) (t := .boolean) (t' := .long) (by decide) (by decide)))))))) (Or.inr (slot_ne (Or.inl (wd hw 61 rfl)) (Or.inl (wd hw 38 rfl)) (by decide) (t := .boolean) (t' := (.object "java/math/BigInteger")) (by decide) (by decide))))
  have f731 := (Exa.wr W720 EX716)
  have f732 := (Fld.other W720 FS716 (Or.inl (Ne.symm na717)))
  have f733 := (Fld.other W720 FM716 (Or.inl (Ne.symm na717)))
  have f734 := (IaS.other VM716 W720 (Ne.symm nm717))
  exact g_retV C X720 d5_32 (by decide) (by decide) ⟨x716, mg716, sg716, nn716, rfl, kp726, f727, f720, f728, f729, f730, f731, f732, f733, f734, hs716, hb716⟩
theorem ef_rL0 (m : MethodId) (o_ : Addr) : entryFrame m #[(.ref o_)] 1 = mkF m 0 #[.val (.ref o_)] [] := by first | (simp [entryFrame, mkF, argsToLocals, Value.category]; done) | rfl
theorem d4_0 : Dc prog_76_method_12_code 0 (.aload_n 0) 1 1 := ⟨by decide +kernel, rfl⟩
theorem d4_1 : Dc prog_76_method_12_code 1 (.getfield 61) 3 4 := ⟨by decide +kernel, rfl⟩
theorem d4_4 : Dj prog_76_method_12_code 4 (.ifCond .eq 7) 7 3 7 11 := ⟨by decide +kernel, rfl, by decide, by decide⟩
theorem d4_11 : Dc prog_76_method_12_code 11 (.aload_n 0) 1 12 := ⟨by decide +kernel, rfl⟩
theorem d4_12 : Dc prog_76_method_12_code 12 (.getfield 45) 3 15 := ⟨by decide +kernel, rfl⟩
theorem d4_15 : Dc prog_76_method_12_code 15 (.aload_n 0) 1 16 := ⟨by decide +kernel, rfl⟩
theorem d4_16 : Dc prog_76_method_12_code 16 (.getfield 58) 3 19 := ⟨by decide +kernel, rfl⟩
theorem d4_19 : Dc prog_76_method_12_code 19 (.lsub) 1 20 := ⟨by decide +kernel, rfl⟩
theorem d4_20 : Dc prog_76_method_12_code 20 (.lreturn) 1 21 := ⟨by decide +kernel, rfl⟩
theorem rL0 (l : Launch) {Z : State} {a0 : Array Value} (hw : ∀ d ∈ tables_1, d.before a0 Z = true) {h : Heap} (hE : Ext Z.heap h) (o_ : Addr) (nt : Addr) (qt ex : Int64) (EO : Exa Z h o_ "com/example/halyard/halyard/orders/Order") (no : Z.heap.size ≤ o_) (ON : Fld Z h o_ "com/example/halyard/halyard/orders/Order" "notional" "Ljava/math/BigInteger;" (.ref nt)) (OQ : Fld Z h o_ "com/example/halyard/halyard/orders/Order" "quantity" "J" (.long qt)) (OX : Fld Z h o_ "com/example/halyard/halyard/orders/Order" "executed" "J" (.long ex)) (OC : Fld Z h o_ "com/example/halyard/halyard/orders/Order" "cancelled" "Z" (.int (0 : Int32))) :
    Con l (⟨"com/example/halyard/halyard/orders/Order", "leaves", "()J"⟩ : MethodName) prog_76_method_12_code 1 (some .long) [] ({ frames := 0, cells := 0, slots := 0, locals := 0 } : Room) Z #[(.ref o_)] h (fun v' h' => v' = some (.long (qt - ex)) ∧ h' = h) := by
  refine con_of (plainFor_of_name pn_6) hE (fun m => ef_rL0 m o_) ?_
  intro p e s m below meth c T0 C X0
  have C : Cx p s m meth c Z "com/example/halyard/halyard/orders/Order" "leaves" prog_76_method_12_code 1 (some .long) := C
  show Goes p e below _ T0 (mkF m 0 #[.val (.ref o_)] [])
  refine g_aloadN C X0 d4_0 rfl rfl ?_
  refine g_getfield (host := "") C X0 (Or.inl (wd hw 60 rfl)) Via.refl OC d4_1 (fun T735 X735 => ?_)
  refine g_if (h0_eq _) C X735 d4_4 (fun _ => ?_) (fun q => absurd (by decide) q)
  refine g_aloadN C X735 d4_11 rfl rfl ?_
  refine g_getfield (host := "") C X735 (Or.inl (wd hw 53 rfl)) Via.refl OQ d4_12 (fun T736 X736 => ?_)
  refine g_aloadN C X736 d4_15 rfl rfl ?_
  refine g_getfield (host := "") C X736 (Or.inl (wd hw 62 rfl)) Via.refl OX d4_16 (fun T737 X737 => ?_)
  refine g_lsub C X737 d4_19 ?_
  exact g_retJ C X737 d4_20 (by decide) (by decide) ⟨rfl, rfl⟩
theorem ef_rL1 (m : MethodId) (o_ : Addr) : entryFrame m #[(.ref o_)] 1 = mkF m 0 #[.val (.ref o_)] [] := by first | (simp [entryFrame, mkF, argsToLocals, Value.category]; done) | rfl
theorem d4_7 : Dc prog_76_method_12_code 7 (.lconst 0) 1 8 := ⟨by decide +kernel, rfl⟩
theorem d4_8 : Dj prog_76_method_12_code 8 (.goto 12) 12 3 11 20 := ⟨by decide +kernel, rfl, by decide, by decide⟩
theorem rL1 (l : Launch) {Z : State} {a0 : Array Value} (hw : ∀ d ∈ tables_1, d.before a0 Z = true) {h : Heap} (hE : Ext Z.heap h) (o_ : Addr) (nt : Addr) (qt ex : Int64) (EO : Exa Z h o_ "com/example/halyard/halyard/orders/Order") (no : Z.heap.size ≤ o_) (ON : Fld Z h o_ "com/example/halyard/halyard/orders/Order" "notional" "Ljava/math/BigInteger;" (.ref nt)) (OQ : Fld Z h o_ "com/example/halyard/halyard/orders/Order" "quantity" "J" (.long qt)) (OX : Fld Z h o_ "com/example/halyard/halyard/orders/Order" "executed" "J" (.long ex)) (OC : Fld Z h o_ "com/example/halyard/halyard/orders/Order" "cancelled" "Z" (.int (1 : Int32))) :
    Con l (⟨"com/example/halyard/halyard/orders/Order", "leaves", "()J"⟩ : MethodName) prog_76_method_12_code 1 (some .long) [] ({ frames := 0, cells := 0, slots := 0, locals := 0 } : Room) Z #[(.ref o_)] h (fun v' h' => v' = some (.long (0 : Int64)) ∧ h' = h) := by
  refine con_of (plainFor_of_name pn_6) hE (fun m => ef_rL1 m o_) ?_
  intro p e s m below meth c T0 C X0
  have C : Cx p s m meth c Z "com/example/halyard/halyard/orders/Order" "leaves" prog_76_method_12_code 1 (some .long) := C
  show Goes p e below _ T0 (mkF m 0 #[.val (.ref o_)] [])
  refine g_aloadN C X0 d4_0 rfl rfl ?_
  refine g_getfield (host := "") C X0 (Or.inl (wd hw 60 rfl)) Via.refl OC d4_1 (fun T738 X738 => ?_)
  refine g_if (h0_eq _) C X738 d4_4 (fun q => absurd q (by decide)) (fun _ => ?_)
  refine g_lconst 0 C X738 d4_7 rfl ?_
  refine g_goto C X738 d4_8 ?_
  exact g_retJ C X738 d4_20 (by decide) (by decide) ⟨rfl, rfl⟩
theorem ef_rCa (m : MethodId) (o_ : Addr) : entryFrame m #[(.ref o_)] 1 = mkF m 0 #[.val (.ref o_)] [] := by first | (simp [entryFrame, mkF, argsToLocals, Value.category]; done) | rfl
theorem d19_0 : Dc prog_76_method_19_code 0 (.aload_n 0) 1 1 := ⟨by decide +kernel, rfl⟩
theorem d19_1 : Dc prog_76_method_19_code 1 (.iconst 1) 1 2 := ⟨by decide +kernel, rfl⟩
theorem d19_2 : Dc prog_76_method_19_code 2 (.putfield 61) 3 5 := ⟨by decide +kernel, rfl⟩
theorem d19_5 : Dc prog_76_method_19_code 5 (.return_) 1 6 := ⟨by decide +kernel, rfl⟩
theorem rCa (l : Launch) {Z : State} {a0 : Array Value} (hw : ∀ d ∈ tables_1, d.before a0 Z = true) {h : Heap} (hE : Ext Z.heap h) (o_ : Addr) (nt : Addr) (qt ex : Int64) (EO : Exa Z h o_ "com/example/halyard/halyard/orders/Order") (no : Z.heap.size ≤ o_) (ON : Fld Z h o_ "com/example/halyard/halyard/orders/Order" "notional" "Ljava/math/BigInteger;" (.ref nt)) (OQ : Fld Z h o_ "com/example/halyard/halyard/orders/Order" "quantity" "J" (.long qt)) (OX : Fld Z h o_ "com/example/halyard/halyard/orders/Order" "executed" "J" (.long ex)) (OC : Fld Z h o_ "com/example/halyard/halyard/orders/Order" "cancelled" "Z" (.int (0 : Int32))) :
    Con l (⟨"com/example/halyard/halyard/orders/Order", "cancel", "()V"⟩ : MethodName) prog_76_method_19_code 1 none [] ({ frames := 0, cells := 0, slots := 0, locals := 0 } : Room) Z #[(.ref o_)] h (fun v' h' => v' = none ∧ Keep h h' [o_] ∧ Exa Z h' o_ "com/example/halyard/halyard/orders/Order" ∧ Fld Z h' o_ "com/example/halyard/halyard/orders/Order" "notional" "Ljava/math/BigInteger;" (.ref nt) ∧ Fld Z h' o_ "com/example/halyard/halyard/orders/Order" "quantity" "J" (.long qt) ∧ Fld Z h' o_ "com/example/halyard/halyard/orders/Order" "executed" "J" (.long ex) ∧ Fld Z h' o_ "com/example/halyard/halyard/orders/Order" "cancelled" "Z" (.int (1 : Int32))) := by
  refine con_of (plainFor_of_name pn_6) hE (fun m => ef_rCa m o_) ?_
  intro p e s m below meth c T0 C X0
  have C : Cx p s m meth c Z "com/example/halyard/halyard/orders/Order" "cancel" prog_76_method_19_code 1 none := C
  show Goes p e below _ T0 (mkF m 0 #[.val (.ref o_)] [])
  refine g_aloadN C X0 d19_0 rfl rfl ?_
  refine g_iconst 1 C X0 d19_1 rfl ?_
  refine g_putfield (host := "") C X0 (Or.inl (wd hw 60 rfl)) Via.refl OC EO (Or.inl (wd hw 61 rfl)) (wd hw 11 rfl) (ty := .boolean) (by decide) rfl rfl no d19_2 (fun T739 h739 X739 W739 => ?_)
  have f739 := Fld.same W739 OC
  have kp740 := (Keep.refl h [o_]).wr W739 (Or.inl (by simp))
  have f741 := (Exa.wr W739 EO)
  have f742 := (Fld.other W739 ON (Or.inr (slot_ne (Or.inl (wd hw 38 rfl)) (Or.inl (wd hw 61 rfl)) (by decide) (t := (.object "java/math/BigInteger")) (t' := .boolean) (by decide) (by decide))))
  have f743 := (Fld.other W739 OQ (Or.inr (slot_ne (Or.inl (wd hw 54 rfl)) (Or.inl (wd hw 61 rfl)) (by decide) (t := .long) (t' := .boolean) (by decide) (by decide))))
  have f744 := (Fld.other W739 OX (Or.inr (slot_ne (Or.inl (wd hw 63 rfl)) (Or.inl (wd hw 61 rfl)) (by decide) (t := .long) (t' := .boolean) (by decide) (by decide))))
  exact g_retV C X739 d19_5 (by decide) (by decide) ⟨rfl, kp740, f741, f742, f743, f744, f739⟩
theorem ef_rV1 (m : MethodId)  : entryFrame m #[(.int 1)] 1 = mkF m 0 #[.val (.int 1)] [] := by first | (simp [entryFrame, mkF, argsToLocals, Value.category]; done) | rfl
theorem d1_0 : Dc jdk_33_method_22_code 0 (.iload_n 0) 1 1 := ⟨by decide +kernel, rfl⟩
theorem d1_1 : Dc jdk_33_method_22_code 1 (.bipush (-128)) 2 3 := ⟨by decide +kernel, rfl⟩
theorem d1_3 : Dj jdk_33_method_22_code 3 (.if_icmp .lt 20) 20 3 6 23 := ⟨by decide +kernel, rfl, by decide, by decide⟩
theorem d1_6 : Dc jdk_33_method_22_code 6 (.iload_n 0) 1 7 := ⟨by decide +kernel, rfl⟩
theorem d1_7 : Dc jdk_33_method_22_code 7 (.getstatic 191) 3 10 := ⟨by decide +kernel, rfl⟩
theorem d1_10 : Dj jdk_33_method_22_code 10 (.if_icmp .gt 13) 13 3 13 23 := ⟨by decide +kernel, rfl, by decide, by decide⟩
theorem d1_13 : Dc jdk_33_method_22_code 13 (.getstatic 195) 3 16 := ⟨by decide +kernel, rfl⟩
theorem d1_16 : Dc jdk_33_method_22_code 16 (.iload_n 0) 1 17 := ⟨by decide +kernel, rfl⟩
theorem d1_17 : Dc jdk_33_method_22_code 17 (.sipush 128) 3 20 := ⟨by decide +kernel, rfl⟩
theorem d1_20 : Dc jdk_33_method_22_code 20 (.iadd) 1 21 := ⟨by decide +kernel, rfl⟩
theorem d1_21 : Dc jdk_33_method_22_code 21 (.aaload) 1 22 := ⟨by decide +kernel, rfl⟩
theorem d1_22 : Dc jdk_33_method_22_code 22 (.areturn) 1 23 := ⟨by decide +kernel, rfl⟩
theorem rV1 (l : Launch) {Z : State} {a0 : Array Value} (hw : ∀ d ∈ tables_1, d.before a0 Z = true) {h : Heap} (hE : Ext Z.heap h)  (ca : Addr) (kc : ClassId) (vc : List Value) (SH : Sta Z Z.heap "java/lang/Integer$IntegerCache" "high" "I" (.int (127 : Int32))) (SC : Sta Z Z.heap "java/lang/Integer$IntegerCache" "cache" "[Ljava/lang/Integer;" (.ref ca)) (VC : Arv Z Z.heap ca kc (.object "java/lang/Integer") 256 vc .null) (HB : ∀ j : Int32, ¬ j < 0 → j < 256 → ∃ b : Addr, vc.getD j.toNatClampNeg .null = .ref b ∧ Exa Z Z.heap b "java/lang/Integer" ∧ Fld Z Z.heap b "java/lang/Integer" "value" "I" (.int (j - 128))) :
    Con l (⟨"java/lang/Integer", "valueOf", "(I)Ljava/lang/Integer;"⟩ : MethodName) jdk_33_method_22_code 1 (some (.object "java/lang/Integer")) [] ({ frames := 0, cells := 0, slots := 0, locals := 0 } : Room) Z #[(.int 1)] h (fun v' h' => ∃ bx : Addr, v' = some (.ref bx) ∧ h' = h) := by
  refine con_of (plainFor_of_name pn_0) hE (fun m => ef_rV1 m ) ?_
  intro p e s m below meth c T0 C X0
  have C : Cx p s m meth c Z "java/lang/Integer" "valueOf" jdk_33_method_22_code 1 (some (.object "java/lang/Integer")) := C
  show Goes p e below _ T0 (mkF m 0 #[.val (.int 1)] [])
  refine g_iloadN C X0 d1_0 rfl ?_
  refine g_bipush (-128) C X0 d1_1 rfl ?_
  refine g_icmp (hI_lt _ _) C X0 d1_3 (fun q => absurd q (by decide)) (fun _ => ?_)
  refine g_iloadN C X0 d1_6 rfl ?_
  refine g_getstatic (host := "") C X0 (Or.inl (wd hw 25 rfl)) Via.refl SH d1_7 (fun T745 X745 => ?_)
  refine g_icmp (hI_gt _ _) C X745 d1_10 (fun q => absurd q (by decide)) (fun _ => ?_)
  refine g_getstatic (host := "") C X745 (Or.inl (wd hw 27 rfl)) Via.refl SC d1_13 (fun T746 X746 => ?_)
  refine g_iloadN C X746 d1_16 rfl ?_
  refine g_sipush 128 C X746 d1_17 rfl ?_
  refine g_iadd C X746 d1_20 ?_
  obtain ⟨bx, ebx, -, -⟩ := HB 129 (by decide) (by decide)
  refine g_aaload C X746 (Arv.ext VC X746.ext) rfl d1_21 (by decide) (by decide) ebx ?_
  exact g_retA C X746 rfl rfl d1_22 (by decide) (by decide) ⟨bx, rfl, rfl⟩
theorem own_fin (q s t : Int64) : (q - (((0 : Int64) + t) + (s - t))) = (q - s) := by
  congr 1
  rw [Int64.zero_add, Int64.add_comm, Int64.sub_add_cancel]
theorem own_nz64 {q : Int64} (h : 0 < q.toInt) : q ≠ 0 := fun z => by subst z; exact absurd h (by decide)
theorem own_nn64 {q : Int64} (h : 0 ≤ q.toInt) : ¬ q < (0 : Int64) := by
  rw [Int64.lt_iff_toInt_lt, show (0 : Int64).toInt = 0 from rfl]; omega
theorem own_ps64 {q : Int64} (h : 0 ≤ q.toInt) (h1 : ¬ q = (0 : Int64)) : 0 < q.toInt := by
  have := own_pos64 h h1; rw [Int64.lt_iff_toInt_lt, show (0 : Int64).toInt = 0 from rfl] at this; exact this
theorem d0_181 : Dc code 181 (.new 38) 3 184 := ⟨at_181, rfl⟩
theorem d0_184 : Dc code 184 (.dup) 1 185 := ⟨at_184, rfl⟩
theorem d0_185 : Dc code 185 (.ldc 40) 2 187 := ⟨at_185, rfl⟩
theorem d0_187 : Dc code 187 (.iconst 1) 1 188 := ⟨at_187, rfl⟩
theorem d0_188 : Dc code 188 (.invokestatic 42) 3 191 := ⟨at_188, rfl⟩
theorem pd_19 : parseMethodDescriptor "(I)Ljava/lang/Integer;" = some ⟨[.int], some (.object "java/lang/Integer")⟩ := by decide +kernel
theorem d0_191 : Dc code 191 (.ldc 48) 2 193 := ⟨at_191, rfl⟩
theorem d0_193 : Dc code 193 (.aload 19) 2 195 := ⟨at_193, rfl⟩
theorem d0_195 : Dc code 195 (.aload 25) 2 197 := ⟨at_195, rfl⟩
theorem d0_197 : Dc code 197 (.aload 20) 2 199 := ⟨at_197, rfl⟩
theorem d0_199 : Dc code 199 (.lload 23) 2 201 := ⟨at_199, rfl⟩
theorem d0_201 : Dc code 201 (.lload 9) 2 203 := ⟨at_201, rfl⟩
theorem d0_203 : Dc code 203 (.invokespecial 50) 3 206 := ⟨at_203, rfl⟩
theorem pd_20 : parseMethodDescriptor "(Ljava/lang/String;Ljava/lang/Object;Ljava/lang/String;Lcom/example/halyard/halyard/book/Side;Lcom/example/halyard/halyard/orders/Order$Type;Lcom/example/halyard/halyard/orders/Order$TimeInForce;JJ)V" = some ⟨[(.object "java/lang/String"), (.object "java/lang/Object"), (.object "java/lang/String"), (.object "com/example/halyard/halyard/book/Side"), (.object "com/example/halyard/halyard/orders/Order$Type"), (.object "com/example/halyard/halyard/orders/Order$TimeInForce"), .long, .long], none⟩ := by decide +kernel
theorem d0_206 : Dc code 206 (.astore 26) 2 208 := ⟨at_206, rfl⟩
theorem d0_208 : Dc code 208 (.aload 26) 2 210 := ⟨at_208, rfl⟩
theorem d0_210 : Dc code 210 (.invokevirtual 53) 3 213 := ⟨at_210, rfl⟩
theorem pd_21 : parseMethodDescriptor "()J" = some ⟨[], some .long⟩ := by decide +kernel
theorem d0_213 : Dc code 213 (.lload 9) 2 215 := ⟨at_213, rfl⟩
theorem d0_215 : Dc code 215 (.lcmp) 1 216 := ⟨at_215, rfl⟩
theorem d0_216 : Dj code 216 (.ifCond .ne 7) 7 3 219 223 := ⟨at_216, rfl, by decide, by decide⟩
theorem d0_219 : Dc code 219 (.iconst 1) 1 220 := ⟨at_219, rfl⟩
theorem d0_220 : Dj code 220 (.goto 4) 4 3 223 224 := ⟨at_220, rfl, by decide, by decide⟩
theorem d0_224 : Dc code 224 (.istore 27) 2 226 := ⟨at_224, rfl⟩
theorem d0_226 : Dc code 226 (.aload 26) 2 228 := ⟨at_226, rfl⟩
theorem d0_228 : Dc code 228 (.lload 13) 2 230 := ⟨at_228, rfl⟩
theorem d0_230 : Dc code 230 (.lload 21) 2 232 := ⟨at_230, rfl⟩
theorem d0_232 : Dc code 232 (.invokevirtual 57) 3 235 := ⟨at_232, rfl⟩
theorem pd_22 : parseMethodDescriptor "(JJ)V" = some ⟨[.long, .long], none⟩ := by decide +kernel
theorem d0_235 : Dc code 235 (.aload 26) 2 237 := ⟨at_235, rfl⟩
theorem d0_237 : Dc code 237 (.lload 15) 2 239 := ⟨at_237, rfl⟩
theorem d0_239 : Dc code 239 (.lload 21) 2 241 := ⟨at_239, rfl⟩
theorem d0_241 : Dc code 241 (.invokevirtual 57) 3 244 := ⟨at_241, rfl⟩
theorem d0_244 : Dc code 244 (.iload 17) 2 246 := ⟨at_244, rfl⟩
theorem d0_246 : Dj code 246 (.ifCond .eq 8) 8 3 249 254 := ⟨at_246, rfl, by decide, by decide⟩
theorem d0_254 : Dc code 254 (.iload 17) 2 256 := ⟨at_254, rfl⟩
theorem d0_256 : Dj code 256 (.ifCond .eq 7) 7 3 259 263 := ⟨at_256, rfl, by decide, by decide⟩
theorem d0_263 : Dc code 263 (.lload 9) 2 265 := ⟨at_263, rfl⟩
theorem d0_265 : Dc code 265 (.lload 11) 2 267 := ⟨at_265, rfl⟩
theorem d0_267 : Dc code 267 (.lsub) 1 268 := ⟨at_267, rfl⟩
theorem d0_268 : Dc code 268 (.lstore 28) 2 270 := ⟨at_268, rfl⟩
theorem d0_270 : Dc code 270 (.iload 27) 2 272 := ⟨at_270, rfl⟩
theorem d0_272 : Dj code 272 (.ifCond .eq 18) 18 3 275 290 := ⟨at_272, rfl, by decide, by decide⟩
theorem d0_275 : Dc code 275 (.aload 26) 2 277 := ⟨at_275, rfl⟩
theorem d0_277 : Dc code 277 (.invokevirtual 53) 3 280 := ⟨at_277, rfl⟩
theorem d0_280 : Dc code 280 (.lload 28) 2 282 := ⟨at_280, rfl⟩
theorem d0_282 : Dc code 282 (.lcmp) 1 283 := ⟨at_282, rfl⟩
theorem d0_283 : Dj code 283 (.ifCond .ne 7) 7 3 286 290 := ⟨at_283, rfl, by decide, by decide⟩
theorem d0_286 : Dc code 286 (.iconst 1) 1 287 := ⟨at_286, rfl⟩
theorem d0_287 : Dj code 287 (.goto 4) 4 3 290 291 := ⟨at_287, rfl, by decide, by decide⟩
theorem d0_291 : Dc code 291 (.ireturn) 1 292 := ⟨at_291, rfl⟩
theorem d0_249 : Dc code 249 (.aload 26) 2 251 := ⟨at_249, rfl⟩
theorem d0_251 : Dc code 251 (.invokevirtual 61) 3 254 := ⟨at_251, rfl⟩
theorem d0_259 : Dc code 259 (.lconst 0) 1 260 := ⟨at_259, rfl⟩
theorem d0_260 : Dj code 260 (.goto 8) 8 3 263 268 := ⟨at_260, rfl, by decide, by decide⟩
theorem L181 {p : Program} {l : Launch} {e : Env} {s : State} {m : MethodId} {A : Array Value} {below : List Frame} {meth : Method} {c : Code} {Z : State} {a0 : Array Value} (hw : ∀ d ∈ tables_1, d.before a0 Z = true) {T0 : State} {h : Heap} {vm0 : Vm} {qa sb_ kb_ pa_ : Int64} {fl : Int32} {qv : Int64} {sv : Int64} {sk : Int64} {cc : Int32} {lm : Int32} {sd : Addr} {tf : Addr} {lp : Int64} {pr : Int64} {ty : Addr} (C : Cx p (s.setVm vm0) m meth c Z "com/example/halyard/halyard/orders/OrderLeavesPinLaw" "law" code maxLocals ret) (X0 : St p l e room_1 (s.setVm vm0) m A below meth c Z T0 h 0 0) (I0 : Lits Z consts_1 s vm0 h) (p_1 p_5 p_9 p_13 p_17 p_21 : Addr) (zr zm pc_ : Addr) (kp : ClassId) (vp : List Value) (SZR : Sta Z Z.heap "java/math/BigInteger" "ZERO" "Ljava/math/BigInteger;" (.ref zr)) (ZE : Exa Z Z.heap zr "java/math/BigInteger") (ZS : Fld Z Z.heap zr "java/math/BigInteger" "signum" "I" (.int (0 : Int32))) (ZM : Fld Z Z.heap zr "java/math/BigInteger" "mag" "[I" (.ref zm)) (ZV : IaS Z Z.heap zm 0) (SPC : Sta Z Z.heap "java/math/BigInteger" "posConst" "[Ljava/math/BigInteger;" (.ref pc_)) (VP : Arv Z Z.heap pc_ kp (.object "java/math/BigInteger") 17 vp .null) (PC : ∀ j : Nat, 1 ≤ j → j ≤ 16 → ∃ x mg : Addr, vp.getD j .null = .ref x ∧ Exa Z Z.heap x "java/math/BigInteger" ∧ Fld Z Z.heap x "java/math/BigInteger" "signum" "I" (.int (1 : Int32)) ∧ Fld Z Z.heap x "java/math/BigInteger" "mag" "[I" (.ref mg) ∧ IaS Z Z.heap mg 1) (ca : Addr) (kc : ClassId) (vc : List Value) (SH : Sta Z Z.heap "java/lang/Integer$IntegerCache" "high" "I" (.int (127 : Int32))) (SC : Sta Z Z.heap "java/lang/Integer$IntegerCache" "cache" "[Ljava/lang/Integer;" (.ref ca)) (VC : Arv Z Z.heap ca kc (.object "java/lang/Integer") 256 vc .null) (HB : ∀ j : Int32, ¬ j < 0 → j < 256 → ∃ b : Addr, vc.getD j.toNatClampNeg .null = .ref b ∧ Exa Z Z.heap b "java/lang/Integer" ∧ Fld Z Z.heap b "java/lang/Integer" "value" "I" (.int (j - 128))) (S_3 : Sta Z Z.heap "com/example/halyard/halyard/book/Side" "OFFER" "Lcom/example/halyard/halyard/book/Side;" (.ref p_1)) (E_4 : Exa Z Z.heap p_1 "com/example/halyard/halyard/book/Side") (S_7 : Sta Z Z.heap "com/example/halyard/halyard/orders/Order$TimeInForce" "IMMEDIATE_OR_CANCEL" "Lcom/example/halyard/halyard/orders/Order$TimeInForce;" (.ref p_5)) (E_8 : Exa Z Z.heap p_5 "com/example/halyard/halyard/orders/Order$TimeInForce") (S_11 : Sta Z Z.heap "com/example/halyard/halyard/orders/Order$Type" "MARKET" "Lcom/example/halyard/halyard/orders/Order$Type;" (.ref p_9)) (E_12 : Exa Z Z.heap p_9 "com/example/halyard/halyard/orders/Order$Type") (S_15 : Sta Z Z.heap "com/example/halyard/halyard/book/Side" "BID" "Lcom/example/halyard/halyard/book/Side;" (.ref p_13)) (E_16 : Exa Z Z.heap p_13 "com/example/halyard/halyard/book/Side") (S_19 : Sta Z Z.heap "com/example/halyard/halyard/orders/Order$Type" "LIMIT" "Lcom/example/halyard/halyard/orders/Order$Type;" (.ref p_17)) (E_20 : Exa Z Z.heap p_17 "com/example/halyard/halyard/orders/Order$Type") (S_23 : Sta Z Z.heap "com/example/halyard/halyard/orders/Order$TimeInForce" "DAY" "Lcom/example/halyard/halyard/orders/Order$TimeInForce;" (.ref p_21)) (E_24 : Exa Z Z.heap p_21 "com/example/halyard/halyard/orders/Order$TimeInForce") (S1 : 0 ≤ sk.toInt) (S2 : 0 ≤ (sv - sk).toInt) (P0 : 0 ≤ lp.toInt) :
    Goes p e below (EndL Z consts_1 s 48 2304 (fun v' h' => v' = some (.int 1))) T0 (mkF m 181 #[.val (.long qa), .second, .val (.long sb_), .second, .val (.long kb_), .second, .val (.long pa_), .second, .val (.int fl), .val (.long qv), .second, .val (.long sv), .second, .val (.long sk), .second, .val (.long (sv - sk)), .second, .val (.int cc), .val (.int lm), .val (.ref sd), .val (.ref tf), .val (.long lp), .second, .val (.long pr), .second, .val (.ref ty), .unset, .unset, .unset, .unset] []) := by
  refine g_new C X0 (wd hw 10 rfl) (wd hw 11 rfl) (wd hw 12 rfl) d0_181 (by decide) (by decide) (fun T747 h747 b747 g_b747 n_b747 X747 E747 A747 D747 M747 => ?_)
  have F_notional_b747 : Fld Z h747 b747 "com/example/halyard/halyard/orders/Order" "notional" "Ljava/math/BigInteger;" .null := D747 (Or.inl (wd hw 38 rfl)) (ty := (.object "java/math/BigInteger")) (by decide)
  have F_id_b747 : Fld Z h747 b747 "com/example/halyard/halyard/orders/Order" "id" "Ljava/lang/String;" .null := D747 (Or.inr (wd hw 40 rfl)) (ty := (.object "java/lang/String")) (by decide)
  have F_client_b747 : Fld Z h747 b747 "com/example/halyard/halyard/orders/Order" "client" "Ljava/lang/Object;" .null := D747 (Or.inr (wd hw 42 rfl)) (ty := (.object "java/lang/Object")) (by decide)
  have F_symbol_b747 : Fld Z h747 b747 "com/example/halyard/halyard/orders/Order" "symbol" "Ljava/lang/String;" .null := D747 (Or.inr (wd hw 44 rfl)) (ty := (.object "java/lang/String")) (by decide)
  have F_side_b747 : Fld Z h747 b747 "com/example/halyard/halyard/orders/Order" "side" "Lcom/example/halyard/halyard/book/Side;" .null := D747 (Or.inr (wd hw 46 rfl)) (ty := (.object "com/example/halyard/halyard/book/Side")) (by decide)
  have F_type_b747 : Fld Z h747 b747 "com/example/halyard/halyard/orders/Order" "type" "Lcom/example/halyard/halyard/orders/Order$Type;" .null := D747 (Or.inr (wd hw 48 rfl)) (ty := (.object "com/example/halyard/halyard/orders/Order$Type")) (by decide)
  have F_timeInForce_b747 : Fld Z h747 b747 "com/example/halyard/halyard/orders/Order" "timeInForce" "Lcom/example/halyard/halyard/orders/Order$TimeInForce;" .null := D747 (Or.inr (wd hw 50 rfl)) (ty := (.object "com/example/halyard/halyard/orders/Order$TimeInForce")) (by decide)
  have F_price_b747 : Fld Z h747 b747 "com/example/halyard/halyard/orders/Order" "price" "J" (.long 0) := D747 (Or.inl (wd hw 52 rfl)) (ty := .long) (by decide)
  have F_quantity_b747 : Fld Z h747 b747 "com/example/halyard/halyard/orders/Order" "quantity" "J" (.long 0) := D747 (Or.inl (wd hw 54 rfl)) (ty := .long) (by decide)
  have F_cancelled_b747 : Fld Z h747 b747 "com/example/halyard/halyard/orders/Order" "cancelled" "Z" (.int 0) := D747 (Or.inl (wd hw 61 rfl)) (ty := .boolean) (by decide)
  have F_executed_b747 : Fld Z h747 b747 "com/example/halyard/halyard/orders/Order" "executed" "J" (.long 0) := D747 (Or.inl (wd hw 63 rfl)) (ty := .long) (by decide)
  refine g_dup C X747 d0_184 rfl ?_
  have sz748 : h.size ≤ b747 := by rw [g_b747]; exact (Keep.refl h []).1
  have kp749 := (Keep.refl h []).ext E747
  have I750 := Lits.keep I0 kp749 sf0
  refine g_ldcx 4 C X747 I750 (own_wS hw) (wd hw 13 rfl) (by decide) (by decide) d0_185 (by decide) (by decide) (fun a751 T751 h751 C X751 I751 E751 => ?_)
  show Goes p e below _ T751 (mkF m 187 #[.val (.long qa), .second, .val (.long sb_), .second, .val (.long kb_), .second, .val (.long pa_), .second, .val (.int fl), .val (.long qv), .second, .val (.long sv), .second, .val (.long sk), .second, .val (.long (sv - sk)), .second, .val (.int cc), .val (.int lm), .val (.ref sd), .val (.ref tf), .val (.long lp), .second, .val (.long pr), .second, .val (.ref ty), .unset, .unset, .unset, .unset] [(.ref a751), (.ref b747), (.ref b747)])
  refine g_iconst 1 C X751 d0_187 rfl ?_
  refine g_static (argsL := [(.int 1)]) (st := [(.ref a751), (.ref b747), (.ref b747)]) C X751 (wd hw 21 rfl) (wd hw 22 rfl) (wd hw 23 rfl) (wd hw 24 rfl) (by decide) (pay_of (W' := 3) (rV1 l hw X751.ext ca kc vc SH SC VC HB) C.hZ (wd hw 24 rfl) (wd hw 23 rfl) (by decide) (by decide)) pd_19 rfl rfl _ rfl (Nat.le_of_eq rfl) d0_188 (by decide) (by decide) (fun T752 h752 v752 q752 X752 => ?_)
  obtain ⟨bx752, rfl, hh752⟩ := q752
  obtain rfl := hh752.symm
  show Goes p e below _ T752 (mkF m 191 #[.val (.long qa), .second, .val (.long sb_), .second, .val (.long kb_), .second, .val (.long pa_), .second, .val (.int fl), .val (.long qv), .second, .val (.long sv), .second, .val (.long sk), .second, .val (.long (sv - sk)), .second, .val (.int cc), .val (.int lm), .val (.ref sd), .val (.ref tf), .val (.long lp), .second, .val (.long pr), .second, .val (.ref ty), .unset, .unset, .unset, .unset] [(.ref bx752), (.ref a751), (.ref b747), (.ref b747)])
  refine g_ldcx 4 C X752 I751 (own_wS hw) (wd hw 28 rfl) (by decide) (by decide) d0_191 (by decide) (by decide) (fun a753 T753 h753 C X753 I753 E753 => ?_)
  show Goes p e below _ T753 (mkF m 193 #[.val (.long qa), .second, .val (.long sb_), .second, .val (.long kb_), .second, .val (.long pa_), .second, .val (.int fl), .val (.long qv), .second, .val (.long sv), .second, .val (.long sk), .second, .val (.long (sv - sk)), .second, .val (.int cc), .val (.int lm), .val (.ref sd), .val (.ref tf), .val (.long lp), .second, .val (.long pr), .second, .val (.ref ty), .unset, .unset, .unset, .unset] [(.ref a753), (.ref bx752), (.ref a751), (.ref b747), (.ref b747)])
  refine g_aload C X753 d0_193 rfl rfl ?_
  refine g_aload C X753 d0_195 rfl rfl ?_
  refine g_aload C X753 d0_197 rfl rfl ?_
  refine g_lload C X753 d0_199 rfl ?_
  refine g_lload C X753 d0_201 rfl ?_
  have f754 := (Exa.ext E753 (Exa.ext E751 A747))
  have f755 := (Fld.ext E753 (Fld.ext E751 F_notional_b747))
  have f756 := (Fld.ext E753 (Fld.ext E751 F_id_b747))
  have f757 := (Fld.ext E753 (Fld.ext E751 F_client_b747))
  have f758 := (Fld.ext E753 (Fld.ext E751 F_symbol_b747))
  have f759 := (Fld.ext E753 (Fld.ext E751 F_side_b747))
  have f760 := (Fld.ext E753 (Fld.ext E751 F_type_b747))
  have f761 := (Fld.ext E753 (Fld.ext E751 F_timeInForce_b747))
  have f762 := (Fld.ext E753 (Fld.ext E751 F_price_b747))
  have f763 := (Fld.ext E753 (Fld.ext E751 F_quantity_b747))
  have f764 := (Fld.ext E753 (Fld.ext E751 F_executed_b747))
  have f765 := (Fld.ext E753 (Fld.ext E751 F_cancelled_b747))
  refine g_special (argsL := [(.ref a751), (.ref bx752), (.ref a753), (.ref sd), (.ref ty), (.ref tf), (.long pr), (.long qv)]) (st := [(.ref b747)]) C X753 rfl (wd hw 29 rfl) (wd hw 30 rfl) (wd hw 31 rfl) (by decide) (pay_of (W' := 1) (rOI l hw X753.ext b747 a751 bx752 a753 sd ty tf pr qv zr zm pc_ kp vp SZR ZE ZS ZM ZV SPC VP PC f754 n_b747 f755 f756 f757 f758 f759 f760 f761 f762 f763 f764 f765) C.hZ (wd hw 31 rfl) (wd hw 12 rfl) (by decide) (by decide)) pd_20 rfl rfl _ rfl (Nat.le_of_eq rfl) d0_203 (by decide) (by decide) (fun T766 h766 v766 q766 X766 => ?_)
  obtain ⟨rfl, K766, EO766, ON766, OQ766, OX766, OC766⟩ := q766
  show Goes p e below _ T766 (mkF m 206 #[.val (.long qa), .second, .val (.long sb_), .second, .val (.long kb_), .second, .val (.long pa_), .second, .val (.int fl), .val (.long qv), .second, .val (.long sv), .second, .val (.long sk), .second, .val (.long (sv - sk)), .second, .val (.int cc), .val (.int lm), .val (.ref sd), .val (.ref tf), .val (.long lp), .second, .val (.long pr), .second, .val (.ref ty), .unset, .unset, .unset, .unset] [(.ref b747)])
  refine g_astore C X766 d0_206 rfl (l' := #[.val (.long qa), .second, .val (.long sb_), .second, .val (.long kb_), .second, .val (.long pa_), .second, .val (.int fl), .val (.long qv), .second, .val (.long sv), .second, .val (.long sk), .second, .val (.long (sv - sk)), .second, .val (.int cc), .val (.int lm), .val (.ref sd), .val (.ref tf), .val (.long lp), .second, .val (.long pr), .second, .val (.ref ty), .val (.ref b747), .unset, .unset, .unset]) rfl ?_
  refine g_aload C X766 d0_208 rfl rfl ?_
  refine g_virtualP (argsL := []) (st := []) C X766 (wd hw 55 rfl) (wd hw 56 rfl) (nf_of C (wd hw 58 rfl) rfl rfl) (wd hw 58 rfl) (wd hw 57 rfl) (by decide) EO766 (pay_of (W' := 0) (rL0 l hw X766.ext b747 zr qv (0 : Int64) EO766 n_b747 ON766 OQ766 OX766 OC766) C.hZ (wd hw 59 rfl) (wd hw 12 rfl) (by decide) (by decide)) pd_21 rfl rfl _ rfl (Nat.le_of_eq rfl) d0_210 (by decide) (by decide) (fun T767 X767 => ?_)
  refine g_lload C X767 d0_213 rfl ?_
  refine g_lcmp C X767 d0_215 ?_
  refine g_ifn (hL_ne _ _) C X767 d0_216 (fun q => absurd (Int64.sub_zero _) q) (fun _ => ?_)
  refine g_iconst 1 C X767 d0_219 rfl ?_
  refine g_goto C X767 d0_220 ?_
  refine g_istore C X767 d0_224 (l' := #[.val (.long qa), .second, .val (.long sb_), .second, .val (.long kb_), .second, .val (.long pa_), .second, .val (.int fl), .val (.long qv), .second, .val (.long sv), .second, .val (.long sk), .second, .val (.long (sv - sk)), .second, .val (.int cc), .val (.int lm), .val (.ref sd), .val (.ref tf), .val (.long lp), .second, .val (.long pr), .second, .val (.ref ty), .val (.ref b747), .val (.int 1), .unset, .unset]) rfl ?_
  refine g_aload C X767 d0_226 rfl rfl ?_
  refine g_lload C X767 d0_228 rfl ?_
  refine g_lload C X767 d0_230 rfl ?_
  refine g_virtual (argsL := [(.long sk), (.long lp)]) (st := []) C X767 (wd hw 64 rfl) (wd hw 65 rfl) (nf_of C (wd hw 67 rfl) rfl rfl) (wd hw 67 rfl) (wd hw 66 rfl) (by decide) EO766 (pay_of (W' := 0) (rFi l hw X767.ext b747 sk lp zr zm qv (0 : Int64) (0 : Int32) (0 : Int32) (0 : Int32) zr zm pc_ kp vp SZR ZE ZS ZM ZV SPC VP PC EO766 n_b747 ON766 OQ766 OX766 OC766 (Exa.ext X767.ext ZE) (Fld.ext X767.ext ZS) (Fld.ext X767.ext ZM) (IaS.ext ZV X767.ext) (Or.inl rfl) (by decide)  (own_nn64 S1) (own_nn64 P0)) C.hZ (wd hw 68 rfl) (wd hw 12 rfl) (by decide) (by decide)) pd_22 rfl rfl _ rfl (Nat.le_of_eq rfl) d0_232 (by decide) (by decide) (fun T768 h768 v768 q768 X768 => ?_)
  obtain ⟨nt768, mg768, g768, n768, rfl, K768, EO768, ON768, OQ768, OX768, OC768, NE768, NS768, NM768, NV768, hs768, hb768⟩ := q768
  show Goes p e below _ T768 (mkF m 235 #[.val (.long qa), .second, .val (.long sb_), .second, .val (.long kb_), .second, .val (.long pa_), .second, .val (.int fl), .val (.long qv), .second, .val (.long sv), .second, .val (.long sk), .second, .val (.long (sv - sk)), .second, .val (.int cc), .val (.int lm), .val (.ref sd), .val (.ref tf), .val (.long lp), .second, .val (.long pr), .second, .val (.ref ty), .val (.ref b747), .val (.int 1), .unset, .unset] [])
  refine g_aload C X768 d0_235 rfl rfl ?_
  refine g_lload C X768 d0_237 rfl ?_
  refine g_lload C X768 d0_239 rfl ?_
  refine g_virtual (argsL := [(.long (sv - sk)), (.long lp)]) (st := []) C X768 (wd hw 64 rfl) (wd hw 65 rfl) (nf_of C (wd hw 67 rfl) rfl rfl) (wd hw 67 rfl) (wd hw 66 rfl) (by decide) EO768 (pay_of (W' := 0) (rFi l hw X768.ext b747 (sv - sk) lp nt768 mg768 qv ((0 : Int64) + sk) (0 : Int32) g768 n768 zr zm pc_ kp vp SZR ZE ZS ZM ZV SPC VP PC EO768 n_b747 ON768 OQ768 OX768 OC768 NE768 NS768 NM768 NV768 hs768 (Int.le_trans hb768 (by decide))  (own_nn64 S2) (own_nn64 P0)) C.hZ (wd hw 68 rfl) (wd hw 12 rfl) (by decide) (by decide)) pd_22 rfl rfl _ rfl (Nat.le_of_eq rfl) d0_241 (by decide) (by decide) (fun T769 h769 v769 q769 X769 => ?_)
  obtain ⟨nt769, mg769, g769, n769, rfl, K769, EO769, ON769, OQ769, OX769, OC769, NE769, NS769, NM769, NV769, hs769, hb769⟩ := q769
  show Goes p e below _ T769 (mkF m 244 #[.val (.long qa), .second, .val (.long sb_), .second, .val (.long kb_), .second, .val (.long pa_), .second, .val (.int fl), .val (.long qv), .second, .val (.long sv), .second, .val (.long sk), .second, .val (.long (sv - sk)), .second, .val (.int cc), .val (.int lm), .val (.ref sd), .val (.ref tf), .val (.long lp), .second, .val (.long pr), .second, .val (.ref ty), .val (.ref b747), .val (.int 1), .unset, .unset] [])
  refine g_iload C X769 d0_244 rfl ?_
  refine g_if (h0_eq _) C X769 d0_246 (fun c246_770 => ?_) (fun c246_770 => ?_)
  · refine g_iload C X769 d0_254 rfl ?_
    refine g_if (h0_eq _) C X769 d0_256 (fun _ => ?_) (fun q => absurd c246_770 q)
    refine g_lload C X769 d0_263 rfl ?_
    refine g_lload C X769 d0_265 rfl ?_
    refine g_lsub C X769 d0_267 ?_
    refine g_lstore C X769 d0_268 (l' := #[.val (.long qa), .second, .val (.long sb_), .second, .val (.long kb_), .second, .val (.long pa_), .second, .val (.int fl), .val (.long qv), .second, .val (.long sv), .second, .val (.long sk), .second, .val (.long (sv - sk)), .second, .val (.int cc), .val (.int lm), .val (.ref sd), .val (.ref tf), .val (.long lp), .second, .val (.long pr), .second, .val (.ref ty), .val (.ref b747), .val (.int 1), .val (.long (qv - sv)), .second]) rfl ?_
    refine g_iload C X769 d0_270 rfl ?_
    refine g_if (h0_eq _) C X769 d0_272 (fun q => absurd q (by decide)) (fun _ => ?_)
    refine g_aload C X769 d0_275 rfl rfl ?_
    refine g_virtualP (argsL := []) (st := []) C X769 (wd hw 55 rfl) (wd hw 56 rfl) (nf_of C (wd hw 58 rfl) rfl rfl) (wd hw 58 rfl) (wd hw 57 rfl) (by decide) EO769 (pay_of (W' := 0) (rL0 l hw X769.ext b747 nt769 qv (((0 : Int64) + sk) + (sv - sk)) EO769 n_b747 ON769 OQ769 OX769 OC769) C.hZ (wd hw 59 rfl) (wd hw 12 rfl) (by decide) (by decide)) pd_21 rfl rfl _ rfl (Nat.le_of_eq rfl) d0_277 (by decide) (by decide) (fun T771 X771 => ?_)
    refine g_lload C X771 d0_280 rfl ?_
    refine g_lcmp C X771 d0_282 ?_
    refine g_ifn (hL_ne _ _) C X771 d0_283 (fun q => absurd (own_fin _ _ _) q) (fun _ => ?_)
    refine g_iconst 1 C X771 d0_286 rfl ?_
    refine g_goto C X771 d0_287 ?_
    have kp772 := (Keep.refl h753 [b747]).trans K766 (allS (Or.inl (by simp)) all0)
    have kp773 := kp772.trans K768 (allS (Or.inl (by simp)) all0)
    have kp774 := kp773.trans K769 (allS (Or.inl (by simp)) all0)
    have I775 := Lits.keep I753 kp774 (sfS own_safe0 sf0)
    exact goes_L I775 (own_EW hw) C.hZ (g_retN C X771 (by simp) d0_291 (1 : Int32) rfl (by decide) (by decide) ⟨rfl, rfl⟩)
  · refine g_aload C X769 d0_249 rfl rfl ?_
    refine g_virtual (argsL := []) (st := []) C X769 (wd hw 139 rfl) (wd hw 140 rfl) (nf_of C (wd hw 142 rfl) rfl rfl) (wd hw 142 rfl) (wd hw 141 rfl) (by decide) EO769 (pay_of (W' := 0) (rCa l hw X769.ext b747 nt769 qv (((0 : Int64) + sk) + (sv - sk)) EO769 n_b747 ON769 OQ769 OX769 OC769) C.hZ (wd hw 143 rfl) (wd hw 12 rfl) (by decide) (by decide)) pd_3 rfl rfl _ rfl (Nat.le_of_eq rfl) d0_251 (by decide) (by decide) (fun T776 h776 v776 q776 X776 => ?_)
    obtain ⟨rfl, K776, EO776, ON776, OQ776, OX776, OC776⟩ := q776
    show Goes p e below _ T776 (mkF m 254 #[.val (.long qa), .second, .val (.long sb_), .second, .val (.long kb_), .second, .val (.long pa_), .second, .val (.int fl), .val (.long qv), .second, .val (.long sv), .second, .val (.long sk), .second, .val (.long (sv - sk)), .second, .val (.int cc), .val (.int lm), .val (.ref sd), .val (.ref tf), .val (.long lp), .second, .val (.long pr), .second, .val (.ref ty), .val (.ref b747), .val (.int 1), .unset, .unset] [])
    refine g_iload C X776 d0_254 rfl ?_
    refine g_if (h0_eq _) C X776 d0_256 (fun q => absurd q c246_770) (fun _ => ?_)
    refine g_lconst 0 C X776 d0_259 rfl ?_
    refine g_goto C X776 d0_260 ?_
    refine g_lstore C X776 d0_268 (l' := #[.val (.long qa), .second, .val (.long sb_), .second, .val (.long kb_), .second, .val (.long pa_), .second, .val (.int fl), .val (.long qv), .second, .val (.long sv), .second, .val (.long sk), .second, .val (.long (sv - sk)), .second, .val (.int cc), .val (.int lm), .val (.ref sd), .val (.ref tf), .val (.long lp), .second, .val (.long pr), .second, .val (.ref ty), .val (.ref b747), .val (.int 1), .val (.long 0), .second]) rfl ?_
    refine g_iload C X776 d0_270 rfl ?_
    refine g_if (h0_eq _) C X776 d0_272 (fun q => absurd q (by decide)) (fun _ => ?_)
    refine g_aload C X776 d0_275 rfl rfl ?_
    refine g_virtualP (argsL := []) (st := []) C X776 (wd hw 55 rfl) (wd hw 56 rfl) (nf_of C (wd hw 58 rfl) rfl rfl) (wd hw 58 rfl) (wd hw 57 rfl) (by decide) EO776 (pay_of (W' := 0) (rL1 l hw X776.ext b747 nt769 qv (((0 : Int64) + sk) + (sv - sk)) EO776 n_b747 ON776 OQ776 OX776 OC776) C.hZ (wd hw 59 rfl) (wd hw 12 rfl) (by decide) (by decide)) pd_21 rfl rfl _ rfl (Nat.le_of_eq rfl) d0_277 (by decide) (by decide) (fun T777 X777 => ?_)
    refine g_lload C X777 d0_280 rfl ?_
    refine g_lcmp C X777 d0_282 ?_
    refine g_ifn (hL_ne _ _) C X777 d0_283 (fun q => absurd (by decide) q) (fun _ => ?_)
    refine g_iconst 1 C X777 d0_286 rfl ?_
    refine g_goto C X777 d0_287 ?_
    have kp778 := (Keep.refl h753 [b747]).trans K766 (allS (Or.inl (by simp)) all0)
    have kp779 := kp778.trans K768 (allS (Or.inl (by simp)) all0)
    have kp780 := kp779.trans K769 (allS (Or.inl (by simp)) all0)
    have kp781 := kp780.trans K776 (allS (Or.inl (by simp)) all0)
    have I782 := Lits.keep I753 kp781 (sfS own_safe0 sf0)
    exact goes_L I782 (own_EW hw) C.hZ (g_retN C X777 (by simp) d0_291 (1 : Int32) rfl (by decide) (by decide) ⟨rfl, rfl⟩)
theorem d0_165 : Dc code 165 (.iload 18) 2 167 := ⟨at_165, rfl⟩
theorem d0_167 : Dj code 167 (.ifCond .eq 9) 9 3 170 176 := ⟨at_167, rfl, by decide, by decide⟩
theorem d0_176 : Dc code 176 (.getstatic 35) 3 179 := ⟨at_176, rfl⟩
theorem d0_179 : Dc code 179 (.astore 25) 2 181 := ⟨at_179, rfl⟩
theorem d0_170 : Dc code 170 (.getstatic 29) 3 173 := ⟨at_170, rfl⟩
theorem d0_173 : Dj code 173 (.goto 6) 6 3 176 179 := ⟨at_173, rfl, by decide, by decide⟩
theorem L165 {p : Program} {l : Launch} {e : Env} {s : State} {m : MethodId} {A : Array Value} {below : List Frame} {meth : Method} {c : Code} {Z : State} {a0 : Array Value} (hw : ∀ d ∈ tables_1, d.before a0 Z = true) {T0 : State} {h : Heap} {vm0 : Vm} {qa sb_ kb_ pa_ : Int64} {fl : Int32} {qv : Int64} {sv : Int64} {sk : Int64} {cc : Int32} {lm : Int32} {sd : Addr} {tf : Addr} {lp : Int64} {pr : Int64} (C : Cx p (s.setVm vm0) m meth c Z "com/example/halyard/halyard/orders/OrderLeavesPinLaw" "law" code maxLocals ret) (X0 : St p l e room_1 (s.setVm vm0) m A below meth c Z T0 h 0 0) (I0 : Lits Z consts_1 s vm0 h) (p_1 p_5 p_9 p_13 p_17 p_21 : Addr) (zr zm pc_ : Addr) (kp : ClassId) (vp : List Value) (SZR : Sta Z Z.heap "java/math/BigInteger" "ZERO" "Ljava/math/BigInteger;" (.ref zr)) (ZE : Exa Z Z.heap zr "java/math/BigInteger") (ZS : Fld Z Z.heap zr "java/math/BigInteger" "signum" "I" (.int (0 : Int32))) (ZM : Fld Z Z.heap zr "java/math/BigInteger" "mag" "[I" (.ref zm)) (ZV : IaS Z Z.heap zm 0) (SPC : Sta Z Z.heap "java/math/BigInteger" "posConst" "[Ljava/math/BigInteger;" (.ref pc_)) (VP : Arv Z Z.heap pc_ kp (.object "java/math/BigInteger") 17 vp .null) (PC : ∀ j : Nat, 1 ≤ j → j ≤ 16 → ∃ x mg : Addr, vp.getD j .null = .ref x ∧ Exa Z Z.heap x "java/math/BigInteger" ∧ Fld Z Z.heap x "java/math/BigInteger" "signum" "I" (.int (1 : Int32)) ∧ Fld Z Z.heap x "java/math/BigInteger" "mag" "[I" (.ref mg) ∧ IaS Z Z.heap mg 1) (ca : Addr) (kc : ClassId) (vc : List Value) (SH : Sta Z Z.heap "java/lang/Integer$IntegerCache" "high" "I" (.int (127 : Int32))) (SC : Sta Z Z.heap "java/lang/Integer$IntegerCache" "cache" "[Ljava/lang/Integer;" (.ref ca)) (VC : Arv Z Z.heap ca kc (.object "java/lang/Integer") 256 vc .null) (HB : ∀ j : Int32, ¬ j < 0 → j < 256 → ∃ b : Addr, vc.getD j.toNatClampNeg .null = .ref b ∧ Exa Z Z.heap b "java/lang/Integer" ∧ Fld Z Z.heap b "java/lang/Integer" "value" "I" (.int (j - 128))) (S_3 : Sta Z Z.heap "com/example/halyard/halyard/book/Side" "OFFER" "Lcom/example/halyard/halyard/book/Side;" (.ref p_1)) (E_4 : Exa Z Z.heap p_1 "com/example/halyard/halyard/book/Side") (S_7 : Sta Z Z.heap "com/example/halyard/halyard/orders/Order$TimeInForce" "IMMEDIATE_OR_CANCEL" "Lcom/example/halyard/halyard/orders/Order$TimeInForce;" (.ref p_5)) (E_8 : Exa Z Z.heap p_5 "com/example/halyard/halyard/orders/Order$TimeInForce") (S_11 : Sta Z Z.heap "com/example/halyard/halyard/orders/Order$Type" "MARKET" "Lcom/example/halyard/halyard/orders/Order$Type;" (.ref p_9)) (E_12 : Exa Z Z.heap p_9 "com/example/halyard/halyard/orders/Order$Type") (S_15 : Sta Z Z.heap "com/example/halyard/halyard/book/Side" "BID" "Lcom/example/halyard/halyard/book/Side;" (.ref p_13)) (E_16 : Exa Z Z.heap p_13 "com/example/halyard/halyard/book/Side") (S_19 : Sta Z Z.heap "com/example/halyard/halyard/orders/Order$Type" "LIMIT" "Lcom/example/halyard/halyard/orders/Order$Type;" (.ref p_17)) (E_20 : Exa Z Z.heap p_17 "com/example/halyard/halyard/orders/Order$Type") (S_23 : Sta Z Z.heap "com/example/halyard/halyard/orders/Order$TimeInForce" "DAY" "Lcom/example/halyard/halyard/orders/Order$TimeInForce;" (.ref p_21)) (E_24 : Exa Z Z.heap p_21 "com/example/halyard/halyard/orders/Order$TimeInForce") (S1 : 0 ≤ sk.toInt) (S2 : 0 ≤ (sv - sk).toInt) (P0 : 0 ≤ lp.toInt) :
    Goes p e below (EndL Z consts_1 s 48 2304 (fun v' h' => v' = some (.int 1))) T0 (mkF m 165 #[.val (.long qa), .second, .val (.long sb_), .second, .val (.long kb_), .second, .val (.long pa_), .second, .val (.int fl), .val (.long qv), .second, .val (.long sv), .second, .val (.long sk), .second, .val (.long (sv - sk)), .second, .val (.int cc), .val (.int lm), .val (.ref sd), .val (.ref tf), .val (.long lp), .second, .val (.long pr), .second, .unset, .unset, .unset, .unset, .unset] []) := by
  refine g_iload C X0 d0_165 rfl ?_
  refine g_if (h0_eq _) C X0 d0_167 (fun c167_783 => ?_) (fun c167_783 => ?_)
  · refine g_getstatic (host := "") C X0 (Or.inl (wd hw 7 rfl)) Via.refl S_11 d0_176 (fun T784 X784 => ?_)
    refine g_astore C X784 d0_179 rfl (l' := #[.val (.long qa), .second, .val (.long sb_), .second, .val (.long kb_), .second, .val (.long pa_), .second, .val (.int fl), .val (.long qv), .second, .val (.long sv), .second, .val (.long sk), .second, .val (.long (sv - sk)), .second, .val (.int cc), .val (.int lm), .val (.ref sd), .val (.ref tf), .val (.long lp), .second, .val (.long pr), .second, .val (.ref p_9), .unset, .unset, .unset, .unset]) rfl ?_
    exact L181 hw C X784 I0 p_1 p_5 p_9 p_13 p_17 p_21 zr zm pc_ kp vp SZR ZE ZS ZM ZV SPC VP PC ca kc vc SH SC VC HB S_3 E_4 S_7 E_8 S_11 E_12 S_15 E_16 S_19 E_20 S_23 E_24 S1 S2 P0
  · refine g_getstatic (host := "") C X0 (Or.inl (wd hw 146 rfl)) Via.refl S_19 d0_170 (fun T785 X785 => ?_)
    refine g_goto C X785 d0_173 ?_
    refine g_astore C X785 d0_179 rfl (l' := #[.val (.long qa), .second, .val (.long sb_), .second, .val (.long kb_), .second, .val (.long pa_), .second, .val (.int fl), .val (.long qv), .second, .val (.long sv), .second, .val (.long sk), .second, .val (.long (sv - sk)), .second, .val (.int cc), .val (.int lm), .val (.ref sd), .val (.ref tf), .val (.long lp), .second, .val (.long pr), .second, .val (.ref p_17), .unset, .unset, .unset, .unset]) rfl ?_
    exact L181 hw C X785 I0 p_1 p_5 p_9 p_13 p_17 p_21 zr zm pc_ kp vp SZR ZE ZS ZM ZV SPC VP PC ca kc vc SH SC VC HB S_3 E_4 S_7 E_8 S_11 E_12 S_15 E_16 S_19 E_20 S_23 E_24 S1 S2 P0
theorem d0_152 : Dc code 152 (.iload 18) 2 154 := ⟨at_152, rfl⟩
theorem d0_154 : Dj code 154 (.ifCond .eq 8) 8 3 157 162 := ⟨at_154, rfl, by decide, by decide⟩
theorem d0_162 : Dc code 162 (.lconst 0) 1 163 := ⟨at_162, rfl⟩
theorem d0_163 : Dc code 163 (.lstore 23) 2 165 := ⟨at_163, rfl⟩
theorem d0_157 : Dc code 157 (.lload 21) 2 159 := ⟨at_157, rfl⟩
theorem d0_159 : Dj code 159 (.goto 4) 4 3 162 163 := ⟨at_159, rfl, by decide, by decide⟩
theorem L152 {p : Program} {l : Launch} {e : Env} {s : State} {m : MethodId} {A : Array Value} {below : List Frame} {meth : Method} {c : Code} {Z : State} {a0 : Array Value} (hw : ∀ d ∈ tables_1, d.before a0 Z = true) {T0 : State} {h : Heap} {vm0 : Vm} {qa sb_ kb_ pa_ : Int64} {fl : Int32} {qv : Int64} {sv : Int64} {sk : Int64} {cc : Int32} {lm : Int32} {sd : Addr} {tf : Addr} {lp : Int64} (C : Cx p (s.setVm vm0) m meth c Z "com/example/halyard/halyard/orders/OrderLeavesPinLaw" "law" code maxLocals ret) (X0 : St p l e room_1 (s.setVm vm0) m A below meth c Z T0 h 0 0) (I0 : Lits Z consts_1 s vm0 h) (p_1 p_5 p_9 p_13 p_17 p_21 : Addr) (zr zm pc_ : Addr) (kp : ClassId) (vp : List Value) (SZR : Sta Z Z.heap "java/math/BigInteger" "ZERO" "Ljava/math/BigInteger;" (.ref zr)) (ZE : Exa Z Z.heap zr "java/math/BigInteger") (ZS : Fld Z Z.heap zr "java/math/BigInteger" "signum" "I" (.int (0 : Int32))) (ZM : Fld Z Z.heap zr "java/math/BigInteger" "mag" "[I" (.ref zm)) (ZV : IaS Z Z.heap zm 0) (SPC : Sta Z Z.heap "java/math/BigInteger" "posConst" "[Ljava/math/BigInteger;" (.ref pc_)) (VP : Arv Z Z.heap pc_ kp (.object "java/math/BigInteger") 17 vp .null) (PC : ∀ j : Nat, 1 ≤ j → j ≤ 16 → ∃ x mg : Addr, vp.getD j .null = .ref x ∧ Exa Z Z.heap x "java/math/BigInteger" ∧ Fld Z Z.heap x "java/math/BigInteger" "signum" "I" (.int (1 : Int32)) ∧ Fld Z Z.heap x "java/math/BigInteger" "mag" "[I" (.ref mg) ∧ IaS Z Z.heap mg 1) (ca : Addr) (kc : ClassId) (vc : List Value) (SH : Sta Z Z.heap "java/lang/Integer$IntegerCache" "high" "I" (.int (127 : Int32))) (SC : Sta Z Z.heap "java/lang/Integer$IntegerCache" "cache" "[Ljava/lang/Integer;" (.ref ca)) (VC : Arv Z Z.heap ca kc (.object "java/lang/Integer") 256 vc .null) (HB : ∀ j : Int32, ¬ j < 0 → j < 256 → ∃ b : Addr, vc.getD j.toNatClampNeg .null = .ref b ∧ Exa Z Z.heap b "java/lang/Integer" ∧ Fld Z Z.heap b "java/lang/Integer" "value" "I" (.int (j - 128))) (S_3 : Sta Z Z.heap "com/example/halyard/halyard/book/Side" "OFFER" "Lcom/example/halyard/halyard/book/Side;" (.ref p_1)) (E_4 : Exa Z Z.heap p_1 "com/example/halyard/halyard/book/Side") (S_7 : Sta Z Z.heap "com/example/halyard/halyard/orders/Order$TimeInForce" "IMMEDIATE_OR_CANCEL" "Lcom/example/halyard/halyard/orders/Order$TimeInForce;" (.ref p_5)) (E_8 : Exa Z Z.heap p_5 "com/example/halyard/halyard/orders/Order$TimeInForce") (S_11 : Sta Z Z.heap "com/example/halyard/halyard/orders/Order$Type" "MARKET" "Lcom/example/halyard/halyard/orders/Order$Type;" (.ref p_9)) (E_12 : Exa Z Z.heap p_9 "com/example/halyard/halyard/orders/Order$Type") (S_15 : Sta Z Z.heap "com/example/halyard/halyard/book/Side" "BID" "Lcom/example/halyard/halyard/book/Side;" (.ref p_13)) (E_16 : Exa Z Z.heap p_13 "com/example/halyard/halyard/book/Side") (S_19 : Sta Z Z.heap "com/example/halyard/halyard/orders/Order$Type" "LIMIT" "Lcom/example/halyard/halyard/orders/Order$Type;" (.ref p_17)) (E_20 : Exa Z Z.heap p_17 "com/example/halyard/halyard/orders/Order$Type") (S_23 : Sta Z Z.heap "com/example/halyard/halyard/orders/Order$TimeInForce" "DAY" "Lcom/example/halyard/halyard/orders/Order$TimeInForce;" (.ref p_21)) (E_24 : Exa Z Z.heap p_21 "com/example/halyard/halyard/orders/Order$TimeInForce") (S1 : 0 ≤ sk.toInt) (S2 : 0 ≤ (sv - sk).toInt) (P0 : 0 ≤ lp.toInt) :
    Goes p e below (EndL Z consts_1 s 48 2304 (fun v' h' => v' = some (.int 1))) T0 (mkF m 152 #[.val (.long qa), .second, .val (.long sb_), .second, .val (.long kb_), .second, .val (.long pa_), .second, .val (.int fl), .val (.long qv), .second, .val (.long sv), .second, .val (.long sk), .second, .val (.long (sv - sk)), .second, .val (.int cc), .val (.int lm), .val (.ref sd), .val (.ref tf), .val (.long lp), .second, .unset, .unset, .unset, .unset, .unset, .unset, .unset] []) := by
  refine g_iload C X0 d0_152 rfl ?_
  refine g_if (h0_eq _) C X0 d0_154 (fun c154_786 => ?_) (fun c154_786 => ?_)
  · refine g_lconst 0 C X0 d0_162 rfl ?_
    refine g_lstore C X0 d0_163 (l' := #[.val (.long qa), .second, .val (.long sb_), .second, .val (.long kb_), .second, .val (.long pa_), .second, .val (.int fl), .val (.long qv), .second, .val (.long sv), .second, .val (.long sk), .second, .val (.long (sv - sk)), .second, .val (.int cc), .val (.int lm), .val (.ref sd), .val (.ref tf), .val (.long lp), .second, .val (.long 0), .second, .unset, .unset, .unset, .unset, .unset]) rfl ?_
    exact L165 hw C X0 I0 p_1 p_5 p_9 p_13 p_17 p_21 zr zm pc_ kp vp SZR ZE ZS ZM ZV SPC VP PC ca kc vc SH SC VC HB S_3 E_4 S_7 E_8 S_11 E_12 S_15 E_16 S_19 E_20 S_23 E_24 S1 S2 P0
  · refine g_lload C X0 d0_157 rfl ?_
    refine g_goto C X0 d0_159 ?_
    refine g_lstore C X0 d0_163 (l' := #[.val (.long qa), .second, .val (.long sb_), .second, .val (.long kb_), .second, .val (.long pa_), .second, .val (.int fl), .val (.long qv), .second, .val (.long sv), .second, .val (.long sk), .second, .val (.long (sv - sk)), .second, .val (.int cc), .val (.int lm), .val (.ref sd), .val (.ref tf), .val (.long lp), .second, .val (.long lp), .second, .unset, .unset, .unset, .unset, .unset]) rfl ?_
    exact L165 hw C X0 I0 p_1 p_5 p_9 p_13 p_17 p_21 zr zm pc_ kp vp SZR ZE ZS ZM ZV SPC VP PC ca kc vc SH SC VC HB S_3 E_4 S_7 E_8 S_11 E_12 S_15 E_16 S_19 E_20 S_23 E_24 S1 S2 P0
theorem d0_134 : Dc code 134 (.lload 6) 2 136 := ⟨at_134, rfl⟩
theorem d0_136 : Dc code 136 (.ldc2_w 9) 3 139 := ⟨at_136, rfl⟩
theorem d0_139 : Dc code 139 (.land) 1 140 := ⟨at_139, rfl⟩
theorem d0_140 : Dc code 140 (.lstore 21) 2 142 := ⟨at_140, rfl⟩
theorem d0_142 : Dc code 142 (.lload 21) 2 144 := ⟨at_142, rfl⟩
theorem d0_144 : Dc code 144 (.lconst 0) 1 145 := ⟨at_144, rfl⟩
theorem d0_145 : Dc code 145 (.lcmp) 1 146 := ⟨at_145, rfl⟩
theorem d0_146 : Dj code 146 (.ifCond .ne 6) 6 3 149 152 := ⟨at_146, rfl, by decide, by decide⟩
theorem d0_149 : Dc code 149 (.lconst 1) 1 150 := ⟨at_149, rfl⟩
theorem d0_150 : Dc code 150 (.lstore 21) 2 152 := ⟨at_150, rfl⟩
theorem L134 {p : Program} {l : Launch} {e : Env} {s : State} {m : MethodId} {A : Array Value} {below : List Frame} {meth : Method} {c : Code} {Z : State} {a0 : Array Value} (hw : ∀ d ∈ tables_1, d.before a0 Z = true) {T0 : State} {h : Heap} {vm0 : Vm} {qa sb_ kb_ pa_ : Int64} {fl : Int32} {qv : Int64} {sv : Int64} {sk : Int64} {cc : Int32} {lm : Int32} {sd : Addr} {tf : Addr} (C : Cx p (s.setVm vm0) m meth c Z "com/example/halyard/halyard/orders/OrderLeavesPinLaw" "law" code maxLocals ret) (X0 : St p l e room_1 (s.setVm vm0) m A below meth c Z T0 h 0 0) (I0 : Lits Z consts_1 s vm0 h) (p_1 p_5 p_9 p_13 p_17 p_21 : Addr) (zr zm pc_ : Addr) (kp : ClassId) (vp : List Value) (SZR : Sta Z Z.heap "java/math/BigInteger" "ZERO" "Ljava/math/BigInteger;" (.ref zr)) (ZE : Exa Z Z.heap zr "java/math/BigInteger") (ZS : Fld Z Z.heap zr "java/math/BigInteger" "signum" "I" (.int (0 : Int32))) (ZM : Fld Z Z.heap zr "java/math/BigInteger" "mag" "[I" (.ref zm)) (ZV : IaS Z Z.heap zm 0) (SPC : Sta Z Z.heap "java/math/BigInteger" "posConst" "[Ljava/math/BigInteger;" (.ref pc_)) (VP : Arv Z Z.heap pc_ kp (.object "java/math/BigInteger") 17 vp .null) (PC : ∀ j : Nat, 1 ≤ j → j ≤ 16 → ∃ x mg : Addr, vp.getD j .null = .ref x ∧ Exa Z Z.heap x "java/math/BigInteger" ∧ Fld Z Z.heap x "java/math/BigInteger" "signum" "I" (.int (1 : Int32)) ∧ Fld Z Z.heap x "java/math/BigInteger" "mag" "[I" (.ref mg) ∧ IaS Z Z.heap mg 1) (ca : Addr) (kc : ClassId) (vc : List Value) (SH : Sta Z Z.heap "java/lang/Integer$IntegerCache" "high" "I" (.int (127 : Int32))) (SC : Sta Z Z.heap "java/lang/Integer$IntegerCache" "cache" "[Ljava/lang/Integer;" (.ref ca)) (VC : Arv Z Z.heap ca kc (.object "java/lang/Integer") 256 vc .null) (HB : ∀ j : Int32, ¬ j < 0 → j < 256 → ∃ b : Addr, vc.getD j.toNatClampNeg .null = .ref b ∧ Exa Z Z.heap b "java/lang/Integer" ∧ Fld Z Z.heap b "java/lang/Integer" "value" "I" (.int (j - 128))) (S_3 : Sta Z Z.heap "com/example/halyard/halyard/book/Side" "OFFER" "Lcom/example/halyard/halyard/book/Side;" (.ref p_1)) (E_4 : Exa Z Z.heap p_1 "com/example/halyard/halyard/book/Side") (S_7 : Sta Z Z.heap "com/example/halyard/halyard/orders/Order$TimeInForce" "IMMEDIATE_OR_CANCEL" "Lcom/example/halyard/halyard/orders/Order$TimeInForce;" (.ref p_5)) (E_8 : Exa Z Z.heap p_5 "com/example/halyard/halyard/orders/Order$TimeInForce") (S_11 : Sta Z Z.heap "com/example/halyard/halyard/orders/Order$Type" "MARKET" "Lcom/example/halyard/halyard/orders/Order$Type;" (.ref p_9)) (E_12 : Exa Z Z.heap p_9 "com/example/halyard/halyard/orders/Order$Type") (S_15 : Sta Z Z.heap "com/example/halyard/halyard/book/Side" "BID" "Lcom/example/halyard/halyard/book/Side;" (.ref p_13)) (E_16 : Exa Z Z.heap p_13 "com/example/halyard/halyard/book/Side") (S_19 : Sta Z Z.heap "com/example/halyard/halyard/orders/Order$Type" "LIMIT" "Lcom/example/halyard/halyard/orders/Order$Type;" (.ref p_17)) (E_20 : Exa Z Z.heap p_17 "com/example/halyard/halyard/orders/Order$Type") (S_23 : Sta Z Z.heap "com/example/halyard/halyard/orders/Order$TimeInForce" "DAY" "Lcom/example/halyard/halyard/orders/Order$TimeInForce;" (.ref p_21)) (E_24 : Exa Z Z.heap p_21 "com/example/halyard/halyard/orders/Order$TimeInForce") (S1 : 0 ≤ sk.toInt) (S2 : 0 ≤ (sv - sk).toInt) :
    Goes p e below (EndL Z consts_1 s 48 2304 (fun v' h' => v' = some (.int 1))) T0 (mkF m 134 #[.val (.long qa), .second, .val (.long sb_), .second, .val (.long kb_), .second, .val (.long pa_), .second, .val (.int fl), .val (.long qv), .second, .val (.long sv), .second, .val (.long sk), .second, .val (.long (sv - sk)), .second, .val (.int cc), .val (.int lm), .val (.ref sd), .val (.ref tf), .unset, .unset, .unset, .unset, .unset, .unset, .unset, .unset, .unset] []) := by
  refine g_lload C X0 d0_134 rfl ?_
  refine g_ldcJ C X0 (wd hw 0 rfl) d0_136 ?_
  refine g_land C X0 d0_139 ?_
  refine g_lstore C X0 d0_140 (l' := #[.val (.long qa), .second, .val (.long sb_), .second, .val (.long kb_), .second, .val (.long pa_), .second, .val (.int fl), .val (.long qv), .second, .val (.long sv), .second, .val (.long sk), .second, .val (.long (sv - sk)), .second, .val (.int cc), .val (.int lm), .val (.ref sd), .val (.ref tf), .val (.long (pa_ &&& (9223372036854775807 : Int64))), .second, .unset, .unset, .unset, .unset, .unset, .unset, .unset]) rfl ?_
  refine g_lload C X0 d0_142 rfl ?_
  refine g_lconst 0 C X0 d0_144 rfl ?_
  refine g_lcmp C X0 d0_145 ?_
  refine g_ifn (hL_ne _ _) C X0 d0_146 (fun c146_787 => ?_) (fun c146_787 => ?_)
  · exact L152 hw C X0 I0 p_1 p_5 p_9 p_13 p_17 p_21 zr zm pc_ kp vp SZR ZE ZS ZM ZV SPC VP PC ca kc vc SH SC VC HB S_3 E_4 S_7 E_8 S_11 E_12 S_15 E_16 S_19 E_20 S_23 E_24 S1 S2 (own_and63 _)
  · refine g_lconst 1 C X0 d0_149 rfl ?_
    refine g_lstore C X0 d0_150 (l' := #[.val (.long qa), .second, .val (.long sb_), .second, .val (.long kb_), .second, .val (.long pa_), .second, .val (.int fl), .val (.long qv), .second, .val (.long sv), .second, .val (.long sk), .second, .val (.long (sv - sk)), .second, .val (.int cc), .val (.int lm), .val (.ref sd), .val (.ref tf), .val (.long 1), .second, .unset, .unset, .unset, .unset, .unset, .unset, .unset]) rfl ?_
    exact L152 hw C X0 I0 p_1 p_5 p_9 p_13 p_17 p_21 zr zm pc_ kp vp SZR ZE ZS ZM ZV SPC VP PC ca kc vc SH SC VC HB S_3 E_4 S_7 E_8 S_11 E_12 S_15 E_16 S_19 E_20 S_23 E_24 S1 S2 (by decide)
theorem d0_115 : Dc code 115 (.iload 8) 2 117 := ⟨at_115, rfl⟩
theorem d0_117 : Dc code 117 (.bipush 16) 2 119 := ⟨at_117, rfl⟩
theorem d0_119 : Dc code 119 (.iand) 1 120 := ⟨at_119, rfl⟩
theorem d0_120 : Dj code 120 (.ifCond .eq 9) 9 3 123 129 := ⟨at_120, rfl, by decide, by decide⟩
theorem d0_129 : Dc code 129 (.getstatic 26) 3 132 := ⟨at_129, rfl⟩
theorem d0_132 : Dc code 132 (.astore 20) 2 134 := ⟨at_132, rfl⟩
theorem d0_123 : Dc code 123 (.getstatic 20) 3 126 := ⟨at_123, rfl⟩
theorem d0_126 : Dj code 126 (.goto 6) 6 3 129 132 := ⟨at_126, rfl, by decide, by decide⟩
theorem L115 {p : Program} {l : Launch} {e : Env} {s : State} {m : MethodId} {A : Array Value} {below : List Frame} {meth : Method} {c : Code} {Z : State} {a0 : Array Value} (hw : ∀ d ∈ tables_1, d.before a0 Z = true) {T0 : State} {h : Heap} {vm0 : Vm} {qa sb_ kb_ pa_ : Int64} {fl : Int32} {qv : Int64} {sv : Int64} {sk : Int64} {cc : Int32} {lm : Int32} {sd : Addr} (C : Cx p (s.setVm vm0) m meth c Z "com/example/halyard/halyard/orders/OrderLeavesPinLaw" "law" code maxLocals ret) (X0 : St p l e room_1 (s.setVm vm0) m A below meth c Z T0 h 0 0) (I0 : Lits Z consts_1 s vm0 h) (p_1 p_5 p_9 p_13 p_17 p_21 : Addr) (zr zm pc_ : Addr) (kp : ClassId) (vp : List Value) (SZR : Sta Z Z.heap "java/math/BigInteger" "ZERO" "Ljava/math/BigInteger;" (.ref zr)) (ZE : Exa Z Z.heap zr "java/math/BigInteger") (ZS : Fld Z Z.heap zr "java/math/BigInteger" "signum" "I" (.int (0 : Int32))) (ZM : Fld Z Z.heap zr "java/math/BigInteger" "mag" "[I" (.ref zm)) (ZV : IaS Z Z.heap zm 0) (SPC : Sta Z Z.heap "java/math/BigInteger" "posConst" "[Ljava/math/BigInteger;" (.ref pc_)) (VP : Arv Z Z.heap pc_ kp (.object "java/math/BigInteger") 17 vp .null) (PC : ∀ j : Nat, 1 ≤ j → j ≤ 16 → ∃ x mg : Addr, vp.getD j .null = .ref x ∧ Exa Z Z.heap x "java/math/BigInteger" ∧ Fld Z Z.heap x "java/math/BigInteger" "signum" "I" (.int (1 : Int32)) ∧ Fld Z Z.heap x "java/math/BigInteger" "mag" "[I" (.ref mg) ∧ IaS Z Z.heap mg 1) (ca : Addr) (kc : ClassId) (vc : List Value) (SH : Sta Z Z.heap "java/lang/Integer$IntegerCache" "high" "I" (.int (127 : Int32))) (SC : Sta Z Z.heap "java/lang/Integer$IntegerCache" "cache" "[Ljava/lang/Integer;" (.ref ca)) (VC : Arv Z Z.heap ca kc (.object "java/lang/Integer") 256 vc .null) (HB : ∀ j : Int32, ¬ j < 0 → j < 256 → ∃ b : Addr, vc.getD j.toNatClampNeg .null = .ref b ∧ Exa Z Z.heap b "java/lang/Integer" ∧ Fld Z Z.heap b "java/lang/Integer" "value" "I" (.int (j - 128))) (S_3 : Sta Z Z.heap "com/example/halyard/halyard/book/Side" "OFFER" "Lcom/example/halyard/halyard/book/Side;" (.ref p_1)) (E_4 : Exa Z Z.heap p_1 "com/example/halyard/halyard/book/Side") (S_7 : Sta Z Z.heap "com/example/halyard/halyard/orders/Order$TimeInForce" "IMMEDIATE_OR_CANCEL" "Lcom/example/halyard/halyard/orders/Order$TimeInForce;" (.ref p_5)) (E_8 : Exa Z Z.heap p_5 "com/example/halyard/halyard/orders/Order$TimeInForce") (S_11 : Sta Z Z.heap "com/example/halyard/halyard/orders/Order$Type" "MARKET" "Lcom/example/halyard/halyard/orders/Order$Type;" (.ref p_9)) (E_12 : Exa Z Z.heap p_9 "com/example/halyard/halyard/orders/Order$Type") (S_15 : Sta Z Z.heap "com/example/halyard/halyard/book/Side" "BID" "Lcom/example/halyard/halyard/book/Side;" (.ref p_13)) (E_16 : Exa Z Z.heap p_13 "com/example/halyard/halyard/book/Side") (S_19 : Sta Z Z.heap "com/example/halyard/halyard/orders/Order$Type" "LIMIT" "Lcom/example/halyard/halyard/orders/Order$Type;" (.ref p_17)) (E_20 : Exa Z Z.heap p_17 "com/example/halyard/halyard/orders/Order$Type") (S_23 : Sta Z Z.heap "com/example/halyard/halyard/orders/Order$TimeInForce" "DAY" "Lcom/example/halyard/halyard/orders/Order$TimeInForce;" (.ref p_21)) (E_24 : Exa Z Z.heap p_21 "com/example/halyard/halyard/orders/Order$TimeInForce") (S1 : 0 ≤ sk.toInt) (S2 : 0 ≤ (sv - sk).toInt) :
    Goes p e below (EndL Z consts_1 s 48 2304 (fun v' h' => v' = some (.int 1))) T0 (mkF m 115 #[.val (.long qa), .second, .val (.long sb_), .second, .val (.long kb_), .second, .val (.long pa_), .second, .val (.int fl), .val (.long qv), .second, .val (.long sv), .second, .val (.long sk), .second, .val (.long (sv - sk)), .second, .val (.int cc), .val (.int lm), .val (.ref sd), .unset, .unset, .unset, .unset, .unset, .unset, .unset, .unset, .unset, .unset] []) := by
  refine g_iload C X0 d0_115 rfl ?_
  refine g_bipush 16 C X0 d0_117 rfl ?_
  refine g_iand C X0 d0_119 ?_
  refine g_if (h0_eq _) C X0 d0_120 (fun c120_788 => ?_) (fun c120_788 => ?_)
  · refine g_getstatic (host := "") C X0 (Or.inl (wd hw 4 rfl)) Via.refl S_7 d0_129 (fun T789 X789 => ?_)
    refine g_astore C X789 d0_132 rfl (l' := #[.val (.long qa), .second, .val (.long sb_), .second, .val (.long kb_), .second, .val (.long pa_), .second, .val (.int fl), .val (.long qv), .second, .val (.long sv), .second, .val (.long sk), .second, .val (.long (sv - sk)), .second, .val (.int cc), .val (.int lm), .val (.ref sd), .val (.ref p_5), .unset, .unset, .unset, .unset, .unset, .unset, .unset, .unset, .unset]) rfl ?_
    exact L134 hw C X789 I0 p_1 p_5 p_9 p_13 p_17 p_21 zr zm pc_ kp vp SZR ZE ZS ZM ZV SPC VP PC ca kc vc SH SC VC HB S_3 E_4 S_7 E_8 S_11 E_12 S_15 E_16 S_19 E_20 S_23 E_24 S1 S2
  · refine g_getstatic (host := "") C X0 (Or.inl (wd hw 151 rfl)) Via.refl S_23 d0_123 (fun T790 X790 => ?_)
    refine g_goto C X790 d0_126 ?_
    refine g_astore C X790 d0_132 rfl (l' := #[.val (.long qa), .second, .val (.long sb_), .second, .val (.long kb_), .second, .val (.long pa_), .second, .val (.int fl), .val (.long qv), .second, .val (.long sv), .second, .val (.long sk), .second, .val (.long (sv - sk)), .second, .val (.int cc), .val (.int lm), .val (.ref sd), .val (.ref p_21), .unset, .unset, .unset, .unset, .unset, .unset, .unset, .unset, .unset]) rfl ?_
    exact L134 hw C X790 I0 p_1 p_5 p_9 p_13 p_17 p_21 zr zm pc_ kp vp SZR ZE ZS ZM ZV SPC VP PC ca kc vc SH SC VC HB S_3 E_4 S_7 E_8 S_11 E_12 S_15 E_16 S_19 E_20 S_23 E_24 S1 S2
theorem d0_96 : Dc code 96 (.iload 8) 2 98 := ⟨at_96, rfl⟩
theorem d0_98 : Dc code 98 (.bipush 8) 2 100 := ⟨at_98, rfl⟩
theorem d0_100 : Dc code 100 (.iand) 1 101 := ⟨at_100, rfl⟩
theorem d0_101 : Dj code 101 (.ifCond .eq 9) 9 3 104 110 := ⟨at_101, rfl, by decide, by decide⟩
theorem d0_110 : Dc code 110 (.getstatic 17) 3 113 := ⟨at_110, rfl⟩
theorem d0_113 : Dc code 113 (.astore 19) 2 115 := ⟨at_113, rfl⟩
theorem d0_104 : Dc code 104 (.getstatic 11) 3 107 := ⟨at_104, rfl⟩
theorem d0_107 : Dj code 107 (.goto 6) 6 3 110 113 := ⟨at_107, rfl, by decide, by decide⟩
theorem L96 {p : Program} {l : Launch} {e : Env} {s : State} {m : MethodId} {A : Array Value} {below : List Frame} {meth : Method} {c : Code} {Z : State} {a0 : Array Value} (hw : ∀ d ∈ tables_1, d.before a0 Z = true) {T0 : State} {h : Heap} {vm0 : Vm} {qa sb_ kb_ pa_ : Int64} {fl : Int32} {qv : Int64} {sv : Int64} {sk : Int64} {cc : Int32} {lm : Int32} (C : Cx p (s.setVm vm0) m meth c Z "com/example/halyard/halyard/orders/OrderLeavesPinLaw" "law" code maxLocals ret) (X0 : St p l e room_1 (s.setVm vm0) m A below meth c Z T0 h 0 0) (I0 : Lits Z consts_1 s vm0 h) (p_1 p_5 p_9 p_13 p_17 p_21 : Addr) (zr zm pc_ : Addr) (kp : ClassId) (vp : List Value) (SZR : Sta Z Z.heap "java/math/BigInteger" "ZERO" "Ljava/math/BigInteger;" (.ref zr)) (ZE : Exa Z Z.heap zr "java/math/BigInteger") (ZS : Fld Z Z.heap zr "java/math/BigInteger" "signum" "I" (.int (0 : Int32))) (ZM : Fld Z Z.heap zr "java/math/BigInteger" "mag" "[I" (.ref zm)) (ZV : IaS Z Z.heap zm 0) (SPC : Sta Z Z.heap "java/math/BigInteger" "posConst" "[Ljava/math/BigInteger;" (.ref pc_)) (VP : Arv Z Z.heap pc_ kp (.object "java/math/BigInteger") 17 vp .null) (PC : ∀ j : Nat, 1 ≤ j → j ≤ 16 → ∃ x mg : Addr, vp.getD j .null = .ref x ∧ Exa Z Z.heap x "java/math/BigInteger" ∧ Fld Z Z.heap x "java/math/BigInteger" "signum" "I" (.int (1 : Int32)) ∧ Fld Z Z.heap x "java/math/BigInteger" "mag" "[I" (.ref mg) ∧ IaS Z Z.heap mg 1) (ca : Addr) (kc : ClassId) (vc : List Value) (SH : Sta Z Z.heap "java/lang/Integer$IntegerCache" "high" "I" (.int (127 : Int32))) (SC : Sta Z Z.heap "java/lang/Integer$IntegerCache" "cache" "[Ljava/lang/Integer;" (.ref ca)) (VC : Arv Z Z.heap ca kc (.object "java/lang/Integer") 256 vc .null) (HB : ∀ j : Int32, ¬ j < 0 → j < 256 → ∃ b : Addr, vc.getD j.toNatClampNeg .null = .ref b ∧ Exa Z Z.heap b "java/lang/Integer" ∧ Fld Z Z.heap b "java/lang/Integer" "value" "I" (.int (j - 128))) (S_3 : Sta Z Z.heap "com/example/halyard/halyard/book/Side" "OFFER" "Lcom/example/halyard/halyard/book/Side;" (.ref p_1)) (E_4 : Exa Z Z.heap p_1 "com/example/halyard/halyard/book/Side") (S_7 : Sta Z Z.heap "com/example/halyard/halyard/orders/Order$TimeInForce" "IMMEDIATE_OR_CANCEL" "Lcom/example/halyard/halyard/orders/Order$TimeInForce;" (.ref p_5)) (E_8 : Exa Z Z.heap p_5 "com/example/halyard/halyard/orders/Order$TimeInForce") (S_11 : Sta Z Z.heap "com/example/halyard/halyard/orders/Order$Type" "MARKET" "Lcom/example/halyard/halyard/orders/Order$Type;" (.ref p_9)) (E_12 : Exa Z Z.heap p_9 "com/example/halyard/halyard/orders/Order$Type") (S_15 : Sta Z Z.heap "com/example/halyard/halyard/book/Side" "BID" "Lcom/example/halyard/halyard/book/Side;" (.ref p_13)) (E_16 : Exa Z Z.heap p_13 "com/example/halyard/halyard/book/Side") (S_19 : Sta Z Z.heap "com/example/halyard/halyard/orders/Order$Type" "LIMIT" "Lcom/example/halyard/halyard/orders/Order$Type;" (.ref p_17)) (E_20 : Exa Z Z.heap p_17 "com/example/halyard/halyard/orders/Order$Type") (S_23 : Sta Z Z.heap "com/example/halyard/halyard/orders/Order$TimeInForce" "DAY" "Lcom/example/halyard/halyard/orders/Order$TimeInForce;" (.ref p_21)) (E_24 : Exa Z Z.heap p_21 "com/example/halyard/halyard/orders/Order$TimeInForce") (S1 : 0 ≤ sk.toInt) (S2 : 0 ≤ (sv - sk).toInt) :
    Goes p e below (EndL Z consts_1 s 48 2304 (fun v' h' => v' = some (.int 1))) T0 (mkF m 96 #[.val (.long qa), .second, .val (.long sb_), .second, .val (.long kb_), .second, .val (.long pa_), .second, .val (.int fl), .val (.long qv), .second, .val (.long sv), .second, .val (.long sk), .second, .val (.long (sv - sk)), .second, .val (.int cc), .val (.int lm), .unset, .unset, .unset, .unset, .unset, .unset, .unset, .unset, .unset, .unset, .unset] []) := by
  refine g_iload C X0 d0_96 rfl ?_
  refine g_bipush 8 C X0 d0_98 rfl ?_
  refine g_iand C X0 d0_100 ?_
  refine g_if (h0_eq _) C X0 d0_101 (fun c101_791 => ?_) (fun c101_791 => ?_)
  · refine g_getstatic (host := "") C X0 (Or.inl (wd hw 1 rfl)) Via.refl S_3 d0_110 (fun T792 X792 => ?_)
    refine g_astore C X792 d0_113 rfl (l' := #[.val (.long qa), .second, .val (.long sb_), .second, .val (.long kb_), .second, .val (.long pa_), .second, .val (.int fl), .val (.long qv), .second, .val (.long sv), .second, .val (.long sk), .second, .val (.long (sv - sk)), .second, .val (.int cc), .val (.int lm), .val (.ref p_1), .unset, .unset, .unset, .unset, .unset, .unset, .unset, .unset, .unset, .unset]) rfl ?_
    exact L115 hw C X792 I0 p_1 p_5 p_9 p_13 p_17 p_21 zr zm pc_ kp vp SZR ZE ZS ZM ZV SPC VP PC ca kc vc SH SC VC HB S_3 E_4 S_7 E_8 S_11 E_12 S_15 E_16 S_19 E_20 S_23 E_24 S1 S2
  · refine g_getstatic (host := "") C X0 (Or.inl (wd hw 144 rfl)) Via.refl S_15 d0_104 (fun T793 X793 => ?_)
    refine g_goto C X793 d0_107 ?_
    refine g_astore C X793 d0_113 rfl (l' := #[.val (.long qa), .second, .val (.long sb_), .second, .val (.long kb_), .second, .val (.long pa_), .second, .val (.int fl), .val (.long qv), .second, .val (.long sv), .second, .val (.long sk), .second, .val (.long (sv - sk)), .second, .val (.int cc), .val (.int lm), .val (.ref p_13), .unset, .unset, .unset, .unset, .unset, .unset, .unset, .unset, .unset, .unset]) rfl ?_
    exact L115 hw C X793 I0 p_1 p_5 p_9 p_13 p_17 p_21 zr zm pc_ kp vp SZR ZE ZS ZM ZV SPC VP PC ca kc vc SH SC VC HB S_3 E_4 S_7 E_8 S_11 E_12 S_15 E_16 S_19 E_20 S_23 E_24 S1 S2
theorem d0_82 : Dc code 82 (.iload 8) 2 84 := ⟨at_82, rfl⟩
theorem d0_84 : Dc code 84 (.iconst 4) 1 85 := ⟨at_84, rfl⟩
theorem d0_85 : Dc code 85 (.iand) 1 86 := ⟨at_85, rfl⟩
theorem d0_86 : Dj code 86 (.ifCond .eq 7) 7 3 89 93 := ⟨at_86, rfl, by decide, by decide⟩
theorem d0_93 : Dc code 93 (.iconst 0) 1 94 := ⟨at_93, rfl⟩
theorem d0_94 : Dc code 94 (.istore 18) 2 96 := ⟨at_94, rfl⟩
theorem d0_89 : Dc code 89 (.iconst 1) 1 90 := ⟨at_89, rfl⟩
theorem d0_90 : Dj code 90 (.goto 4) 4 3 93 94 := ⟨at_90, rfl, by decide, by decide⟩
theorem L82 {p : Program} {l : Launch} {e : Env} {s : State} {m : MethodId} {A : Array Value} {below : List Frame} {meth : Method} {c : Code} {Z : State} {a0 : Array Value} (hw : ∀ d ∈ tables_1, d.before a0 Z = true) {T0 : State} {h : Heap} {vm0 : Vm} {qa sb_ kb_ pa_ : Int64} {fl : Int32} {qv : Int64} {sv : Int64} {sk : Int64} {cc : Int32} (C : Cx p (s.setVm vm0) m meth c Z "com/example/halyard/halyard/orders/OrderLeavesPinLaw" "law" code maxLocals ret) (X0 : St p l e room_1 (s.setVm vm0) m A below meth c Z T0 h 0 0) (I0 : Lits Z consts_1 s vm0 h) (p_1 p_5 p_9 p_13 p_17 p_21 : Addr) (zr zm pc_ : Addr) (kp : ClassId) (vp : List Value) (SZR : Sta Z Z.heap "java/math/BigInteger" "ZERO" "Ljava/math/BigInteger;" (.ref zr)) (ZE : Exa Z Z.heap zr "java/math/BigInteger") (ZS : Fld Z Z.heap zr "java/math/BigInteger" "signum" "I" (.int (0 : Int32))) (ZM : Fld Z Z.heap zr "java/math/BigInteger" "mag" "[I" (.ref zm)) (ZV : IaS Z Z.heap zm 0) (SPC : Sta Z Z.heap "java/math/BigInteger" "posConst" "[Ljava/math/BigInteger;" (.ref pc_)) (VP : Arv Z Z.heap pc_ kp (.object "java/math/BigInteger") 17 vp .null) (PC : ∀ j : Nat, 1 ≤ j → j ≤ 16 → ∃ x mg : Addr, vp.getD j .null = .ref x ∧ Exa Z Z.heap x "java/math/BigInteger" ∧ Fld Z Z.heap x "java/math/BigInteger" "signum" "I" (.int (1 : Int32)) ∧ Fld Z Z.heap x "java/math/BigInteger" "mag" "[I" (.ref mg) ∧ IaS Z Z.heap mg 1) (ca : Addr) (kc : ClassId) (vc : List Value) (SH : Sta Z Z.heap "java/lang/Integer$IntegerCache" "high" "I" (.int (127 : Int32))) (SC : Sta Z Z.heap "java/lang/Integer$IntegerCache" "cache" "[Ljava/lang/Integer;" (.ref ca)) (VC : Arv Z Z.heap ca kc (.object "java/lang/Integer") 256 vc .null) (HB : ∀ j : Int32, ¬ j < 0 → j < 256 → ∃ b : Addr, vc.getD j.toNatClampNeg .null = .ref b ∧ Exa Z Z.heap b "java/lang/Integer" ∧ Fld Z Z.heap b "java/lang/Integer" "value" "I" (.int (j - 128))) (S_3 : Sta Z Z.heap "com/example/halyard/halyard/book/Side" "OFFER" "Lcom/example/halyard/halyard/book/Side;" (.ref p_1)) (E_4 : Exa Z Z.heap p_1 "com/example/halyard/halyard/book/Side") (S_7 : Sta Z Z.heap "com/example/halyard/halyard/orders/Order$TimeInForce" "IMMEDIATE_OR_CANCEL" "Lcom/example/halyard/halyard/orders/Order$TimeInForce;" (.ref p_5)) (E_8 : Exa Z Z.heap p_5 "com/example/halyard/halyard/orders/Order$TimeInForce") (S_11 : Sta Z Z.heap "com/example/halyard/halyard/orders/Order$Type" "MARKET" "Lcom/example/halyard/halyard/orders/Order$Type;" (.ref p_9)) (E_12 : Exa Z Z.heap p_9 "com/example/halyard/halyard/orders/Order$Type") (S_15 : Sta Z Z.heap "com/example/halyard/halyard/book/Side" "BID" "Lcom/example/halyard/halyard/book/Side;" (.ref p_13)) (E_16 : Exa Z Z.heap p_13 "com/example/halyard/halyard/book/Side") (S_19 : Sta Z Z.heap "com/example/halyard/halyard/orders/Order$Type" "LIMIT" "Lcom/example/halyard/halyard/orders/Order$Type;" (.ref p_17)) (E_20 : Exa Z Z.heap p_17 "com/example/halyard/halyard/orders/Order$Type") (S_23 : Sta Z Z.heap "com/example/halyard/halyard/orders/Order$TimeInForce" "DAY" "Lcom/example/halyard/halyard/orders/Order$TimeInForce;" (.ref p_21)) (E_24 : Exa Z Z.heap p_21 "com/example/halyard/halyard/orders/Order$TimeInForce") (S1 : 0 ≤ sk.toInt) (S2 : 0 ≤ (sv - sk).toInt) :
    Goes p e below (EndL Z consts_1 s 48 2304 (fun v' h' => v' = some (.int 1))) T0 (mkF m 82 #[.val (.long qa), .second, .val (.long sb_), .second, .val (.long kb_), .second, .val (.long pa_), .second, .val (.int fl), .val (.long qv), .second, .val (.long sv), .second, .val (.long sk), .second, .val (.long (sv - sk)), .second, .val (.int cc), .unset, .unset, .unset, .unset, .unset, .unset, .unset, .unset, .unset, .unset, .unset, .unset] []) := by
  refine g_iload C X0 d0_82 rfl ?_
  refine g_iconst 4 C X0 d0_84 rfl ?_
  refine g_iand C X0 d0_85 ?_
  refine g_if (h0_eq _) C X0 d0_86 (fun c86_794 => ?_) (fun c86_794 => ?_)
  · refine g_iconst 0 C X0 d0_93 rfl ?_
    refine g_istore C X0 d0_94 (l' := #[.val (.long qa), .second, .val (.long sb_), .second, .val (.long kb_), .second, .val (.long pa_), .second, .val (.int fl), .val (.long qv), .second, .val (.long sv), .second, .val (.long sk), .second, .val (.long (sv - sk)), .second, .val (.int cc), .val (.int 0), .unset, .unset, .unset, .unset, .unset, .unset, .unset, .unset, .unset, .unset, .unset]) rfl ?_
    exact L96 hw C X0 I0 p_1 p_5 p_9 p_13 p_17 p_21 zr zm pc_ kp vp SZR ZE ZS ZM ZV SPC VP PC ca kc vc SH SC VC HB S_3 E_4 S_7 E_8 S_11 E_12 S_15 E_16 S_19 E_20 S_23 E_24 S1 S2
  · refine g_iconst 1 C X0 d0_89 rfl ?_
    refine g_goto C X0 d0_90 ?_
    refine g_istore C X0 d0_94 (l' := #[.val (.long qa), .second, .val (.long sb_), .second, .val (.long kb_), .second, .val (.long pa_), .second, .val (.int fl), .val (.long qv), .second, .val (.long sv), .second, .val (.long sk), .second, .val (.long (sv - sk)), .second, .val (.int cc), .val (.int 1), .unset, .unset, .unset, .unset, .unset, .unset, .unset, .unset, .unset, .unset, .unset]) rfl ?_
    exact L96 hw C X0 I0 p_1 p_5 p_9 p_13 p_17 p_21 zr zm pc_ kp vp SZR ZE ZS ZM ZV SPC VP PC ca kc vc SH SC VC HB S_3 E_4 S_7 E_8 S_11 E_12 S_15 E_16 S_19 E_20 S_23 E_24 S1 S2
theorem d0_68 : Dc code 68 (.iload 8) 2 70 := ⟨at_68, rfl⟩
theorem d0_70 : Dc code 70 (.iconst 2) 1 71 := ⟨at_70, rfl⟩
theorem d0_71 : Dc code 71 (.iand) 1 72 := ⟨at_71, rfl⟩
theorem d0_72 : Dj code 72 (.ifCond .eq 7) 7 3 75 79 := ⟨at_72, rfl, by decide, by decide⟩
theorem d0_79 : Dc code 79 (.iconst 0) 1 80 := ⟨at_79, rfl⟩
theorem d0_80 : Dc code 80 (.istore 17) 2 82 := ⟨at_80, rfl⟩
theorem d0_75 : Dc code 75 (.iconst 1) 1 76 := ⟨at_75, rfl⟩
theorem d0_76 : Dj code 76 (.goto 4) 4 3 79 80 := ⟨at_76, rfl, by decide, by decide⟩
theorem L68 {p : Program} {l : Launch} {e : Env} {s : State} {m : MethodId} {A : Array Value} {below : List Frame} {meth : Method} {c : Code} {Z : State} {a0 : Array Value} (hw : ∀ d ∈ tables_1, d.before a0 Z = true) {T0 : State} {h : Heap} {vm0 : Vm} {qa sb_ kb_ pa_ : Int64} {fl : Int32} {qv : Int64} {sv : Int64} {sk : Int64} (C : Cx p (s.setVm vm0) m meth c Z "com/example/halyard/halyard/orders/OrderLeavesPinLaw" "law" code maxLocals ret) (X0 : St p l e room_1 (s.setVm vm0) m A below meth c Z T0 h 0 0) (I0 : Lits Z consts_1 s vm0 h) (p_1 p_5 p_9 p_13 p_17 p_21 : Addr) (zr zm pc_ : Addr) (kp : ClassId) (vp : List Value) (SZR : Sta Z Z.heap "java/math/BigInteger" "ZERO" "Ljava/math/BigInteger;" (.ref zr)) (ZE : Exa Z Z.heap zr "java/math/BigInteger") (ZS : Fld Z Z.heap zr "java/math/BigInteger" "signum" "I" (.int (0 : Int32))) (ZM : Fld Z Z.heap zr "java/math/BigInteger" "mag" "[I" (.ref zm)) (ZV : IaS Z Z.heap zm 0) (SPC : Sta Z Z.heap "java/math/BigInteger" "posConst" "[Ljava/math/BigInteger;" (.ref pc_)) (VP : Arv Z Z.heap pc_ kp (.object "java/math/BigInteger") 17 vp .null) (PC : ∀ j : Nat, 1 ≤ j → j ≤ 16 → ∃ x mg : Addr, vp.getD j .null = .ref x ∧ Exa Z Z.heap x "java/math/BigInteger" ∧ Fld Z Z.heap x "java/math/BigInteger" "signum" "I" (.int (1 : Int32)) ∧ Fld Z Z.heap x "java/math/BigInteger" "mag" "[I" (.ref mg) ∧ IaS Z Z.heap mg 1) (ca : Addr) (kc : ClassId) (vc : List Value) (SH : Sta Z Z.heap "java/lang/Integer$IntegerCache" "high" "I" (.int (127 : Int32))) (SC : Sta Z Z.heap "java/lang/Integer$IntegerCache" "cache" "[Ljava/lang/Integer;" (.ref ca)) (VC : Arv Z Z.heap ca kc (.object "java/lang/Integer") 256 vc .null) (HB : ∀ j : Int32, ¬ j < 0 → j < 256 → ∃ b : Addr, vc.getD j.toNatClampNeg .null = .ref b ∧ Exa Z Z.heap b "java/lang/Integer" ∧ Fld Z Z.heap b "java/lang/Integer" "value" "I" (.int (j - 128))) (S_3 : Sta Z Z.heap "com/example/halyard/halyard/book/Side" "OFFER" "Lcom/example/halyard/halyard/book/Side;" (.ref p_1)) (E_4 : Exa Z Z.heap p_1 "com/example/halyard/halyard/book/Side") (S_7 : Sta Z Z.heap "com/example/halyard/halyard/orders/Order$TimeInForce" "IMMEDIATE_OR_CANCEL" "Lcom/example/halyard/halyard/orders/Order$TimeInForce;" (.ref p_5)) (E_8 : Exa Z Z.heap p_5 "com/example/halyard/halyard/orders/Order$TimeInForce") (S_11 : Sta Z Z.heap "com/example/halyard/halyard/orders/Order$Type" "MARKET" "Lcom/example/halyard/halyard/orders/Order$Type;" (.ref p_9)) (E_12 : Exa Z Z.heap p_9 "com/example/halyard/halyard/orders/Order$Type") (S_15 : Sta Z Z.heap "com/example/halyard/halyard/book/Side" "BID" "Lcom/example/halyard/halyard/book/Side;" (.ref p_13)) (E_16 : Exa Z Z.heap p_13 "com/example/halyard/halyard/book/Side") (S_19 : Sta Z Z.heap "com/example/halyard/halyard/orders/Order$Type" "LIMIT" "Lcom/example/halyard/halyard/orders/Order$Type;" (.ref p_17)) (E_20 : Exa Z Z.heap p_17 "com/example/halyard/halyard/orders/Order$Type") (S_23 : Sta Z Z.heap "com/example/halyard/halyard/orders/Order$TimeInForce" "DAY" "Lcom/example/halyard/halyard/orders/Order$TimeInForce;" (.ref p_21)) (E_24 : Exa Z Z.heap p_21 "com/example/halyard/halyard/orders/Order$TimeInForce") (S1 : 0 ≤ sk.toInt) (S2 : 0 ≤ (sv - sk).toInt) :
    Goes p e below (EndL Z consts_1 s 48 2304 (fun v' h' => v' = some (.int 1))) T0 (mkF m 68 #[.val (.long qa), .second, .val (.long sb_), .second, .val (.long kb_), .second, .val (.long pa_), .second, .val (.int fl), .val (.long qv), .second, .val (.long sv), .second, .val (.long sk), .second, .val (.long (sv - sk)), .second, .unset, .unset, .unset, .unset, .unset, .unset, .unset, .unset, .unset, .unset, .unset, .unset, .unset] []) := by
  refine g_iload C X0 d0_68 rfl ?_
  refine g_iconst 2 C X0 d0_70 rfl ?_
  refine g_iand C X0 d0_71 ?_
  refine g_if (h0_eq _) C X0 d0_72 (fun c72_795 => ?_) (fun c72_795 => ?_)
  · refine g_iconst 0 C X0 d0_79 rfl ?_
    refine g_istore C X0 d0_80 (l' := #[.val (.long qa), .second, .val (.long sb_), .second, .val (.long kb_), .second, .val (.long pa_), .second, .val (.int fl), .val (.long qv), .second, .val (.long sv), .second, .val (.long sk), .second, .val (.long (sv - sk)), .second, .val (.int 0), .unset, .unset, .unset, .unset, .unset, .unset, .unset, .unset, .unset, .unset, .unset, .unset]) rfl ?_
    exact L82 hw C X0 I0 p_1 p_5 p_9 p_13 p_17 p_21 zr zm pc_ kp vp SZR ZE ZS ZM ZV SPC VP PC ca kc vc SH SC VC HB S_3 E_4 S_7 E_8 S_11 E_12 S_15 E_16 S_19 E_20 S_23 E_24 S1 S2
  · refine g_iconst 1 C X0 d0_75 rfl ?_
    refine g_goto C X0 d0_76 ?_
    refine g_istore C X0 d0_80 (l' := #[.val (.long qa), .second, .val (.long sb_), .second, .val (.long kb_), .second, .val (.long pa_), .second, .val (.int fl), .val (.long qv), .second, .val (.long sv), .second, .val (.long sk), .second, .val (.long (sv - sk)), .second, .val (.int 1), .unset, .unset, .unset, .unset, .unset, .unset, .unset, .unset, .unset, .unset, .unset, .unset]) rfl ?_
    exact L82 hw C X0 I0 p_1 p_5 p_9 p_13 p_17 p_21 zr zm pc_ kp vp SZR ZE ZS ZM ZV SPC VP PC ca kc vc SH SC VC HB S_3 E_4 S_7 E_8 S_11 E_12 S_15 E_16 S_19 E_20 S_23 E_24 S1 S2
theorem d0_39 : Dc code 39 (.lload 11) 2 41 := ⟨at_39, rfl⟩
theorem d0_41 : Dc code 41 (.lconst 0) 1 42 := ⟨at_41, rfl⟩
theorem d0_42 : Dc code 42 (.lcmp) 1 43 := ⟨at_42, rfl⟩
theorem d0_43 : Dj code 43 (.ifCond .ne 7) 7 3 46 50 := ⟨at_43, rfl, by decide, by decide⟩
theorem d0_50 : Dc code 50 (.lload 4) 2 52 := ⟨at_50, rfl⟩
theorem d0_52 : Dc code 52 (.ldc2_w 9) 3 55 := ⟨at_52, rfl⟩
theorem d0_55 : Dc code 55 (.land) 1 56 := ⟨at_55, rfl⟩
theorem d0_56 : Dc code 56 (.lload 11) 2 58 := ⟨at_56, rfl⟩
theorem d0_58 : Dc code 58 (.lrem) 1 59 := ⟨at_58, rfl⟩
theorem d0_59 : Dc code 59 (.lstore 13) 2 61 := ⟨at_59, rfl⟩
theorem d0_61 : Dc code 61 (.lload 11) 2 63 := ⟨at_61, rfl⟩
theorem d0_63 : Dc code 63 (.lload 13) 2 65 := ⟨at_63, rfl⟩
theorem d0_65 : Dc code 65 (.lsub) 1 66 := ⟨at_65, rfl⟩
theorem d0_66 : Dc code 66 (.lstore 15) 2 68 := ⟨at_66, rfl⟩
theorem d0_46 : Dc code 46 (.lconst 0) 1 47 := ⟨at_46, rfl⟩
theorem d0_47 : Dj code 47 (.goto 12) 12 3 50 59 := ⟨at_47, rfl, by decide, by decide⟩
theorem L39 {p : Program} {l : Launch} {e : Env} {s : State} {m : MethodId} {A : Array Value} {below : List Frame} {meth : Method} {c : Code} {Z : State} {a0 : Array Value} (hw : ∀ d ∈ tables_1, d.before a0 Z = true) {T0 : State} {h : Heap} {vm0 : Vm} {qa sb_ kb_ pa_ : Int64} {fl : Int32} {qv : Int64} {sv : Int64} (C : Cx p (s.setVm vm0) m meth c Z "com/example/halyard/halyard/orders/OrderLeavesPinLaw" "law" code maxLocals ret) (X0 : St p l e room_1 (s.setVm vm0) m A below meth c Z T0 h 0 0) (I0 : Lits Z consts_1 s vm0 h) (p_1 p_5 p_9 p_13 p_17 p_21 : Addr) (zr zm pc_ : Addr) (kp : ClassId) (vp : List Value) (SZR : Sta Z Z.heap "java/math/BigInteger" "ZERO" "Ljava/math/BigInteger;" (.ref zr)) (ZE : Exa Z Z.heap zr "java/math/BigInteger") (ZS : Fld Z Z.heap zr "java/math/BigInteger" "signum" "I" (.int (0 : Int32))) (ZM : Fld Z Z.heap zr "java/math/BigInteger" "mag" "[I" (.ref zm)) (ZV : IaS Z Z.heap zm 0) (SPC : Sta Z Z.heap "java/math/BigInteger" "posConst" "[Ljava/math/BigInteger;" (.ref pc_)) (VP : Arv Z Z.heap pc_ kp (.object "java/math/BigInteger") 17 vp .null) (PC : ∀ j : Nat, 1 ≤ j → j ≤ 16 → ∃ x mg : Addr, vp.getD j .null = .ref x ∧ Exa Z Z.heap x "java/math/BigInteger" ∧ Fld Z Z.heap x "java/math/BigInteger" "signum" "I" (.int (1 : Int32)) ∧ Fld Z Z.heap x "java/math/BigInteger" "mag" "[I" (.ref mg) ∧ IaS Z Z.heap mg 1) (ca : Addr) (kc : ClassId) (vc : List Value) (SH : Sta Z Z.heap "java/lang/Integer$IntegerCache" "high" "I" (.int (127 : Int32))) (SC : Sta Z Z.heap "java/lang/Integer$IntegerCache" "cache" "[Ljava/lang/Integer;" (.ref ca)) (VC : Arv Z Z.heap ca kc (.object "java/lang/Integer") 256 vc .null) (HB : ∀ j : Int32, ¬ j < 0 → j < 256 → ∃ b : Addr, vc.getD j.toNatClampNeg .null = .ref b ∧ Exa Z Z.heap b "java/lang/Integer" ∧ Fld Z Z.heap b "java/lang/Integer" "value" "I" (.int (j - 128))) (S_3 : Sta Z Z.heap "com/example/halyard/halyard/book/Side" "OFFER" "Lcom/example/halyard/halyard/book/Side;" (.ref p_1)) (E_4 : Exa Z Z.heap p_1 "com/example/halyard/halyard/book/Side") (S_7 : Sta Z Z.heap "com/example/halyard/halyard/orders/Order$TimeInForce" "IMMEDIATE_OR_CANCEL" "Lcom/example/halyard/halyard/orders/Order$TimeInForce;" (.ref p_5)) (E_8 : Exa Z Z.heap p_5 "com/example/halyard/halyard/orders/Order$TimeInForce") (S_11 : Sta Z Z.heap "com/example/halyard/halyard/orders/Order$Type" "MARKET" "Lcom/example/halyard/halyard/orders/Order$Type;" (.ref p_9)) (E_12 : Exa Z Z.heap p_9 "com/example/halyard/halyard/orders/Order$Type") (S_15 : Sta Z Z.heap "com/example/halyard/halyard/book/Side" "BID" "Lcom/example/halyard/halyard/book/Side;" (.ref p_13)) (E_16 : Exa Z Z.heap p_13 "com/example/halyard/halyard/book/Side") (S_19 : Sta Z Z.heap "com/example/halyard/halyard/orders/Order$Type" "LIMIT" "Lcom/example/halyard/halyard/orders/Order$Type;" (.ref p_17)) (E_20 : Exa Z Z.heap p_17 "com/example/halyard/halyard/orders/Order$Type") (S_23 : Sta Z Z.heap "com/example/halyard/halyard/orders/Order$TimeInForce" "DAY" "Lcom/example/halyard/halyard/orders/Order$TimeInForce;" (.ref p_21)) (E_24 : Exa Z Z.heap p_21 "com/example/halyard/halyard/orders/Order$TimeInForce") (S0 : 0 ≤ sv.toInt) :
    Goes p e below (EndL Z consts_1 s 48 2304 (fun v' h' => v' = some (.int 1))) T0 (mkF m 39 #[.val (.long qa), .second, .val (.long sb_), .second, .val (.long kb_), .second, .val (.long pa_), .second, .val (.int fl), .val (.long qv), .second, .val (.long sv), .second, .unset, .unset, .unset, .unset, .unset, .unset, .unset, .unset, .unset, .unset, .unset, .unset, .unset, .unset, .unset, .unset, .unset] []) := by
  refine g_lload C X0 d0_39 rfl ?_
  refine g_lconst 0 C X0 d0_41 rfl ?_
  refine g_lcmp C X0 d0_42 ?_
  refine g_ifn (hL_ne _ _) C X0 d0_43 (fun c43_796 => ?_) (fun c43_796 => ?_)
  · refine g_lload C X0 d0_50 rfl ?_
    refine g_ldcJ C X0 (wd hw 0 rfl) d0_52 ?_
    refine g_land C X0 d0_55 ?_
    refine g_lload C X0 d0_56 rfl ?_
    refine g_lrem C X0 d0_58 c43_796 ?_
    refine g_lstore C X0 d0_59 (l' := #[.val (.long qa), .second, .val (.long sb_), .second, .val (.long kb_), .second, .val (.long pa_), .second, .val (.int fl), .val (.long qv), .second, .val (.long sv), .second, .val (.long ((kb_ &&& (9223372036854775807 : Int64)) % sv)), .second, .unset, .unset, .unset, .unset, .unset, .unset, .unset, .unset, .unset, .unset, .unset, .unset, .unset, .unset, .unset]) rfl ?_
    refine g_lload C X0 d0_61 rfl ?_
    refine g_lload C X0 d0_63 rfl ?_
    refine g_lsub C X0 d0_65 ?_
    refine g_lstore C X0 d0_66 (l' := #[.val (.long qa), .second, .val (.long sb_), .second, .val (.long kb_), .second, .val (.long pa_), .second, .val (.int fl), .val (.long qv), .second, .val (.long sv), .second, .val (.long ((kb_ &&& (9223372036854775807 : Int64)) % sv)), .second, .val (.long (sv - ((kb_ &&& (9223372036854775807 : Int64)) % sv))), .second, .unset, .unset, .unset, .unset, .unset, .unset, .unset, .unset, .unset, .unset, .unset, .unset, .unset]) rfl ?_
    exact L68 hw C X0 I0 p_1 p_5 p_9 p_13 p_17 p_21 zr zm pc_ kp vp SZR ZE ZS ZM ZV SPC VP PC ca kc vc SH SC VC HB S_3 E_4 S_7 E_8 S_11 E_12 S_15 E_16 S_19 E_20 S_23 E_24 (own_rem (own_and63 kb_) (own_ps64 S0 c43_796)).1 (by have q0 := own_rem (own_and63 kb_) (own_ps64 S0 c43_796); rw [own_sub64 _ _ q0.1 (by omega)]; omega)
  · refine g_lconst 0 C X0 d0_46 rfl ?_
    refine g_goto C X0 d0_47 ?_
    refine g_lstore C X0 d0_59 (l' := #[.val (.long qa), .second, .val (.long sb_), .second, .val (.long kb_), .second, .val (.long pa_), .second, .val (.int fl), .val (.long qv), .second, .val (.long sv), .second, .val (.long 0), .second, .unset, .unset, .unset, .unset, .unset, .unset, .unset, .unset, .unset, .unset, .unset, .unset, .unset, .unset, .unset]) rfl ?_
    refine g_lload C X0 d0_61 rfl ?_
    refine g_lload C X0 d0_63 rfl ?_
    refine g_lsub C X0 d0_65 ?_
    refine g_lstore C X0 d0_66 (l' := #[.val (.long qa), .second, .val (.long sb_), .second, .val (.long kb_), .second, .val (.long pa_), .second, .val (.int fl), .val (.long qv), .second, .val (.long sv), .second, .val (.long 0), .second, .val (.long (sv - (0 : Int64))), .second, .unset, .unset, .unset, .unset, .unset, .unset, .unset, .unset, .unset, .unset, .unset, .unset, .unset]) rfl ?_
    exact L68 hw C X0 I0 p_1 p_5 p_9 p_13 p_17 p_21 zr zm pc_ kp vp SZR ZE ZS ZM ZV SPC VP PC ca kc vc SH SC VC HB S_3 E_4 S_7 E_8 S_11 E_12 S_15 E_16 S_19 E_20 S_23 E_24 (by decide) (by rw [own_sub64 sv 0 (by decide) (by rw [show (0 : Int64).toInt = 0 from rfl]; exact S0), show (0 : Int64).toInt = 0 from rfl]; omega)
theorem d0_17 : Dc code 17 (.iload 8) 2 19 := ⟨at_17, rfl⟩
theorem d0_19 : Dc code 19 (.iconst 1) 1 20 := ⟨at_19, rfl⟩
theorem d0_20 : Dc code 20 (.iand) 1 21 := ⟨at_20, rfl⟩
theorem d0_21 : Dj code 21 (.ifCond .eq 8) 8 3 24 29 := ⟨at_21, rfl, by decide, by decide⟩
theorem d0_29 : Dc code 29 (.lload_n 2) 1 30 := ⟨at_29, rfl⟩
theorem d0_30 : Dc code 30 (.ldc2_w 9) 3 33 := ⟨at_30, rfl⟩
theorem d0_33 : Dc code 33 (.land) 1 34 := ⟨at_33, rfl⟩
theorem d0_34 : Dc code 34 (.lload 9) 2 36 := ⟨at_34, rfl⟩
theorem d0_36 : Dc code 36 (.lrem) 1 37 := ⟨at_36, rfl⟩
theorem d0_37 : Dc code 37 (.lstore 11) 2 39 := ⟨at_37, rfl⟩
theorem d0_24 : Dc code 24 (.lload 9) 2 26 := ⟨at_24, rfl⟩
theorem d0_26 : Dj code 26 (.goto 11) 11 3 29 37 := ⟨at_26, rfl, by decide, by decide⟩
theorem L17 {p : Program} {l : Launch} {e : Env} {s : State} {m : MethodId} {A : Array Value} {below : List Frame} {meth : Method} {c : Code} {Z : State} {a0 : Array Value} (hw : ∀ d ∈ tables_1, d.before a0 Z = true) {T0 : State} {h : Heap} {vm0 : Vm} {qa sb_ kb_ pa_ : Int64} {fl : Int32} {qv : Int64} (C : Cx p (s.setVm vm0) m meth c Z "com/example/halyard/halyard/orders/OrderLeavesPinLaw" "law" code maxLocals ret) (X0 : St p l e room_1 (s.setVm vm0) m A below meth c Z T0 h 0 0) (I0 : Lits Z consts_1 s vm0 h) (p_1 p_5 p_9 p_13 p_17 p_21 : Addr) (zr zm pc_ : Addr) (kp : ClassId) (vp : List Value) (SZR : Sta Z Z.heap "java/math/BigInteger" "ZERO" "Ljava/math/BigInteger;" (.ref zr)) (ZE : Exa Z Z.heap zr "java/math/BigInteger") (ZS : Fld Z Z.heap zr "java/math/BigInteger" "signum" "I" (.int (0 : Int32))) (ZM : Fld Z Z.heap zr "java/math/BigInteger" "mag" "[I" (.ref zm)) (ZV : IaS Z Z.heap zm 0) (SPC : Sta Z Z.heap "java/math/BigInteger" "posConst" "[Ljava/math/BigInteger;" (.ref pc_)) (VP : Arv Z Z.heap pc_ kp (.object "java/math/BigInteger") 17 vp .null) (PC : ∀ j : Nat, 1 ≤ j → j ≤ 16 → ∃ x mg : Addr, vp.getD j .null = .ref x ∧ Exa Z Z.heap x "java/math/BigInteger" ∧ Fld Z Z.heap x "java/math/BigInteger" "signum" "I" (.int (1 : Int32)) ∧ Fld Z Z.heap x "java/math/BigInteger" "mag" "[I" (.ref mg) ∧ IaS Z Z.heap mg 1) (ca : Addr) (kc : ClassId) (vc : List Value) (SH : Sta Z Z.heap "java/lang/Integer$IntegerCache" "high" "I" (.int (127 : Int32))) (SC : Sta Z Z.heap "java/lang/Integer$IntegerCache" "cache" "[Ljava/lang/Integer;" (.ref ca)) (VC : Arv Z Z.heap ca kc (.object "java/lang/Integer") 256 vc .null) (HB : ∀ j : Int32, ¬ j < 0 → j < 256 → ∃ b : Addr, vc.getD j.toNatClampNeg .null = .ref b ∧ Exa Z Z.heap b "java/lang/Integer" ∧ Fld Z Z.heap b "java/lang/Integer" "value" "I" (.int (j - 128))) (S_3 : Sta Z Z.heap "com/example/halyard/halyard/book/Side" "OFFER" "Lcom/example/halyard/halyard/book/Side;" (.ref p_1)) (E_4 : Exa Z Z.heap p_1 "com/example/halyard/halyard/book/Side") (S_7 : Sta Z Z.heap "com/example/halyard/halyard/orders/Order$TimeInForce" "IMMEDIATE_OR_CANCEL" "Lcom/example/halyard/halyard/orders/Order$TimeInForce;" (.ref p_5)) (E_8 : Exa Z Z.heap p_5 "com/example/halyard/halyard/orders/Order$TimeInForce") (S_11 : Sta Z Z.heap "com/example/halyard/halyard/orders/Order$Type" "MARKET" "Lcom/example/halyard/halyard/orders/Order$Type;" (.ref p_9)) (E_12 : Exa Z Z.heap p_9 "com/example/halyard/halyard/orders/Order$Type") (S_15 : Sta Z Z.heap "com/example/halyard/halyard/book/Side" "BID" "Lcom/example/halyard/halyard/book/Side;" (.ref p_13)) (E_16 : Exa Z Z.heap p_13 "com/example/halyard/halyard/book/Side") (S_19 : Sta Z Z.heap "com/example/halyard/halyard/orders/Order$Type" "LIMIT" "Lcom/example/halyard/halyard/orders/Order$Type;" (.ref p_17)) (E_20 : Exa Z Z.heap p_17 "com/example/halyard/halyard/orders/Order$Type") (S_23 : Sta Z Z.heap "com/example/halyard/halyard/orders/Order$TimeInForce" "DAY" "Lcom/example/halyard/halyard/orders/Order$TimeInForce;" (.ref p_21)) (E_24 : Exa Z Z.heap p_21 "com/example/halyard/halyard/orders/Order$TimeInForce") (Q0 : 0 < qv.toInt) :
    Goes p e below (EndL Z consts_1 s 48 2304 (fun v' h' => v' = some (.int 1))) T0 (mkF m 17 #[.val (.long qa), .second, .val (.long sb_), .second, .val (.long kb_), .second, .val (.long pa_), .second, .val (.int fl), .val (.long qv), .second, .unset, .unset, .unset, .unset, .unset, .unset, .unset, .unset, .unset, .unset, .unset, .unset, .unset, .unset, .unset, .unset, .unset, .unset, .unset] []) := by
  refine g_iload C X0 d0_17 rfl ?_
  refine g_iconst 1 C X0 d0_19 rfl ?_
  refine g_iand C X0 d0_20 ?_
  refine g_if (h0_eq _) C X0 d0_21 (fun c21_797 => ?_) (fun c21_797 => ?_)
  · refine g_lloadN C X0 d0_29 rfl ?_
    refine g_ldcJ C X0 (wd hw 0 rfl) d0_30 ?_
    refine g_land C X0 d0_33 ?_
    refine g_lload C X0 d0_34 rfl ?_
    refine g_lrem C X0 d0_36 (own_nz64 Q0) ?_
    refine g_lstore C X0 d0_37 (l' := #[.val (.long qa), .second, .val (.long sb_), .second, .val (.long kb_), .second, .val (.long pa_), .second, .val (.int fl), .val (.long qv), .second, .val (.long ((sb_ &&& (9223372036854775807 : Int64)) % qv)), .second, .unset, .unset, .unset, .unset, .unset, .unset, .unset, .unset, .unset, .unset, .unset, .unset, .unset, .unset, .unset, .unset, .unset]) rfl ?_
    exact L39 hw C X0 I0 p_1 p_5 p_9 p_13 p_17 p_21 zr zm pc_ kp vp SZR ZE ZS ZM ZV SPC VP PC ca kc vc SH SC VC HB S_3 E_4 S_7 E_8 S_11 E_12 S_15 E_16 S_19 E_20 S_23 E_24 (own_rem (own_and63 sb_) Q0).1
  · refine g_lload C X0 d0_24 rfl ?_
    refine g_goto C X0 d0_26 ?_
    refine g_lstore C X0 d0_37 (l' := #[.val (.long qa), .second, .val (.long sb_), .second, .val (.long kb_), .second, .val (.long pa_), .second, .val (.int fl), .val (.long qv), .second, .val (.long qv), .second, .unset, .unset, .unset, .unset, .unset, .unset, .unset, .unset, .unset, .unset, .unset, .unset, .unset, .unset, .unset, .unset, .unset]) rfl ?_
    exact L39 hw C X0 I0 p_1 p_5 p_9 p_13 p_17 p_21 zr zm pc_ kp vp SZR ZE ZS ZM ZV SPC VP PC ca kc vc SH SC VC HB S_3 E_4 S_7 E_8 S_11 E_12 S_15 E_16 S_19 E_20 S_23 E_24 (by omega)
theorem pn_7 : plainName "com/example/halyard/halyard/orders/OrderLeavesPinLaw" = true := by first | (simp [plainName, overriddenIn]; done) | decide +kernel
theorem ef_rm0 (m : MethodId) (qa : Int64) (sb_ : Int64) (kb_ : Int64) (pa_ : Int64) (fl : Int32) : entryFrame m #[(.long qa), (.long sb_), (.long kb_), (.long pa_), (.int fl)] maxLocals = mkF m 0 #[.val (.long qa), .second, .val (.long sb_), .second, .val (.long kb_), .second, .val (.long pa_), .second, .val (.int fl), .unset, .unset, .unset, .unset, .unset, .unset, .unset, .unset, .unset, .unset, .unset, .unset, .unset, .unset, .unset, .unset, .unset, .unset, .unset, .unset, .unset] [] := by first | (simp [entryFrame, mkF, argsToLocals, Value.category, maxLocals]; done) | rfl
theorem d0_0 : Dc code 0 (.lload_n 0) 1 1 := ⟨at_0, rfl⟩
theorem d0_1 : Dc code 1 (.ldc2_w 9) 3 4 := ⟨at_1, rfl⟩
theorem d0_4 : Dc code 4 (.land) 1 5 := ⟨at_4, rfl⟩
theorem d0_5 : Dc code 5 (.lstore 9) 2 7 := ⟨at_5, rfl⟩
theorem d0_7 : Dc code 7 (.lload 9) 2 9 := ⟨at_7, rfl⟩
theorem d0_9 : Dc code 9 (.lconst 0) 1 10 := ⟨at_9, rfl⟩
theorem d0_10 : Dc code 10 (.lcmp) 1 11 := ⟨at_10, rfl⟩
theorem d0_11 : Dj code 11 (.ifCond .ne 6) 6 3 14 17 := ⟨at_11, rfl, by decide, by decide⟩
theorem d0_14 : Dc code 14 (.lconst 1) 1 15 := ⟨at_14, rfl⟩
theorem d0_15 : Dc code 15 (.lstore 9) 2 17 := ⟨at_15, rfl⟩
theorem rm0 (l : Launch) {Z : State} {a0 : Array Value} (hw : ∀ d ∈ tables_1, d.before a0 Z = true) {h : Heap} (hE : Ext Z.heap h) (qa : Int64) (sb_ : Int64) (kb_ : Int64) (pa_ : Int64) (fl : Int32) (p_1 p_5 p_9 p_13 p_17 p_21 : Addr) (zr zm pc_ : Addr) (kp : ClassId) (vp : List Value) (SZR : Sta Z Z.heap "java/math/BigInteger" "ZERO" "Ljava/math/BigInteger;" (.ref zr)) (ZE : Exa Z Z.heap zr "java/math/BigInteger") (ZS : Fld Z Z.heap zr "java/math/BigInteger" "signum" "I" (.int (0 : Int32))) (ZM : Fld Z Z.heap zr "java/math/BigInteger" "mag" "[I" (.ref zm)) (ZV : IaS Z Z.heap zm 0) (SPC : Sta Z Z.heap "java/math/BigInteger" "posConst" "[Ljava/math/BigInteger;" (.ref pc_)) (VP : Arv Z Z.heap pc_ kp (.object "java/math/BigInteger") 17 vp .null) (PC : ∀ j : Nat, 1 ≤ j → j ≤ 16 → ∃ x mg : Addr, vp.getD j .null = .ref x ∧ Exa Z Z.heap x "java/math/BigInteger" ∧ Fld Z Z.heap x "java/math/BigInteger" "signum" "I" (.int (1 : Int32)) ∧ Fld Z Z.heap x "java/math/BigInteger" "mag" "[I" (.ref mg) ∧ IaS Z Z.heap mg 1) (ca : Addr) (kc : ClassId) (vc : List Value) (SH : Sta Z Z.heap "java/lang/Integer$IntegerCache" "high" "I" (.int (127 : Int32))) (SC : Sta Z Z.heap "java/lang/Integer$IntegerCache" "cache" "[Ljava/lang/Integer;" (.ref ca)) (VC : Arv Z Z.heap ca kc (.object "java/lang/Integer") 256 vc .null) (HB : ∀ j : Int32, ¬ j < 0 → j < 256 → ∃ b : Addr, vc.getD j.toNatClampNeg .null = .ref b ∧ Exa Z Z.heap b "java/lang/Integer" ∧ Fld Z Z.heap b "java/lang/Integer" "value" "I" (.int (j - 128))) (S_3 : Sta Z Z.heap "com/example/halyard/halyard/book/Side" "OFFER" "Lcom/example/halyard/halyard/book/Side;" (.ref p_1)) (E_4 : Exa Z Z.heap p_1 "com/example/halyard/halyard/book/Side") (S_7 : Sta Z Z.heap "com/example/halyard/halyard/orders/Order$TimeInForce" "IMMEDIATE_OR_CANCEL" "Lcom/example/halyard/halyard/orders/Order$TimeInForce;" (.ref p_5)) (E_8 : Exa Z Z.heap p_5 "com/example/halyard/halyard/orders/Order$TimeInForce") (S_11 : Sta Z Z.heap "com/example/halyard/halyard/orders/Order$Type" "MARKET" "Lcom/example/halyard/halyard/orders/Order$Type;" (.ref p_9)) (E_12 : Exa Z Z.heap p_9 "com/example/halyard/halyard/orders/Order$Type") (S_15 : Sta Z Z.heap "com/example/halyard/halyard/book/Side" "BID" "Lcom/example/halyard/halyard/book/Side;" (.ref p_13)) (E_16 : Exa Z Z.heap p_13 "com/example/halyard/halyard/book/Side") (S_19 : Sta Z Z.heap "com/example/halyard/halyard/orders/Order$Type" "LIMIT" "Lcom/example/halyard/halyard/orders/Order$Type;" (.ref p_17)) (E_20 : Exa Z Z.heap p_17 "com/example/halyard/halyard/orders/Order$Type") (S_23 : Sta Z Z.heap "com/example/halyard/halyard/orders/Order$TimeInForce" "DAY" "Lcom/example/halyard/halyard/orders/Order$TimeInForce;" (.ref p_21)) (E_24 : Exa Z Z.heap p_21 "com/example/halyard/halyard/orders/Order$TimeInForce") :
    ConL l x code maxLocals ret tables_1 room_1 Z consts_1 [] #[(.long qa), (.long sb_), (.long kb_), (.long pa_), (.int fl)] h (fun v' h' => v' = some (.int 1)) := by
  refine con_ofL (plainFor_of_name pn_7) hE (fun m => ef_rm0 m qa sb_ kb_ pa_ fl) ?_
  intro p e s m below meth c T0 C X0 I0 hsf
  have C : Cx p (s.setVm s.vm) m meth c Z "com/example/halyard/halyard/orders/OrderLeavesPinLaw" "law" code maxLocals ret := C
  show Goes p e below _ T0 (mkF m 0 #[.val (.long qa), .second, .val (.long sb_), .second, .val (.long kb_), .second, .val (.long pa_), .second, .val (.int fl), .unset, .unset, .unset, .unset, .unset, .unset, .unset, .unset, .unset, .unset, .unset, .unset, .unset, .unset, .unset, .unset, .unset, .unset, .unset, .unset, .unset] [])
  refine g_lloadN C X0 d0_0 rfl ?_
  refine g_ldcJ C X0 (wd hw 0 rfl) d0_1 ?_
  refine g_land C X0 d0_4 ?_
  refine g_lstore C X0 d0_5 (l' := #[.val (.long qa), .second, .val (.long sb_), .second, .val (.long kb_), .second, .val (.long pa_), .second, .val (.int fl), .val (.long (qa &&& (9223372036854775807 : Int64))), .second, .unset, .unset, .unset, .unset, .unset, .unset, .unset, .unset, .unset, .unset, .unset, .unset, .unset, .unset, .unset, .unset, .unset, .unset, .unset]) rfl ?_
  refine g_lload C X0 d0_7 rfl ?_
  refine g_lconst 0 C X0 d0_9 rfl ?_
  refine g_lcmp C X0 d0_10 ?_
  refine g_ifn (hL_ne _ _) C X0 d0_11 (fun c11_798 => ?_) (fun c11_798 => ?_)
  · exact L17 hw C X0 I0 p_1 p_5 p_9 p_13 p_17 p_21 zr zm pc_ kp vp SZR ZE ZS ZM ZV SPC VP PC ca kc vc SH SC VC HB S_3 E_4 S_7 E_8 S_11 E_12 S_15 E_16 S_19 E_20 S_23 E_24 (own_ps64 (own_and63 qa) c11_798)
  · refine g_lconst 1 C X0 d0_14 rfl ?_
    refine g_lstore C X0 d0_15 (l' := #[.val (.long qa), .second, .val (.long sb_), .second, .val (.long kb_), .second, .val (.long pa_), .second, .val (.int fl), .val (.long 1), .second, .unset, .unset, .unset, .unset, .unset, .unset, .unset, .unset, .unset, .unset, .unset, .unset, .unset, .unset, .unset, .unset, .unset, .unset, .unset]) rfl ?_
    exact L17 hw C X0 I0 p_1 p_5 p_9 p_13 p_17 p_21 zr zm pc_ kp vp SZR ZE ZS ZM ZV SPC VP PC ca kc vc SH SC VC HB S_3 E_4 S_7 E_8 S_11 E_12 S_15 E_16 S_19 E_20 S_23 E_24 (by decide)
theorem comes_1 {Post : Tables → Env → Array Value → State → Outcome → State → Prop} (hpost : ∀ tb e args s v u, (limb_1_1.after args s (.returned v) u = true ∧ limb_1_2.after args s (.returned v) u = true ∧ True) → ReturnedEndW s (.returned v) u (Jvm.fieldLocs frame_1_writes args s ++ Jvm.arrayLocs frame_1_arrays args s ++ Jvm.staticLocs frame_1_statics s) 48 2304 → Post tb e args s (.returned v) u) :
    ArmFor flags0 classFile x code maxLocals ret World_1 tables_1 room_1 Calls_1 rest_1 Pre_1 Post := by
  intro l hfl _ _ p e ha hc hk s m args below hf hA hF happ hP
  obtain ⟨hcalls, hrest, hpre⟩ := hP
  obtain ⟨-, -, -, hnamed, -, -, -, hat⟩ := (Spec.applies_iff hf).mp happ
  obtain ⟨hg, hn⟩ := and_e (Cond.before_iff.mp (show (Jvm.Cond.and given_1 narrow_1).before args s = true from hpre))
  obtain ⟨hcount, hg⟩ := and_e hg
  obtain ⟨ha0, hg⟩ := and_e hg
  obtain ⟨ha1, hg⟩ := and_e hg
  obtain ⟨ha2, hg⟩ := and_e hg
  obtain ⟨ha3, hg⟩ := and_e hg
  have ha4 := hg
  obtain ⟨w0, w1, w2, w3, w4, rfl⟩ : ∃ w0 w1 w2 w3 w4 : Value, args = #[w0, w1, w2, w3, w4] := by
    have hs : args.size = 5 := by simpa [Cond.value, given_1] using hcount
    obtain ⟨L⟩ := args
    match L, hs with
    | [w0, w1, w2, w3, w4], _ => exact ⟨w0, w1, w2, w3, w4, rfl⟩
  have hw := fun d (hd : d ∈ tables_1) => atoms_spec (ws := Jvm.Cond.code x code maxLocals ret :: tables_1) hat d (List.mem_cons_of_mem _ hd)
  have hfit : Fit s := fun {y c} hc i hi => by
    obtain ⟨ha, rfl⟩ := Array.getElem?_eq_some_iff.mp hc
    have q := List.all_eq_true.mp ((Array.all_eq_true_iff_forall_mem.mp hF) _ (Array.getElem_mem ha)) i (List.mem_range.mpr hi)
    simpa [Array.getElem?_eq_getElem hi] using q
  obtain ⟨hsets, hown0⟩ := atoms_of _ (rest_1_c_eq ▸ (show rest_1_c.before _ s = true from hrest))
  have hr0 := Cond.before_iff.mp hown0
  obtain ⟨i0, ei0⟩ := isL_v ha0
  obtain rfl : w0 = (.long i0) := Option.some.inj ei0
  obtain ⟨i1, ei1⟩ := isL_v ha1
  obtain rfl : w1 = (.long i1) := Option.some.inj ei1
  obtain ⟨i2, ei2⟩ := isL_v ha2
  obtain rfl : w2 = (.long i2) := Option.some.inj ei2
  obtain ⟨i3, ei3⟩ := isL_v ha3
  obtain rfl : w3 = (.long i3) := Option.some.inj ei3
  obtain ⟨i4, ei4⟩ := is_v ha4
  obtain rfl : w4 = (.int i4) := Option.some.inj ei4
  have SH := Sta.start (eqI_v (Cond.before_iff.mp (hsets _ (List.mem_of_getElem? (i := 3) rfl)))) (Or.inl (hsets _ (List.mem_of_getElem? (i := 1) rfl)))
  obtain ⟨ca, vca⟩ := exa_v (Cond.before_iff.mp (hsets _ (List.mem_of_getElem? (i := 5) rfl)))
  obtain ⟨cc_, ACC⟩ := Arr.start vca (Cond.before_iff.mp (hsets _ (List.mem_of_getElem? (i := 4) rfl)))
  have VC := own_arrx .null hfit ACC vca (eqI_v (Cond.before_iff.mp (hsets _ (List.mem_of_getElem? (i := 6) rfl)))) (by decide)
  have SC := Sta.start vca (Or.inr ⟨(wd hw 26 rfl), (hsets _ (List.mem_of_getElem? (i := 2) rfl))⟩)
  have HB := own_hb (fun _ => vca) ACC (eqI_v (Cond.before_iff.mp (hsets _ (List.mem_of_getElem? (i := 6) rfl)))) (Cond.before_iff.mp (hsets _ (List.mem_of_getElem? (i := 7) rfl)))
  obtain ⟨zr, ve_z⟩ := exa_v (Cond.before_iff.mp (hsets _ (List.mem_of_getElem? (i := 10) rfl)))
  have E_z := Exa.start ve_z (Cond.before_iff.mp (hsets _ (List.mem_of_getElem? (i := 10) rfl)))
  have S_z := fld_of ve_z (eqI_v (Cond.before_iff.mp (hsets _ (List.mem_of_getElem? (i := 11) rfl))))
  obtain ⟨zm, vm_z⟩ := arr_v (Cond.before_iff.mp (hsets _ (List.mem_of_getElem? (i := 12) rfl)))
  have M_z := fld_of ve_z vm_z
  obtain ⟨ca_z, A_z⟩ := Arr.start vm_z (Cond.before_iff.mp (hsets _ (List.mem_of_getElem? (i := 12) rfl)))
  have V_z := IaS.of (own_arrx (.int 0) hfit A_z vm_z (eqI_v (Cond.before_iff.mp (hsets _ (List.mem_of_getElem? (i := 14) rfl)))) (by decide))
  have SZR := Sta.start ve_z (Or.inl (hsets _ (List.mem_of_getElem? (i := 9) rfl)))
  obtain ⟨pc_, vpc⟩ := exa_v (Cond.before_iff.mp (hsets _ (List.mem_of_getElem? (i := 24) rfl)))
  obtain ⟨cpc, APC⟩ := Arr.start vpc (Cond.before_iff.mp (hsets _ (List.mem_of_getElem? (i := 23) rfl)))
  have VP := own_arrx .null hfit APC vpc (eqI_v (Cond.before_iff.mp (hsets _ (List.mem_of_getElem? (i := 25) rfl)))) (by decide)
  have SPC := Sta.start vpc (Or.inl (hsets _ (List.mem_of_getElem? (i := 16) rfl)))
  obtain ⟨p1, ve_1⟩ := exa_v (Cond.before_iff.mp (hsets _ (List.mem_of_getElem? (i := 27) rfl)))
  have E_1 := Exa.start ve_1 (Cond.before_iff.mp (hsets _ (List.mem_of_getElem? (i := 27) rfl)))
  have S_1 := fld_of ve_1 (eqI_v (Cond.before_iff.mp (hsets _ (List.mem_of_getElem? (i := 28) rfl))))
  obtain ⟨m1, vm_1⟩ := arr_v (Cond.before_iff.mp (hsets _ (List.mem_of_getElem? (i := 29) rfl)))
  have M_1 := fld_of ve_1 vm_1
  obtain ⟨ca_1, A_1⟩ := Arr.start vm_1 (Cond.before_iff.mp (hsets _ (List.mem_of_getElem? (i := 29) rfl)))
  have V_1 := IaS.of (own_arrx (.int 0) hfit A_1 vm_1 (eqI_v (Cond.before_iff.mp (hsets _ (List.mem_of_getElem? (i := 31) rfl)))) (by decide))
  have G_1 : cpc.slots.toList.getD 1 .null = .ref p1 := by rw [List.getD_eq_getElem?_getD, Array.getElem?_toList, show cpc.slots[1]? = some (.ref p1) from elem_start APC vpc ve_1]; rfl
  obtain ⟨p2, ve_2⟩ := exa_v (Cond.before_iff.mp (hsets _ (List.mem_of_getElem? (i := 34) rfl)))
  have E_2 := Exa.start ve_2 (Cond.before_iff.mp (hsets _ (List.mem_of_getElem? (i := 34) rfl)))
  have S_2 := fld_of ve_2 (eqI_v (Cond.before_iff.mp (hsets _ (List.mem_of_getElem? (i := 35) rfl))))
  obtain ⟨m2, vm_2⟩ := arr_v (Cond.before_iff.mp (hsets _ (List.mem_of_getElem? (i := 36) rfl)))
  have M_2 := fld_of ve_2 vm_2
  obtain ⟨ca_2, A_2⟩ := Arr.start vm_2 (Cond.before_iff.mp (hsets _ (List.mem_of_getElem? (i := 36) rfl)))
  have V_2 := IaS.of (own_arrx (.int 0) hfit A_2 vm_2 (eqI_v (Cond.before_iff.mp (hsets _ (List.mem_of_getElem? (i := 38) rfl)))) (by decide))
  have G_2 : cpc.slots.toList.getD 2 .null = .ref p2 := by rw [List.getD_eq_getElem?_getD, Array.getElem?_toList, show cpc.slots[2]? = some (.ref p2) from elem_start APC vpc ve_2]; rfl
  obtain ⟨p3, ve_3⟩ := exa_v (Cond.before_iff.mp (hsets _ (List.mem_of_getElem? (i := 40) rfl)))
  have E_3 := Exa.start ve_3 (Cond.before_iff.mp (hsets _ (List.mem_of_getElem? (i := 40) rfl)))
  have S_3 := fld_of ve_3 (eqI_v (Cond.before_iff.mp (hsets _ (List.mem_of_getElem? (i := 41) rfl))))
  obtain ⟨m3, vm_3⟩ := arr_v (Cond.before_iff.mp (hsets _ (List.mem_of_getElem? (i := 42) rfl)))
  have M_3 := fld_of ve_3 vm_3
  obtain ⟨ca_3, A_3⟩ := Arr.start vm_3 (Cond.before_iff.mp (hsets _ (List.mem_of_getElem? (i := 42) rfl)))
  have V_3 := IaS.of (own_arrx (.int 0) hfit A_3 vm_3 (eqI_v (Cond.before_iff.mp (hsets _ (List.mem_of_getElem? (i := 44) rfl)))) (by decide))
  have G_3 : cpc.slots.toList.getD 3 .null = .ref p3 := by rw [List.getD_eq_getElem?_getD, Array.getElem?_toList, show cpc.slots[3]? = some (.ref p3) from elem_start APC vpc ve_3]; rfl
  obtain ⟨p4, ve_4⟩ := exa_v (Cond.before_iff.mp (hsets _ (List.mem_of_getElem? (i := 46) rfl)))
  have E_4 := Exa.start ve_4 (Cond.before_iff.mp (hsets _ (List.mem_of_getElem? (i := 46) rfl)))
  have S_4 := fld_of ve_4 (eqI_v (Cond.before_iff.mp (hsets _ (List.mem_of_getElem? (i := 47) rfl))))
  obtain ⟨m4, vm_4⟩ := arr_v (Cond.before_iff.mp (hsets _ (List.mem_of_getElem? (i := 48) rfl)))
  have M_4 := fld_of ve_4 vm_4
  obtain ⟨ca_4, A_4⟩ := Arr.start vm_4 (Cond.before_iff.mp (hsets _ (List.mem_of_getElem? (i := 48) rfl)))
  have V_4 := IaS.of (own_arrx (.int 0) hfit A_4 vm_4 (eqI_v (Cond.before_iff.mp (hsets _ (List.mem_of_getElem? (i := 50) rfl)))) (by decide))
  have G_4 : cpc.slots.toList.getD 4 .null = .ref p4 := by rw [List.getD_eq_getElem?_getD, Array.getElem?_toList, show cpc.slots[4]? = some (.ref p4) from elem_start APC vpc ve_4]; rfl
  obtain ⟨p5, ve_5⟩ := exa_v (Cond.before_iff.mp (hsets _ (List.mem_of_getElem? (i := 52) rfl)))
  have E_5 := Exa.start ve_5 (Cond.before_iff.mp (hsets _ (List.mem_of_getElem? (i := 52) rfl)))
  have S_5 := fld_of ve_5 (eqI_v (Cond.before_iff.mp (hsets _ (List.mem_of_getElem? (i := 53) rfl))))
  obtain ⟨m5, vm_5⟩ := arr_v (Cond.before_iff.mp (hsets _ (List.mem_of_getElem? (i := 54) rfl)))
  have M_5 := fld_of ve_5 vm_5
  obtain ⟨ca_5, A_5⟩ := Arr.start vm_5 (Cond.before_iff.mp (hsets _ (List.mem_of_getElem? (i := 54) rfl)))
  have V_5 := IaS.of (own_arrx (.int 0) hfit A_5 vm_5 (eqI_v (Cond.before_iff.mp (hsets _ (List.mem_of_getElem? (i := 56) rfl)))) (by decide))
  have G_5 : cpc.slots.toList.getD 5 .null = .ref p5 := by rw [List.getD_eq_getElem?_getD, Array.getElem?_toList, show cpc.slots[5]? = some (.ref p5) from elem_start APC vpc ve_5]; rfl
  obtain ⟨p6, ve_6⟩ := exa_v (Cond.before_iff.mp (hsets _ (List.mem_of_getElem? (i := 58) rfl)))
  have E_6 := Exa.start ve_6 (Cond.before_iff.mp (hsets _ (List.mem_of_getElem? (i := 58) rfl)))
  have S_6 := fld_of ve_6 (eqI_v (Cond.before_iff.mp (hsets _ (List.mem_of_getElem? (i := 59) rfl))))
  obtain ⟨m6, vm_6⟩ := arr_v (Cond.before_iff.mp (hsets _ (List.mem_of_getElem? (i := 60) rfl)))
  have M_6 := fld_of ve_6 vm_6
  obtain ⟨ca_6, A_6⟩ := Arr.start vm_6 (Cond.before_iff.mp (hsets _ (List.mem_of_getElem? (i := 60) rfl)))
  have V_6 := IaS.of (own_arrx (.int 0) hfit A_6 vm_6 (eqI_v (Cond.before_iff.mp (hsets _ (List.mem_of_getElem? (i := 62) rfl)))) (by decide))
  have G_6 : cpc.slots.toList.getD 6 .null = .ref p6 := by rw [List.getD_eq_getElem?_getD, Array.getElem?_toList, show cpc.slots[6]? = some (.ref p6) from elem_start APC vpc ve_6]; rfl
  obtain ⟨p7, ve_7⟩ := exa_v (Cond.before_iff.mp (hsets _ (List.mem_of_getElem? (i := 64) rfl)))
  have E_7 := Exa.start ve_7 (Cond.before_iff.mp (hsets _ (List.mem_of_getElem? (i := 64) rfl)))
  have S_7 := fld_of ve_7 (eqI_v (Cond.before_iff.mp (hsets _ (List.mem_of_getElem? (i := 65) rfl))))
  obtain ⟨m7, vm_7⟩ := arr_v (Cond.before_iff.mp (hsets _ (List.mem_of_getElem? (i := 66) rfl)))
  have M_7 := fld_of ve_7 vm_7
  obtain ⟨ca_7, A_7⟩ := Arr.start vm_7 (Cond.before_iff.mp (hsets _ (List.mem_of_getElem? (i := 66) rfl)))
  have V_7 := IaS.of (own_arrx (.int 0) hfit A_7 vm_7 (eqI_v (Cond.before_iff.mp (hsets _ (List.mem_of_getElem? (i := 68) rfl)))) (by decide))
  have G_7 : cpc.slots.toList.getD 7 .null = .ref p7 := by rw [List.getD_eq_getElem?_getD, Array.getElem?_toList, show cpc.slots[7]? = some (.ref p7) from elem_start APC vpc ve_7]; rfl
  obtain ⟨p8, ve_8⟩ := exa_v (Cond.before_iff.mp (hsets _ (List.mem_of_getElem? (i := 70) rfl)))
  have E_8 := Exa.start ve_8 (Cond.before_iff.mp (hsets _ (List.mem_of_getElem? (i := 70) rfl)))
  have S_8 := fld_of ve_8 (eqI_v (Cond.before_iff.mp (hsets _ (List.mem_of_getElem? (i := 71) rfl))))
  obtain ⟨m8, vm_8⟩ := arr_v (Cond.before_iff.mp (hsets _ (List.mem_of_getElem? (i := 72) rfl)))
  have M_8 := fld_of ve_8 vm_8
  obtain ⟨ca_8, A_8⟩ := Arr.start vm_8 (Cond.before_iff.mp (hsets _ (List.mem_of_getElem? (i := 72) rfl)))
  have V_8 := IaS.of (own_arrx (.int 0) hfit A_8 vm_8 (eqI_v (Cond.before_iff.mp (hsets _ (List.mem_of_getElem? (i := 74) rfl)))) (by decide))
  have G_8 : cpc.slots.toList.getD 8 .null = .ref p8 := by rw [List.getD_eq_getElem?_getD, Array.getElem?_toList, show cpc.slots[8]? = some (.ref p8) from elem_start APC vpc ve_8]; rfl
  obtain ⟨p9, ve_9⟩ := exa_v (Cond.before_iff.mp (hsets _ (List.mem_of_getElem? (i := 76) rfl)))
  have E_9 := Exa.start ve_9 (Cond.before_iff.mp (hsets _ (List.mem_of_getElem? (i := 76) rfl)))
  have S_9 := fld_of ve_9 (eqI_v (Cond.before_iff.mp (hsets _ (List.mem_of_getElem? (i := 77) rfl))))
  obtain ⟨m9, vm_9⟩ := arr_v (Cond.before_iff.mp (hsets _ (List.mem_of_getElem? (i := 78) rfl)))
  have M_9 := fld_of ve_9 vm_9
  obtain ⟨ca_9, A_9⟩ := Arr.start vm_9 (Cond.before_iff.mp (hsets _ (List.mem_of_getElem? (i := 78) rfl)))
  have V_9 := IaS.of (own_arrx (.int 0) hfit A_9 vm_9 (eqI_v (Cond.before_iff.mp (hsets _ (List.mem_of_getElem? (i := 80) rfl)))) (by decide))
  have G_9 : cpc.slots.toList.getD 9 .null = .ref p9 := by rw [List.getD_eq_getElem?_getD, Array.getElem?_toList, show cpc.slots[9]? = some (.ref p9) from elem_start APC vpc ve_9]; rfl
  obtain ⟨p10, ve_10⟩ := exa_v (Cond.before_iff.mp (hsets _ (List.mem_of_getElem? (i := 83) rfl)))
  have E_10 := Exa.start ve_10 (Cond.before_iff.mp (hsets _ (List.mem_of_getElem? (i := 83) rfl)))
  have S_10 := fld_of ve_10 (eqI_v (Cond.before_iff.mp (hsets _ (List.mem_of_getElem? (i := 84) rfl))))
  obtain ⟨m10, vm_10⟩ := arr_v (Cond.before_iff.mp (hsets _ (List.mem_of_getElem? (i := 85) rfl)))
  have M_10 := fld_of ve_10 vm_10
  obtain ⟨ca_10, A_10⟩ := Arr.start vm_10 (Cond.before_iff.mp (hsets _ (List.mem_of_getElem? (i := 85) rfl)))
  have V_10 := IaS.of (own_arrx (.int 0) hfit A_10 vm_10 (eqI_v (Cond.before_iff.mp (hsets _ (List.mem_of_getElem? (i := 87) rfl)))) (by decide))
  have G_10 : cpc.slots.toList.getD 10 .null = .ref p10 := by rw [List.getD_eq_getElem?_getD, Array.getElem?_toList, show cpc.slots[10]? = some (.ref p10) from elem_start APC vpc ve_10]; rfl
  obtain ⟨p11, ve_11⟩ := exa_v (Cond.before_iff.mp (hsets _ (List.mem_of_getElem? (i := 89) rfl)))
  have E_11 := Exa.start ve_11 (Cond.before_iff.mp (hsets _ (List.mem_of_getElem? (i := 89) rfl)))
  have S_11 := fld_of ve_11 (eqI_v (Cond.before_iff.mp (hsets _ (List.mem_of_getElem? (i := 90) rfl))))
  obtain ⟨m11, vm_11⟩ := arr_v (Cond.before_iff.mp (hsets _ (List.mem_of_getElem? (i := 91) rfl)))
  have M_11 := fld_of ve_11 vm_11
  obtain ⟨ca_11, A_11⟩ := Arr.start vm_11 (Cond.before_iff.mp (hsets _ (List.mem_of_getElem? (i := 91) rfl)))
  have V_11 := IaS.of (own_arrx (.int 0) hfit A_11 vm_11 (eqI_v (Cond.before_iff.mp (hsets _ (List.mem_of_getElem? (i := 93) rfl)))) (by decide))
  have G_11 : cpc.slots.toList.getD 11 .null = .ref p11 := by rw [List.getD_eq_getElem?_getD, Array.getElem?_toList, show cpc.slots[11]? = some (.ref p11) from elem_start APC vpc ve_11]; rfl
  obtain ⟨p12, ve_12⟩ := exa_v (Cond.before_iff.mp (hsets _ (List.mem_of_getElem? (i := 95) rfl)))
  have E_12 := Exa.start ve_12 (Cond.before_iff.mp (hsets _ (List.mem_of_getElem? (i := 95) rfl)))
  have S_12 := fld_of ve_12 (eqI_v (Cond.before_iff.mp (hsets _ (List.mem_of_getElem? (i := 96) rfl))))
  obtain ⟨m12, vm_12⟩ := arr_v (Cond.before_iff.mp (hsets _ (List.mem_of_getElem? (i := 97) rfl)))
  have M_12 := fld_of ve_12 vm_12
  obtain ⟨ca_12, A_12⟩ := Arr.start vm_12 (Cond.before_iff.mp (hsets _ (List.mem_of_getElem? (i := 97) rfl)))
  have V_12 := IaS.of (own_arrx (.int 0) hfit A_12 vm_12 (eqI_v (Cond.before_iff.mp (hsets _ (List.mem_of_getElem? (i := 99) rfl)))) (by decide))
  have G_12 : cpc.slots.toList.getD 12 .null = .ref p12 := by rw [List.getD_eq_getElem?_getD, Array.getElem?_toList, show cpc.slots[12]? = some (.ref p12) from elem_start APC vpc ve_12]; rfl
  obtain ⟨p13, ve_13⟩ := exa_v (Cond.before_iff.mp (hsets _ (List.mem_of_getElem? (i := 101) rfl)))
  have E_13 := Exa.start ve_13 (Cond.before_iff.mp (hsets _ (List.mem_of_getElem? (i := 101) rfl)))
  have S_13 := fld_of ve_13 (eqI_v (Cond.before_iff.mp (hsets _ (List.mem_of_getElem? (i := 102) rfl))))
  obtain ⟨m13, vm_13⟩ := arr_v (Cond.before_iff.mp (hsets _ (List.mem_of_getElem? (i := 103) rfl)))
  have M_13 := fld_of ve_13 vm_13
  obtain ⟨ca_13, A_13⟩ := Arr.start vm_13 (Cond.before_iff.mp (hsets _ (List.mem_of_getElem? (i := 103) rfl)))
  have V_13 := IaS.of (own_arrx (.int 0) hfit A_13 vm_13 (eqI_v (Cond.before_iff.mp (hsets _ (List.mem_of_getElem? (i := 105) rfl)))) (by decide))
  have G_13 : cpc.slots.toList.getD 13 .null = .ref p13 := by rw [List.getD_eq_getElem?_getD, Array.getElem?_toList, show cpc.slots[13]? = some (.ref p13) from elem_start APC vpc ve_13]; rfl
  obtain ⟨p14, ve_14⟩ := exa_v (Cond.before_iff.mp (hsets _ (List.mem_of_getElem? (i := 107) rfl)))
  have E_14 := Exa.start ve_14 (Cond.before_iff.mp (hsets _ (List.mem_of_getElem? (i := 107) rfl)))
  have S_14 := fld_of ve_14 (eqI_v (Cond.before_iff.mp (hsets _ (List.mem_of_getElem? (i := 108) rfl))))
  obtain ⟨m14, vm_14⟩ := arr_v (Cond.before_iff.mp (hsets _ (List.mem_of_getElem? (i := 109) rfl)))
  have M_14 := fld_of ve_14 vm_14
  obtain ⟨ca_14, A_14⟩ := Arr.start vm_14 (Cond.before_iff.mp (hsets _ (List.mem_of_getElem? (i := 109) rfl)))
  have V_14 := IaS.of (own_arrx (.int 0) hfit A_14 vm_14 (eqI_v (Cond.before_iff.mp (hsets _ (List.mem_of_getElem? (i := 111) rfl)))) (by decide))
  have G_14 : cpc.slots.toList.getD 14 .null = .ref p14 := by rw [List.getD_eq_getElem?_getD, Array.getElem?_toList, show cpc.slots[14]? = some (.ref p14) from elem_start APC vpc ve_14]; rfl
  obtain ⟨p15, ve_15⟩ := exa_v (Cond.before_iff.mp (hsets _ (List.mem_of_getElem? (i := 113) rfl)))
  have E_15 := Exa.start ve_15 (Cond.before_iff.mp (hsets _ (List.mem_of_getElem? (i := 113) rfl)))
  have S_15 := fld_of ve_15 (eqI_v (Cond.before_iff.mp (hsets _ (List.mem_of_getElem? (i := 114) rfl))))
  obtain ⟨m15, vm_15⟩ := arr_v (Cond.before_iff.mp (hsets _ (List.mem_of_getElem? (i := 115) rfl)))
  have M_15 := fld_of ve_15 vm_15
  obtain ⟨ca_15, A_15⟩ := Arr.start vm_15 (Cond.before_iff.mp (hsets _ (List.mem_of_getElem? (i := 115) rfl)))
  have V_15 := IaS.of (own_arrx (.int 0) hfit A_15 vm_15 (eqI_v (Cond.before_iff.mp (hsets _ (List.mem_of_getElem? (i := 117) rfl)))) (by decide))
  have G_15 : cpc.slots.toList.getD 15 .null = .ref p15 := by rw [List.getD_eq_getElem?_getD, Array.getElem?_toList, show cpc.slots[15]? = some (.ref p15) from elem_start APC vpc ve_15]; rfl
  obtain ⟨p16, ve_16⟩ := exa_v (Cond.before_iff.mp (hsets _ (List.mem_of_getElem? (i := 119) rfl)))
  have E_16 := Exa.start ve_16 (Cond.before_iff.mp (hsets _ (List.mem_of_getElem? (i := 119) rfl)))
  have S_16 := fld_of ve_16 (eqI_v (Cond.before_iff.mp (hsets _ (List.mem_of_getElem? (i := 120) rfl))))
  obtain ⟨m16, vm_16⟩ := arr_v (Cond.before_iff.mp (hsets _ (List.mem_of_getElem? (i := 121) rfl)))
  have M_16 := fld_of ve_16 vm_16
  obtain ⟨ca_16, A_16⟩ := Arr.start vm_16 (Cond.before_iff.mp (hsets _ (List.mem_of_getElem? (i := 121) rfl)))
  have V_16 := IaS.of (own_arrx (.int 0) hfit A_16 vm_16 (eqI_v (Cond.before_iff.mp (hsets _ (List.mem_of_getElem? (i := 123) rfl)))) (by decide))
  have G_16 : cpc.slots.toList.getD 16 .null = .ref p16 := by rw [List.getD_eq_getElem?_getD, Array.getElem?_toList, show cpc.slots[16]? = some (.ref p16) from elem_start APC vpc ve_16]; rfl
  have PC : ∀ j : Nat, 1 ≤ j → j ≤ 16 → ∃ x mg : Addr, cpc.slots.toList.getD j .null = .ref x ∧ Exa s s.heap x "java/math/BigInteger" ∧ Fld s s.heap x "java/math/BigInteger" "signum" "I" (.int (1 : Int32)) ∧ Fld s s.heap x "java/math/BigInteger" "mag" "[I" (.ref mg) ∧ IaS s s.heap mg 1 := by
    intro j j1 j2
    match j, j1, j2 with
    | 0, j1, _ => exact absurd j1 (by decide)
    | 1, _, _ => exact ⟨p1, m1, G_1, E_1, S_1, M_1, V_1⟩
    | 2, _, _ => exact ⟨p2, m2, G_2, E_2, S_2, M_2, V_2⟩
    | 3, _, _ => exact ⟨p3, m3, G_3, E_3, S_3, M_3, V_3⟩
    | 4, _, _ => exact ⟨p4, m4, G_4, E_4, S_4, M_4, V_4⟩
    | 5, _, _ => exact ⟨p5, m5, G_5, E_5, S_5, M_5, V_5⟩
    | 6, _, _ => exact ⟨p6, m6, G_6, E_6, S_6, M_6, V_6⟩
    | 7, _, _ => exact ⟨p7, m7, G_7, E_7, S_7, M_7, V_7⟩
    | 8, _, _ => exact ⟨p8, m8, G_8, E_8, S_8, M_8, V_8⟩
    | 9, _, _ => exact ⟨p9, m9, G_9, E_9, S_9, M_9, V_9⟩
    | 10, _, _ => exact ⟨p10, m10, G_10, E_10, S_10, M_10, V_10⟩
    | 11, _, _ => exact ⟨p11, m11, G_11, E_11, S_11, M_11, V_11⟩
    | 12, _, _ => exact ⟨p12, m12, G_12, E_12, S_12, M_12, V_12⟩
    | 13, _, _ => exact ⟨p13, m13, G_13, E_13, S_13, M_13, V_13⟩
    | 14, _, _ => exact ⟨p14, m14, G_14, E_14, S_14, M_14, V_14⟩
    | 15, _, _ => exact ⟨p15, m15, G_15, E_15, S_15, M_15, V_15⟩
    | 16, _, _ => exact ⟨p16, m16, G_16, E_16, S_16, M_16, V_16⟩
    | (n + 17), _, j2 => exact absurd j2 (by omega)
  obtain ⟨n0, hn⟩ := and_e hn
  obtain ⟨n1, hn⟩ := and_e hn
  obtain ⟨n2, hn⟩ := and_e hn
  obtain ⟨n3, hn⟩ := and_e hn
  obtain ⟨n4, hn⟩ := and_e hn
  have n5 := hn
  obtain ⟨p_1, v_2⟩ := exa_v n0
  have S_3 := Sta.start v_2 (Or.inr ⟨(wd hw 2 rfl), (wd hw 3 rfl)⟩)
  have E_4 := Exa.start v_2 n0
  obtain ⟨p_5, v_6⟩ := exa_v n1
  have S_7 := Sta.start v_6 (Or.inr ⟨(wd hw 5 rfl), (wd hw 6 rfl)⟩)
  have E_8 := Exa.start v_6 n1
  obtain ⟨p_9, v_10⟩ := exa_v n2
  have S_11 := Sta.start v_10 (Or.inr ⟨(wd hw 8 rfl), (wd hw 9 rfl)⟩)
  have E_12 := Exa.start v_10 n2
  obtain ⟨p_13, v_14⟩ := exa_v n3
  have S_15 := Sta.start v_14 (Or.inr ⟨(wd hw 2 rfl), (wd hw 145 rfl)⟩)
  have E_16 := Exa.start v_14 n3
  obtain ⟨p_17, v_18⟩ := exa_v n4
  have S_19 := Sta.start v_18 (Or.inr ⟨(wd hw 8 rfl), (wd hw 147 rfl)⟩)
  have E_20 := Exa.start v_18 n4
  obtain ⟨p_21, v_22⟩ := exa_v n5
  have S_23 := Sta.start v_22 (Or.inr ⟨(wd hw 5 rfl), (wd hw 152 rfl)⟩)
  have E_24 := Exa.start v_22 n5
  have hCH : CHv s consts_1 s.vm s.heap := fun q hq => by cases hq
  obtain ⟨n, o, h1, h2, h3, _, L, rfl, ⟨N, _, rfl⟩, -, hq⟩ := rm0 l (Z := s) hw ⟨Nat.le_refl _, fun _ _ q => q⟩ i0 i1 i2 i3 i4 p_1 p_5 p_9 p_13 p_17 p_21 zr zm pc_ _ _ SZR E_z S_z M_z V_z SPC VP PC ca _ _ SH SC VC HB S_3 E_4 S_7 E_8 S_11 E_12 S_15 E_16 S_19 E_20 S_23 E_24 p e ha hc hk s m _ below hf ((Spec.applies_iff_loose hf).mp happ).1 ⟨rfl, State.Warmed39.refl s, rfl, hCH, sf0⟩ trivial
  exact ⟨n, _, h1, h2, h3, hpost _ _ _ _ _ _ ⟨Cond.after_iff.mpr rfl, Cond.after_iff.mpr (eq_i res_at (Term.int_eval (1)) rfl), trivial⟩ ⟨hq.1, hq.2.1, hq.2.2.1, (hq.2.2.2.sift fun y hy => Or.inr (N y hy)).mono (by decide) (by decide)⟩⟩
theorem main_1_1 : Claimed_1_1 := comes_1 fun _ _ _ _ _ _ h hF => ⟨h.1, hF⟩
theorem main_1_2 : Claimed_1_2 := comes_1 fun _ _ _ _ _ _ h hF => ⟨h.2.1, hF⟩
end Jvm.Pilot.@@N@@
namespace Jvm.Pilot.@@N@@
open Jvm Jvm.ClassFile Sem Op Lib Jvm.Free Jvm.Stand Jvm.Pilot.@@N@@.Jvm.D
/-! MADE BY PROGRAM (witnessworld.py) out of the Statement's table words and the real class files: 29 classes; the members and pool entries that the words name. The judged class is class 1, her method 1. -/
namespace start1
open Jvm.ClassFile
def u (s : String) : CpInfo := .utf8 (stringToUtf16 s)
/-- a pool by its gaps: so many unusable entries, then the entry; so many at the end -/
def gap : Nat → List CpInfo → List CpInfo
  | 0, r => r
  | n + 1, r => .unusable :: gap n r
def poolList (es : List (Nat × CpInfo)) (last : Nat) : List CpInfo := es.foldr (fun e r => gap e.1 (e.2 :: r)) (gap last [])
def pool (es : List (Nat × CpInfo)) (last : Nat) : Array CpInfo := ⟨poolList es last⟩
def fileOf (pool : Array CpInfo) (this : Nat) (attrs : Array Attribute := #[]) (ms : Array MethodInfo := #[]) (fl : Nat := 33) (sup : Nat := 0) (ifs : Array Nat := #[]) (fds : Array FieldInfo := #[]) : ClassFile where
  minorVersion := 0
  majorVersion := 65
  constantPool := pool
  accessFlags := fl
  thisClass := this
  superClass := sup
  interfaces := ifs
  fields := fds
  methods := ms
  attributes := attrs
def plain (name : String) (sup : Option ClassId) : Class where
  name := name
  kind := .ordinary
  loader := none
  accessFlags := 33
  super := sup
  interfaces := #[]
  cf := none
  fields := #[]
  methods := #[]
  instanceTypes := #[]
  staticTypes := #[]
  resolved := #[]
  callSites := []
  init := .initialized
  statics := none
  mirror := none

def pool0 : Array CpInfo := pool [(5, u "<init>"), (0, u "()V"), (1, .class_ 10), (1, u "java/lang/Object")] 113

def k0c0 : Code := { maxStack := 0, maxLocals := 1, code := object_method_1_code, exceptionTable := #[], attributes := #[] }
def k0m0 : Method := { name := "<init>", desc := "()V", sig := { parameters := [], returnType := none }, accessFlags := 1, code := some k0c0 }
/-- java/lang/Object -/
def k0 : Class := { plain "java/lang/Object" none with
  accessFlags := 33
  interfaces := #[]
  cf := some (fileOf pool0 8 #[] #[{ accessFlags := 1, nameIndex := 5, descriptorIndex := 6, attributes := #[] }] 33 0 #[] #[])
  fields := #[]
  methods := #[k0m0]
  instanceTypes := #[]
  staticTypes := #[]
  resolved := Array.replicate 124 none
  statics := none }

def pool1 : Array CpInfo := pool [(2, .class_ 4), (1, u "java/lang/Object"), (0, u "<init>"), (0, u "()V"), (2, .long 9223372036854775807), (1, .fieldref 12 13), (0, .class_ 14), (0, .nameAndType 15 16), (0, u "com/example/halyard/halyard/book/Side"), (0, u "BID"), (0, u "Lcom/example/halyard/halyard/book/Side;"), (0, .fieldref 12 18), (0, .nameAndType 19 16), (0, u "OFFER"), (0, .fieldref 21 22), (0, .class_ 23), (0, .nameAndType 24 25), (0, u "com/example/halyard/halyard/orders/Order$TimeInForce"), (0, u "DAY"), (0, u "Lcom/example/halyard/halyard/orders/Order$TimeInForce;"), (0, .fieldref 21 27), (0, .nameAndType 28 25), (0, u "IMMEDIATE_OR_CANCEL"), (0, .fieldref 30 31), (0, .class_ 32), (0, .nameAndType 33 34), (0, u "com/example/halyard/halyard/orders/Order$Type"), (0, u "LIMIT"), (0, u "Lcom/example/halyard/halyard/orders/Order$Type;"), (0, .fieldref 30 36), (0, .nameAndType 37 34), (0, u "MARKET"), (0, .class_ 39), (0, u "com/example/halyard/halyard/orders/Order"), (0, .string 41), (0, u "A"), (0, .methodref 43 44), (0, .class_ 45), (0, .nameAndType 46 47), (0, u "java/lang/Integer"), (0, u "valueOf"), (0, u "(I)Ljava/lang/Integer;"), (0, .string 49), (0, u "S"), (0, .methodref 38 51), (0, .nameAndType 5 52), (0, u "(Ljava/lang/String;Ljava/lang/Object;Ljava/lang/String;Lcom/example/halyard/halyard/book/Side;Lcom/example/halyard/halyard/orders/Order$Type;Lcom/example/halyard/halyard/orders/Order$TimeInForce;JJ)V"), (0, .methodref 38 54), (0, .nameAndType 55 56), (0, u "leaves"), (0, u "()J"), (0, .methodref 38 58), (0, .nameAndType 59 60), (0, u "fill"), (0, u "(JJ)V"), (0, .methodref 38 62), (0, .nameAndType 63 6), (0, u "cancel"), (0, .class_ 65), (0, u "com/example/halyard/halyard/orders/OrderLeavesPinLaw"), (2, u "law"), (0, u "(JJJJI)Z")] 6

def k1m0 : Method := { name := "<init>", desc := "()V", sig := { parameters := [], returnType := none }, accessFlags := 1, code := none }
def k1c1 : Code := { maxStack := 12, maxLocals := 30, code := code, exceptionTable := #[], attributes := #[] }
def k1m1 : Method := { name := "law", desc := "(JJJJI)Z", sig := { parameters := [.long, .long, .long, .long, .int], returnType := some .boolean }, accessFlags := 9, code := some k1c1 }
/-- com/example/halyard/halyard/orders/OrderLeavesPinLaw -/
def k1 : Class := { plain "com/example/halyard/halyard/orders/OrderLeavesPinLaw" (some 0) with
  accessFlags := 49
  interfaces := #[]
  cf := some (fileOf pool1 64 #[] #[{ accessFlags := 1, nameIndex := 5, descriptorIndex := 6, attributes := #[] }, { accessFlags := 9, nameIndex := 68, descriptorIndex := 69, attributes := #[] }] 49 2 #[] #[])
  fields := #[]
  methods := #[k1m0, k1m1]
  instanceTypes := #[]
  staticTypes := #[]
  resolved := Array.replicate 76 none
  statics := none }

def pool2 : Array CpInfo := pool [(1, .class_ 2), (0, u "java/lang/constant/Constable"), (0, .class_ 4), (0, u "java/lang/Object")] 6

/-- java/lang/constant/Constable -/
def k2 : Class := { plain "java/lang/constant/Constable" (some 0) with
  accessFlags := 1537
  interfaces := #[]
  cf := some (fileOf pool2 1 #[] #[] 1537 3 #[] #[])
  fields := #[]
  methods := #[]
  instanceTypes := #[]
  staticTypes := #[]
  resolved := Array.replicate 11 none
  statics := none }

def pool3 : Array CpInfo := pool [(1, .class_ 2), (0, u "java/lang/Comparable"), (0, .class_ 4), (0, u "java/lang/Object")] 7

/-- java/lang/Comparable -/
def k3 : Class := { plain "java/lang/Comparable" (some 0) with
  accessFlags := 1537
  interfaces := #[]
  cf := some (fileOf pool3 1 #[] #[] 1537 3 #[] #[])
  fields := #[]
  methods := #[]
  instanceTypes := #[]
  staticTypes := #[]
  resolved := Array.replicate 12 none
  statics := none }

def pool4 : Array CpInfo := pool [(1, .class_ 2), (0, u "java/io/Serializable"), (0, .class_ 4), (0, u "java/lang/Object")] 2

/-- java/io/Serializable -/
def k4 : Class := { plain "java/io/Serializable" (some 0) with
  accessFlags := 1537
  interfaces := #[]
  cf := some (fileOf pool4 1 #[] #[] 1537 3 #[] #[])
  fields := #[]
  methods := #[]
  instanceTypes := #[]
  staticTypes := #[]
  resolved := Array.replicate 7 none
  statics := none }

def pool5 : Array CpInfo := pool [(2, .class_ 4), (1, u "java/lang/Enum"), (0, u "name"), (0, u "Ljava/lang/String;"), (2, u "ordinal"), (0, u "I"), (1, .class_ 14), (1, u "java/lang/Object"), (4, u "hash"), (86, .class_ 108), (1, u "java/lang/Enum$EnumDesc"), (2, .class_ 112), (0, u "java/lang/constant/Constable"), (0, .class_ 114), (0, u "java/lang/Comparable"), (0, .class_ 116), (0, u "java/io/Serializable")] 87

/-- java/lang/Enum -/
def k5 : Class := { plain "java/lang/Enum" (some 0) with
  accessFlags := 1057
  interfaces := #[2, 3, 4]
  cf := some (fileOf pool5 2 #[.nestMembers #[106]] #[] 1057 12 #[111, 113, 115] #[{ accessFlags := 18, nameIndex := 5, descriptorIndex := 6, attributes := #[] }, { accessFlags := 18, nameIndex := 9, descriptorIndex := 10, attributes := #[] }, { accessFlags := 2, nameIndex := 19, descriptorIndex := 10, attributes := #[] }])
  fields := #[{ name := "name", type := (.object "java/lang/String"), accessFlags := 18, slot := 0, constantValue := 0 }, { name := "ordinal", type := .int, accessFlags := 18, slot := 1, constantValue := 0 }, { name := "hash", type := .int, accessFlags := 2, slot := 2, constantValue := 0 }]
  methods := #[]
  instanceTypes := #[(.object "java/lang/String"), .int, .int]
  staticTypes := #[]
  resolved := Array.replicate 204 none
  statics := none }

def pool6 : Array CpInfo := pool [(1, .class_ 2), (0, u "com/example/halyard/halyard/book/Side"), (2, u "BID"), (0, u "Lcom/example/halyard/halyard/book/Side;"), (2, u "OFFER"), (2, u "$VALUES"), (0, u "[Lcom/example/halyard/halyard/book/Side;"), (6, .class_ 22), (1, u "java/lang/Enum")] 24

/-- com/example/halyard/halyard/book/Side -/
def k6 : Class := { plain "com/example/halyard/halyard/book/Side" (some 5) with
  accessFlags := 16433
  interfaces := #[]
  cf := some (fileOf pool6 1 #[] #[] 16433 20 #[] #[{ accessFlags := 16409, nameIndex := 5, descriptorIndex := 6, attributes := #[] }, { accessFlags := 16409, nameIndex := 9, descriptorIndex := 6, attributes := #[] }, { accessFlags := 4122, nameIndex := 12, descriptorIndex := 13, attributes := #[] }])
  fields := #[{ name := "BID", type := (.object "com/example/halyard/halyard/book/Side"), accessFlags := 16409, slot := 0, constantValue := 0 }, { name := "OFFER", type := (.object "com/example/halyard/halyard/book/Side"), accessFlags := 16409, slot := 1, constantValue := 0 }, { name := "$VALUES", type := (.array (.object "com/example/halyard/halyard/book/Side")), accessFlags := 4122, slot := 2, constantValue := 0 }]
  methods := #[]
  instanceTypes := #[(.object "java/lang/String"), .int, .int]
  staticTypes := #[(.object "com/example/halyard/halyard/book/Side"), (.object "com/example/halyard/halyard/book/Side"), (.array (.object "com/example/halyard/halyard/book/Side"))]
  resolved := Array.replicate 47 none
  statics := some 0 }

def pool7 : Array CpInfo := pool [(1, .class_ 2), (0, u "com/example/halyard/halyard/orders/Order$TimeInForce"), (2, u "DAY"), (0, u "Lcom/example/halyard/halyard/orders/Order$TimeInForce;"), (2, u "IMMEDIATE_OR_CANCEL"), (2, u "$VALUES"), (0, u "[Lcom/example/halyard/halyard/orders/Order$TimeInForce;"), (6, .class_ 22), (1, u "java/lang/Enum"), (25, .class_ 49), (0, u "com/example/halyard/halyard/orders/Order")] 2

/-- com/example/halyard/halyard/orders/Order$TimeInForce -/
def k7 : Class := { plain "com/example/halyard/halyard/orders/Order$TimeInForce" (some 5) with
  accessFlags := 16433
  interfaces := #[]
  cf := some (fileOf pool7 1 #[.nestHost 48] #[] 16433 20 #[] #[{ accessFlags := 16409, nameIndex := 5, descriptorIndex := 6, attributes := #[] }, { accessFlags := 16409, nameIndex := 9, descriptorIndex := 6, attributes := #[] }, { accessFlags := 4122, nameIndex := 12, descriptorIndex := 13, attributes := #[] }])
  fields := #[{ name := "DAY", type := (.object "com/example/halyard/halyard/orders/Order$TimeInForce"), accessFlags := 16409, slot := 0, constantValue := 0 }, { name := "IMMEDIATE_OR_CANCEL", type := (.object "com/example/halyard/halyard/orders/Order$TimeInForce"), accessFlags := 16409, slot := 1, constantValue := 0 }, { name := "$VALUES", type := (.array (.object "com/example/halyard/halyard/orders/Order$TimeInForce")), accessFlags := 4122, slot := 2, constantValue := 0 }]
  methods := #[]
  instanceTypes := #[(.object "java/lang/String"), .int, .int]
  staticTypes := #[(.object "com/example/halyard/halyard/orders/Order$TimeInForce"), (.object "com/example/halyard/halyard/orders/Order$TimeInForce"), (.array (.object "com/example/halyard/halyard/orders/Order$TimeInForce"))]
  resolved := Array.replicate 52 none
  statics := some 1 }

def pool8 : Array CpInfo := pool [(1, .class_ 2), (0, u "com/example/halyard/halyard/orders/Order$Type"), (2, u "MARKET"), (0, u "Lcom/example/halyard/halyard/orders/Order$Type;"), (2, u "LIMIT"), (2, u "$VALUES"), (0, u "[Lcom/example/halyard/halyard/orders/Order$Type;"), (6, .class_ 22), (1, u "java/lang/Enum"), (25, .class_ 49), (0, u "com/example/halyard/halyard/orders/Order")] 2

/-- com/example/halyard/halyard/orders/Order$Type -/
def k8 : Class := { plain "com/example/halyard/halyard/orders/Order$Type" (some 5) with
  accessFlags := 16433
  interfaces := #[]
  cf := some (fileOf pool8 1 #[.nestHost 48] #[] 16433 20 #[] #[{ accessFlags := 16409, nameIndex := 5, descriptorIndex := 6, attributes := #[] }, { accessFlags := 16409, nameIndex := 9, descriptorIndex := 6, attributes := #[] }, { accessFlags := 4122, nameIndex := 12, descriptorIndex := 13, attributes := #[] }])
  fields := #[{ name := "MARKET", type := (.object "com/example/halyard/halyard/orders/Order$Type"), accessFlags := 16409, slot := 0, constantValue := 0 }, { name := "LIMIT", type := (.object "com/example/halyard/halyard/orders/Order$Type"), accessFlags := 16409, slot := 1, constantValue := 0 }, { name := "$VALUES", type := (.array (.object "com/example/halyard/halyard/orders/Order$Type")), accessFlags := 4122, slot := 2, constantValue := 0 }]
  methods := #[]
  instanceTypes := #[(.object "java/lang/String"), .int, .int]
  staticTypes := #[(.object "com/example/halyard/halyard/orders/Order$Type"), (.object "com/example/halyard/halyard/orders/Order$Type"), (.array (.object "com/example/halyard/halyard/orders/Order$Type"))]
  resolved := Array.replicate 52 none
  statics := some 2 }

def pool9 : Array CpInfo := pool [(1, .methodref 2 3), (0, .class_ 4), (0, .nameAndType 5 6), (0, u "java/lang/Object"), (0, u "<init>"), (0, u "()V"), (0, .fieldref 8 9), (0, .class_ 10), (0, .nameAndType 11 12), (0, u "java/math/BigInteger"), (0, u "ZERO"), (0, u "Ljava/math/BigInteger;"), (0, .fieldref 14 15), (0, .class_ 16), (0, .nameAndType 17 12), (0, u "com/example/halyard/halyard/orders/Order"), (0, u "notional"), (0, .fieldref 14 19), (0, .nameAndType 20 21), (0, u "id"), (0, u "Ljava/lang/String;"), (0, .fieldref 14 23), (0, .nameAndType 24 25), (0, u "client"), (0, u "Ljava/lang/Object;"), (0, .fieldref 14 27), (0, .nameAndType 28 21), (0, u "symbol"), (0, .fieldref 14 30), (0, .nameAndType 31 32), (0, u "side"), (0, u "Lcom/example/halyard/halyard/book/Side;"), (0, .fieldref 14 34), (0, .nameAndType 35 36), (0, u "type"), (0, u "Lcom/example/halyard/halyard/orders/Order$Type;"), (0, .fieldref 14 38), (0, .nameAndType 39 40), (0, u "timeInForce"), (0, u "Lcom/example/halyard/halyard/orders/Order$TimeInForce;"), (0, .fieldref 14 42), (0, .nameAndType 43 44), (0, u "price"), (0, u "J"), (0, .fieldref 14 46), (0, .nameAndType 47 44), (0, u "quantity"), (2, u "(Ljava/lang/String;Ljava/lang/Object;Ljava/lang/String;Lcom/example/halyard/halyard/book/Side;Lcom/example/halyard/halyard/orders/Order$Type;Lcom/example/halyard/halyard/orders/Order$TimeInForce;JJ)V"), (2, u "fill"), (0, u "(JJ)V"), (2, u "cancel"), (0, .fieldref 14 59), (0, .nameAndType 60 44), (0, u "executed"), (0, .fieldref 14 62), (0, .nameAndType 63 64), (0, u "cancelled"), (0, u "Z"), (7, u "valueOf"), (14, u "()J"), (1, .class_ 91), (1, u "com/example/halyard/halyard/orders/Order$Status"), (13, u "leaves"), (1, .class_ 109), (1, u "com/example/halyard/halyard/orders/Order$Type"), (2, .class_ 114), (1, u "com/example/halyard/halyard/orders/Order$TimeInForce"), (9, .methodref 8 125), (0, .nameAndType 72 126), (0, u "(J)Ljava/math/BigInteger;"), (0, .methodref 8 128), (0, .nameAndType 129 130), (0, u "multiply"), (0, u "(Ljava/math/BigInteger;)Ljava/math/BigInteger;"), (0, .methodref 8 132), (0, .nameAndType 133 130), (0, u "add")] 31

def k9c0 : Code := { maxStack := 3, maxLocals := 11, code := prog_76_method_1_code, exceptionTable := #[], attributes := #[] }
def k9m0 : Method := { name := "<init>", desc := "(Ljava/lang/String;Ljava/lang/Object;Ljava/lang/String;Lcom/example/halyard/halyard/book/Side;Lcom/example/halyard/halyard/orders/Order$Type;Lcom/example/halyard/halyard/orders/Order$TimeInForce;JJ)V", sig := { parameters := [(.object "java/lang/String"), (.object "java/lang/Object"), (.object "java/lang/String"), (.object "com/example/halyard/halyard/book/Side"), (.object "com/example/halyard/halyard/orders/Order$Type"), (.object "com/example/halyard/halyard/orders/Order$TimeInForce"), .long, .long], returnType := none }, accessFlags := 1, code := some k9c0 }
def k9c1 : Code := { maxStack := 4, maxLocals := 1, code := prog_76_method_12_code, exceptionTable := #[], attributes := #[] }
def k9m1 : Method := { name := "leaves", desc := "()J", sig := { parameters := [], returnType := some .long }, accessFlags := 1, code := some k9c1 }
def k9c2 : Code := { maxStack := 5, maxLocals := 5, code := prog_76_method_18_code, exceptionTable := #[], attributes := #[] }
def k9m2 : Method := { name := "fill", desc := "(JJ)V", sig := { parameters := [.long, .long], returnType := none }, accessFlags := 0, code := some k9c2 }
def k9c3 : Code := { maxStack := 2, maxLocals := 1, code := prog_76_method_19_code, exceptionTable := #[], attributes := #[] }
def k9m3 : Method := { name := "cancel", desc := "()V", sig := { parameters := [], returnType := none }, accessFlags := 0, code := some k9c3 }
/-- com/example/halyard/halyard/orders/Order -/
def k9 : Class := { plain "com/example/halyard/halyard/orders/Order" (some 0) with
  accessFlags := 49
  interfaces := #[]
  cf := some (fileOf pool9 14 #[.nestMembers #[89, 112, 107]] #[{ accessFlags := 1, nameIndex := 5, descriptorIndex := 50, attributes := #[] }, { accessFlags := 1, nameIndex := 105, descriptorIndex := 87, attributes := #[] }, { accessFlags := 0, nameIndex := 53, descriptorIndex := 54, attributes := #[] }, { accessFlags := 0, nameIndex := 57, descriptorIndex := 6, attributes := #[] }] 49 2 #[] #[{ accessFlags := 18, nameIndex := 20, descriptorIndex := 21, attributes := #[] }, { accessFlags := 18, nameIndex := 24, descriptorIndex := 25, attributes := #[] }, { accessFlags := 18, nameIndex := 28, descriptorIndex := 21, attributes := #[] }, { accessFlags := 18, nameIndex := 31, descriptorIndex := 32, attributes := #[] }, { accessFlags := 18, nameIndex := 35, descriptorIndex := 36, attributes := #[] }, { accessFlags := 18, nameIndex := 39, descriptorIndex := 40, attributes := #[] }, { accessFlags := 2, nameIndex := 43, descriptorIndex := 44, attributes := #[] }, { accessFlags := 2, nameIndex := 47, descriptorIndex := 44, attributes := #[] }, { accessFlags := 2, nameIndex := 60, descriptorIndex := 44, attributes := #[] }, { accessFlags := 2, nameIndex := 17, descriptorIndex := 12, attributes := #[] }, { accessFlags := 2, nameIndex := 63, descriptorIndex := 64, attributes := #[] }])
  fields := #[{ name := "id", type := (.object "java/lang/String"), accessFlags := 18, slot := 0, constantValue := 0 }, { name := "client", type := (.object "java/lang/Object"), accessFlags := 18, slot := 1, constantValue := 0 }, { name := "symbol", type := (.object "java/lang/String"), accessFlags := 18, slot := 2, constantValue := 0 }, { name := "side", type := (.object "com/example/halyard/halyard/book/Side"), accessFlags := 18, slot := 3, constantValue := 0 }, { name := "type", type := (.object "com/example/halyard/halyard/orders/Order$Type"), accessFlags := 18, slot := 4, constantValue := 0 }, { name := "timeInForce", type := (.object "com/example/halyard/halyard/orders/Order$TimeInForce"), accessFlags := 18, slot := 5, constantValue := 0 }, { name := "price", type := .long, accessFlags := 2, slot := 6, constantValue := 0 }, { name := "quantity", type := .long, accessFlags := 2, slot := 7, constantValue := 0 }, { name := "executed", type := .long, accessFlags := 2, slot := 8, constantValue := 0 }, { name := "notional", type := (.object "java/math/BigInteger"), accessFlags := 2, slot := 9, constantValue := 0 }, { name := "cancelled", type := .boolean, accessFlags := 2, slot := 10, constantValue := 0 }]
  methods := #[k9m0, k9m1, k9m2, k9m3]
  instanceTypes := #[(.object "java/lang/String"), (.object "java/lang/Object"), (.object "java/lang/String"), (.object "com/example/halyard/halyard/book/Side"), (.object "com/example/halyard/halyard/orders/Order$Type"), (.object "com/example/halyard/halyard/orders/Order$TimeInForce"), .long, .long, .long, (.object "java/math/BigInteger"), .boolean]
  staticTypes := #[]
  resolved := Array.replicate 165 none
  statics := none }

def pool10 : Array CpInfo := pool [(2, .class_ 4), (1, u "java/lang/CharSequence"), (42, .class_ 48), (0, u "java/lang/CharSequence$1CodePointIterator"), (10, .class_ 60), (0, u "java/lang/CharSequence$1CharIterator"), (5, .class_ 67), (0, u "java/lang/Object")] 63

/-- java/lang/CharSequence -/
def k10 : Class := { plain "java/lang/CharSequence" (some 0) with
  accessFlags := 1537
  interfaces := #[]
  cf := some (fileOf pool10 2 #[.nestMembers #[47, 59]] #[] 1537 66 #[] #[])
  fields := #[]
  methods := #[]
  instanceTypes := #[]
  staticTypes := #[]
  resolved := Array.replicate 131 none
  statics := none }

def pool11 : Array CpInfo := pool [(1, .class_ 2), (0, u "java/lang/constant/ConstantDesc"), (0, .class_ 4), (0, u "java/lang/Object")] 32

/-- java/lang/constant/ConstantDesc -/
def k11 : Class := { plain "java/lang/constant/ConstantDesc" (some 0) with
  accessFlags := 1537
  interfaces := #[]
  cf := some (fileOf pool11 1 #[] #[] 1537 3 #[] #[])
  fields := #[]
  methods := #[]
  instanceTypes := #[]
  staticTypes := #[]
  resolved := Array.replicate 37 none
  statics := none }

def pool12 : Array CpInfo := pool [(2, .class_ 4), (1, u "java/lang/Object"), (0, u "<init>"), (0, u "()V"), (3, .class_ 12), (1, u "java/lang/String"), (0, u "value"), (0, u "[B"), (2, u "coder"), (0, u "B"), (2, u "hash"), (0, u "I"), (2, u "hashIsZero"), (0, u "Z"), (13, u "COMPACT_STRINGS"), (534, .class_ 576), (0, u "java/lang/CharSequence"), (22, u "CASE_INSENSITIVE_ORDER"), (0, u "Ljava/util/Comparator;"), (500, u "serialPersistentFields"), (0, u "[Ljava/io/ObjectStreamField;"), (0, .class_ 1104), (0, u "java/lang/String$CaseInsensitiveComparator"), (1, .class_ 1107), (0, u "java/io/Serializable"), (0, .class_ 1109), (0, u "java/lang/Comparable"), (0, .class_ 1111), (0, u "java/lang/constant/Constable"), (0, .class_ 1113), (0, u "java/lang/constant/ConstantDesc"), (2, u "serialVersionUID"), (0, u "J"), (3, u "REPL"), (0, u "C"), (2, u "LATIN1"), (1, u "UTF16")] 323

def k12m0 : Method := { name := "<init>", desc := "()V", sig := { parameters := [], returnType := none }, accessFlags := 1, code := none }
/-- java/lang/String -/
def k12 : Class := { plain "java/lang/String" (some 0) with
  accessFlags := 49
  interfaces := #[4, 3, 10, 2, 11]
  cf := some (fileOf pool12 10 #[.nestMembers #[1103]] #[{ accessFlags := 1, nameIndex := 5, descriptorIndex := 6, attributes := #[] }] 49 2 #[1106, 1108, 575, 1110, 1112] #[{ accessFlags := 18, nameIndex := 13, descriptorIndex := 14, attributes := #[] }, { accessFlags := 18, nameIndex := 17, descriptorIndex := 18, attributes := #[] }, { accessFlags := 2, nameIndex := 21, descriptorIndex := 22, attributes := #[] }, { accessFlags := 2, nameIndex := 25, descriptorIndex := 26, attributes := #[] }, { accessFlags := 26, nameIndex := 1116, descriptorIndex := 1117, attributes := #[] }, { accessFlags := 24, nameIndex := 40, descriptorIndex := 26, attributes := #[] }, { accessFlags := 26, nameIndex := 1101, descriptorIndex := 1102, attributes := #[] }, { accessFlags := 26, nameIndex := 1121, descriptorIndex := 1122, attributes := #[] }, { accessFlags := 25, nameIndex := 599, descriptorIndex := 600, attributes := #[] }, { accessFlags := 24, nameIndex := 1125, descriptorIndex := 18, attributes := #[] }, { accessFlags := 24, nameIndex := 1127, descriptorIndex := 18, attributes := #[] }])
  fields := #[{ name := "value", type := (.array .byte), accessFlags := 18, slot := 0, constantValue := 0 }, { name := "coder", type := .byte, accessFlags := 18, slot := 1, constantValue := 0 }, { name := "hash", type := .int, accessFlags := 2, slot := 2, constantValue := 0 }, { name := "hashIsZero", type := .boolean, accessFlags := 2, slot := 3, constantValue := 0 }, { name := "serialVersionUID", type := .long, accessFlags := 26, slot := 0, constantValue := 0 }, { name := "COMPACT_STRINGS", type := .boolean, accessFlags := 24, slot := 1, constantValue := 0 }, { name := "serialPersistentFields", type := (.array (.object "java/io/ObjectStreamField")), accessFlags := 26, slot := 2, constantValue := 0 }, { name := "REPL", type := .char, accessFlags := 26, slot := 3, constantValue := 0 }, { name := "CASE_INSENSITIVE_ORDER", type := (.object "java/util/Comparator"), accessFlags := 25, slot := 4, constantValue := 0 }, { name := "LATIN1", type := .byte, accessFlags := 24, slot := 5, constantValue := 0 }, { name := "UTF16", type := .byte, accessFlags := 24, slot := 6, constantValue := 0 }]
  methods := #[k12m0]
  instanceTypes := #[(.array .byte), .byte, .int, .boolean]
  staticTypes := #[.long, .boolean, (.array (.object "java/io/ObjectStreamField")), .char, (.object "java/util/Comparator"), .byte, .byte]
  resolved := Array.replicate 1451 none
  statics := none }

def pool13 : Array CpInfo := pool [(1, .methodref 2 3), (0, .class_ 4), (0, .nameAndType 5 6), (0, u "java/lang/Object"), (0, u "<init>"), (0, u "()V"), (1, .class_ 10), (1, u "java/lang/Number"), (2, .class_ 14), (0, u "java/io/Serializable"), (0, u "serialVersionUID"), (0, u "J")] 20

def k13c0 : Code := { maxStack := 1, maxLocals := 1, code := jdk_18_method_1_code, exceptionTable := #[], attributes := #[] }
def k13m0 : Method := { name := "<init>", desc := "()V", sig := { parameters := [], returnType := none }, accessFlags := 1, code := some k13c0 }
/-- java/lang/Number -/
def k13 : Class := { plain "java/lang/Number" (some 0) with
  accessFlags := 1057
  interfaces := #[4]
  cf := some (fileOf pool13 8 #[] #[{ accessFlags := 1, nameIndex := 5, descriptorIndex := 6, attributes := #[] }] 1057 2 #[13] #[{ accessFlags := 26, nameIndex := 15, descriptorIndex := 16, attributes := #[] }])
  fields := #[{ name := "serialVersionUID", type := .long, accessFlags := 26, slot := 0, constantValue := 0 }]
  methods := #[k13m0]
  instanceTypes := #[]
  staticTypes := #[.long]
  resolved := Array.replicate 37 none
  statics := none }

def pool14 : Array CpInfo := pool [(1, .class_ 2), (0, u "java/lang/Integer"), (16, u "digits"), (0, u "[C"), (33, u "(I)I"), (30, u "DigitOnes"), (0, u "[B"), (2, u "DigitTens"), (97, u "valueOf"), (0, u "(I)Ljava/lang/Integer;"), (0, .class_ 190), (0, u "java/lang/Integer$IntegerCache"), (0, .fieldref 189 192), (0, .nameAndType 193 194), (0, u "high"), (0, u "I"), (0, .fieldref 189 196), (0, .nameAndType 197 198), (0, u "cache"), (0, u "[Ljava/lang/Integer;"), (4, .class_ 204), (0, u "java/lang/Number"), (2, u "value"), (56, .integer 65536), (0, .integer 1431655765), (0, .integer 858993459), (0, .integer 252645135), (34, u "TYPE"), (0, u "Ljava/lang/Class;"), (0, .class_ 305), (0, u "java/lang/Comparable"), (0, .class_ 307), (0, u "java/lang/constant/Constable"), (0, .class_ 309), (0, u "java/lang/constant/ConstantDesc"), (0, u "MIN_VALUE"), (1, u "MAX_VALUE"), (3, u "SIZE"), (1, u "BYTES"), (1, u "serialVersionUID"), (0, u "J"), (84, u "numberOfTrailingZeros"), (0, u "bitCount")] 45

def k14c0 : Code := { maxStack := 3, maxLocals := 1, code := jdk_33_method_22_code, exceptionTable := #[], attributes := #[] }
def k14m0 : Method := { name := "valueOf", desc := "(I)Ljava/lang/Integer;", sig := { parameters := [.int], returnType := some (.object "java/lang/Integer") }, accessFlags := 9, code := some k14c0 }
def k14c1 : Code := { maxStack := 3, maxLocals := 2, code := jdk_33_method_48_code, exceptionTable := #[], attributes := #[] }
def k14m1 : Method := { name := "numberOfTrailingZeros", desc := "(I)I", sig := { parameters := [.int], returnType := some .int }, accessFlags := 9, code := some k14c1 }
def k14c2 : Code := { maxStack := 3, maxLocals := 1, code := jdk_33_method_49_code, exceptionTable := #[], attributes := #[] }
def k14m2 : Method := { name := "bitCount", desc := "(I)I", sig := { parameters := [.int], returnType := some .int }, accessFlags := 9, code := some k14c2 }
/-- java/lang/Integer -/
def k14 : Class := { plain "java/lang/Integer" (some 13) with
  accessFlags := 49
  interfaces := #[3, 2, 11]
  cf := some (fileOf pool14 1 #[.nestMembers #[189]] #[{ accessFlags := 9, nameIndex := 187, descriptorIndex := 188, attributes := #[] }, { accessFlags := 9, nameIndex := 406, descriptorIndex := 54, attributes := #[] }, { accessFlags := 9, nameIndex := 407, descriptorIndex := 54, attributes := #[] }] 49 203 #[304, 306, 308] #[{ accessFlags := 25, nameIndex := 310, descriptorIndex := 194, attributes := #[] }, { accessFlags := 25, nameIndex := 312, descriptorIndex := 194, attributes := #[] }, { accessFlags := 25, nameIndex := 302, descriptorIndex := 303, attributes := #[] }, { accessFlags := 24, nameIndex := 19, descriptorIndex := 20, attributes := #[] }, { accessFlags := 24, nameIndex := 89, descriptorIndex := 86, attributes := #[] }, { accessFlags := 24, nameIndex := 85, descriptorIndex := 86, attributes := #[] }, { accessFlags := 18, nameIndex := 207, descriptorIndex := 194, attributes := #[] }, { accessFlags := 25, nameIndex := 316, descriptorIndex := 194, attributes := #[] }, { accessFlags := 25, nameIndex := 318, descriptorIndex := 194, attributes := #[] }, { accessFlags := 26, nameIndex := 320, descriptorIndex := 321, attributes := #[] }])
  fields := #[{ name := "MIN_VALUE", type := .int, accessFlags := 25, slot := 0, constantValue := 0 }, { name := "MAX_VALUE", type := .int, accessFlags := 25, slot := 1, constantValue := 0 }, { name := "TYPE", type := (.object "java/lang/Class"), accessFlags := 25, slot := 2, constantValue := 0 }, { name := "digits", type := (.array .char), accessFlags := 24, slot := 3, constantValue := 0 }, { name := "DigitTens", type := (.array .byte), accessFlags := 24, slot := 4, constantValue := 0 }, { name := "DigitOnes", type := (.array .byte), accessFlags := 24, slot := 5, constantValue := 0 }, { name := "value", type := .int, accessFlags := 18, slot := 0, constantValue := 0 }, { name := "SIZE", type := .int, accessFlags := 25, slot := 6, constantValue := 0 }, { name := "BYTES", type := .int, accessFlags := 25, slot := 7, constantValue := 0 }, { name := "serialVersionUID", type := .long, accessFlags := 26, slot := 8, constantValue := 0 }]
  methods := #[k14m0, k14m1, k14m2]
  instanceTypes := #[.int]
  staticTypes := #[.int, .int, (.object "java/lang/Class"), (.array .char), (.array .byte), (.array .byte), .int, .int, .long]
  resolved := Array.replicate 453 none
  statics := none }

def pool15 : Array CpInfo := pool [(2, .class_ 4), (1, u "java/lang/Object"), (0, u "<init>"), (0, u "()V"), (0, .class_ 8), (0, u "java/lang/Integer"), (7, .class_ 18), (1, u "java/lang/Integer$IntegerCache"), (0, u "$assertionsDisabled"), (0, u "Z"), (26, u "high"), (0, u "I"), (8, u "archivedCache"), (0, u "[Ljava/lang/Integer;"), (12, u "cache"), (0, u "low")] 27

def k15m0 : Method := { name := "<init>", desc := "()V", sig := { parameters := [], returnType := none }, accessFlags := 2, code := none }
/-- java/lang/Integer$IntegerCache -/
def k15 : Class := { plain "java/lang/Integer$IntegerCache" (some 0) with
  accessFlags := 48
  interfaces := #[]
  cf := some (fileOf pool15 16 #[.nestHost 7] #[{ accessFlags := 2, nameIndex := 5, descriptorIndex := 6, attributes := #[] }] 48 2 #[] #[{ accessFlags := 24, nameIndex := 72, descriptorIndex := 48, attributes := #[] }, { accessFlags := 24, nameIndex := 47, descriptorIndex := 48, attributes := #[] }, { accessFlags := 24, nameIndex := 71, descriptorIndex := 58, attributes := #[] }, { accessFlags := 8, nameIndex := 57, descriptorIndex := 58, attributes := #[] }, { accessFlags := 4120, nameIndex := 19, descriptorIndex := 20, attributes := #[] }])
  fields := #[{ name := "low", type := .int, accessFlags := 24, slot := 0, constantValue := 0 }, { name := "high", type := .int, accessFlags := 24, slot := 1, constantValue := 0 }, { name := "cache", type := (.array (.object "java/lang/Integer")), accessFlags := 24, slot := 2, constantValue := 0 }, { name := "archivedCache", type := (.array (.object "java/lang/Integer")), accessFlags := 8, slot := 3, constantValue := 0 }, { name := "$assertionsDisabled", type := .boolean, accessFlags := 4120, slot := 4, constantValue := 0 }]
  methods := #[k15m0]
  instanceTypes := #[]
  staticTypes := #[.int, .int, (.array (.object "java/lang/Integer")), (.array (.object "java/lang/Integer")), .boolean]
  resolved := Array.replicate 100 none
  statics := some 3 }

def pool16 : Array CpInfo := pool [(1, .class_ 2), (0, u "java/lang/Integer"), (0, .methodref 4 5), (0, .class_ 6), (0, .nameAndType 7 8), (0, u "java/lang/Number"), (0, u "<init>"), (0, u "()V"), (8, .class_ 19), (1, u "java/util/Objects"), (1, u "(III)I"), (0, .fieldref 23 24), (0, .class_ 25), (0, .nameAndType 26 27), (0, u "java/math/BigInteger"), (0, u "ZERO"), (0, u "Ljava/math/BigInteger;"), (0, .fieldref 23 29), (0, .nameAndType 30 31), (0, u "mag"), (0, u "[I"), (0, .fieldref 23 33), (0, .nameAndType 34 35), (0, u "signum"), (0, u "I"), (7, .integer 67108864), (8, u "([I)[I"), (0, .methodref 23 54), (0, .nameAndType 55 52), (0, u "trustedStripLeadingZeroInts"), (26, u "(I)I"), (12, u "bitsPerDigit"), (0, u "[J"), (9, u "digitsPerInt"), (12, u "intRadix"), (10, .long 4294967295), (9, .class_ 142), (1, u "java/util/Arrays"), (32, .methodref 23 176), (0, .nameAndType 7 177), (0, u "([II)V"), (2, u "SMALL_PRIME_PRODUCT"), (3, u "(Ljava/math/BigInteger;)Ljava/math/BigInteger;"), (52, u "valueOf"), (0, u "(J)Ljava/math/BigInteger;"), (2, u "add"), (18, u "ONE"), (6, u "TWO"), (43, u "$assertionsDisabled"), (0, u "Z"), (5, u "multiply"), (26, .long 16), (1, .fieldref 23 348), (0, .nameAndType 349 350), (0, u "posConst"), (0, u "[Ljava/math/BigInteger;"), (4, u "negConst"), (0, .methodref 23 357), (0, .nameAndType 7 358), (0, u "(J)V"), (3, .methodref 23 363), (0, .nameAndType 241 364), (0, u "([I[I)[I"), (23, .methodref 389 390), (0, .class_ 391), (0, .nameAndType 392 393), (0, u "java/lang/System"), (0, u "arraycopy"), (0, u "(Ljava/lang/Object;ILjava/lang/Object;II)V"), (3, .methodref 23 398), (0, .nameAndType 318 399), (0, u "(Ljava/math/BigInteger;ZZI)Ljava/math/BigInteger;"), (3, .methodref 23 404), (0, .nameAndType 405 406), (0, u "multiplyByInt"), (0, u "([III)Ljava/math/BigInteger;"), (0, .methodref 23 408), (0, .nameAndType 409 410), (0, u "multiplyToLen"), (0, u "([II[II[I)[I"), (12, .methodref 1 424), (0, .nameAndType 425 82), (0, u "bitCount"), (0, .methodref 1 427), (0, .nameAndType 428 82), (0, u "numberOfTrailingZeros"), (0, .methodref 23 430), (0, .nameAndType 431 432), (0, u "shiftLeft"), (0, u "([II)[I"), (0, .methodref 140 434), (0, .nameAndType 435 436), (0, u "copyOfRange"), (0, u "([III)[I"), (4, .methodref 23 442), (0, .nameAndType 443 177), (0, u "multiplyToLenCheck"), (0, .methodref 23 445), (0, .nameAndType 446 410), (0, u "implMultiplyToLen"), (0, .methodref 17 448), (0, .nameAndType 449 450), (0, u "requireNonNull"), (0, u "(Ljava/lang/Object;)Ljava/lang/Object;"), (21, .class_ 474), (1, u "java/math/BigInteger$RecursiveOp"), (106, u "NEGATIVE_ONE"), (29, .methodref 17 612), (0, .nameAndType 613 21), (0, u "checkFromToIndex"), (3, u "([I[IIII)V"), (0, .methodref 23 619), (0, .nameAndType 620 617), (0, u "shiftLeftImplWorker"), (52, u "bnExpModThreshTable"), (72, u "lowestSetBitPlusTwo"), (2, u "bitLengthPlusOne"), (2, u "bitCountPlusOne"), (6, u "LOG_TWO"), (0, u "D"), (2, u "logCache"), (0, u "[D"), (13, u "NUM_ZEROS"), (2, u "ZEROS"), (0, u "Ljava/lang/String;"), (9, u "longRadix"), (5, u "digitsPerLong"), (22, u "powerCache"), (0, u "[[Ljava/math/BigInteger;"), (45, u "firstNonzeroIntNumPlusTwo"), (38, .class_ 909), (1, u "java/math/BigInteger$UnsafeHolder"), (141, u "TEN"), (106, u "serialPersistentFields"), (0, u "[Ljava/io/ObjectStreamField;"), (0, .class_ 1161), (0, u "java/lang/Comparable"), (0, u "LONG_MASK"), (0, u "J"), (1, u "MAX_MAG_LENGTH"), (0, u "PRIME_SEARCH_BIT_LENGTH_LIMIT"), (1, u "KARATSUBA_THRESHOLD"), (1, u "TOOM_COOK_THRESHOLD"), (1, u "KARATSUBA_SQUARE_THRESHOLD"), (1, u "TOOM_COOK_SQUARE_THRESHOLD"), (1, u "BURNIKEL_ZIEGLER_THRESHOLD"), (0, u "BURNIKEL_ZIEGLER_OFFSET"), (1, u "SCHOENHAGE_BASE_CONVERSION_THRESHOLD"), (1, u "MULTIPLY_SQUARE_THRESHOLD"), (0, u "MONTGOMERY_INTRINSIC_THRESHOLD"), (1, u "SMALL_PRIME_THRESHOLD"), (1, u "DEFAULT_PRIME_CERTAINTY"), (1, u "MAX_CONSTANT"), (3, u "serialVersionUID"), (338, .class_ 1532), (0, u "java/math/BigInteger$RecursiveOp$RecursiveSquare"), (0, .class_ 1534), (0, u "java/math/BigInteger$RecursiveOp$RecursiveMultiply")] 7

def k16c0 : Code := { maxStack := 2, maxLocals := 3, code := jdk_2097_method_25_code, exceptionTable := #[], attributes := #[] }
def k16m0 : Method := { name := "<init>", desc := "([II)V", sig := { parameters := [(.array .int), .int], returnType := none }, accessFlags := 0, code := some k16c0 }
def k16c1 : Code := { maxStack := 4, maxLocals := 2, code := jdk_2097_method_29_code, exceptionTable := #[], attributes := #[] }
def k16m1 : Method := { name := "valueOf", desc := "(J)Ljava/math/BigInteger;", sig := { parameters := [.long], returnType := some (.object "java/math/BigInteger") }, accessFlags := 9, code := some k16c1 }
def k16c2 : Code := { maxStack := 4, maxLocals := 4, code := jdk_2097_method_30_code, exceptionTable := #[], attributes := #[] }
def k16m2 : Method := { name := "<init>", desc := "(J)V", sig := { parameters := [.long], returnType := none }, accessFlags := 2, code := some k16c2 }
def k16c3 : Code := { maxStack := 5, maxLocals := 4, code := jdk_2097_method_32_code, exceptionTable := #[], attributes := #[] }
def k16m3 : Method := { name := "add", desc := "(Ljava/math/BigInteger;)Ljava/math/BigInteger;", sig := { parameters := [(.object "java/math/BigInteger")], returnType := some (.object "java/math/BigInteger") }, accessFlags := 1, code := some k16c3 }
def k16c4 : Code := { maxStack := 6, maxLocals := 9, code := jdk_2097_method_35_code, exceptionTable := #[], attributes := #[] }
def k16m4 : Method := { name := "add", desc := "([I[I)[I", sig := { parameters := [(.array .int), (.array .int)], returnType := some (.array .int) }, accessFlags := 10, code := some k16c4 }
def k16c5 : Code := { maxStack := 5, maxLocals := 2, code := jdk_2097_method_40_code, exceptionTable := #[], attributes := #[] }
def k16m5 : Method := { name := "multiply", desc := "(Ljava/math/BigInteger;)Ljava/math/BigInteger;", sig := { parameters := [(.object "java/math/BigInteger")], returnType := some (.object "java/math/BigInteger") }, accessFlags := 1, code := some k16c5 }
def k16c6 : Code := { maxStack := 5, maxLocals := 9, code := jdk_2097_method_42_code, exceptionTable := #[], attributes := #[] }
def k16m6 : Method := { name := "multiply", desc := "(Ljava/math/BigInteger;ZZI)Ljava/math/BigInteger;", sig := { parameters := [(.object "java/math/BigInteger"), .boolean, .boolean, .int], returnType := some (.object "java/math/BigInteger") }, accessFlags := 2, code := some k16c6 }
def k16c7 : Code := { maxStack := 4, maxLocals := 13, code := jdk_2097_method_43_code, exceptionTable := #[], attributes := #[] }
def k16m7 : Method := { name := "multiplyByInt", desc := "([III)Ljava/math/BigInteger;", sig := { parameters := [(.array .int), .int, .int], returnType := some (.object "java/math/BigInteger") }, accessFlags := 10, code := some k16c7 }
def k16c8 : Code := { maxStack := 5, maxLocals := 5, code := jdk_2097_method_45_code, exceptionTable := #[], attributes := #[] }
def k16m8 : Method := { name := "multiplyToLen", desc := "([II[II[I)[I", sig := { parameters := [(.array .int), .int, (.array .int), .int, (.array .int)], returnType := some (.array .int) }, accessFlags := 10, code := some k16c8 }
def k16c9 : Code := { maxStack := 6, maxLocals := 14, code := jdk_2097_method_46_code, exceptionTable := #[], attributes := #[] }
def k16m9 : Method := { name := "implMultiplyToLen", desc := "([II[II[I)[I", sig := { parameters := [(.array .int), .int, (.array .int), .int, (.array .int)], returnType := some (.array .int) }, accessFlags := 10, code := some k16c9 }
def k16c10 : Code := { maxStack := 4, maxLocals := 2, code := jdk_2097_method_47_code, exceptionTable := #[], attributes := #[] }
def k16m10 : Method := { name := "multiplyToLenCheck", desc := "([II)V", sig := { parameters := [(.array .int), .int], returnType := none }, accessFlags := 10, code := some k16c10 }
def k16c11 : Code := { maxStack := 5, maxLocals := 10, code := jdk_2097_method_102_code, exceptionTable := #[], attributes := #[] }
def k16m11 : Method := { name := "shiftLeft", desc := "([II)[I", sig := { parameters := [(.array .int), .int], returnType := some (.array .int) }, accessFlags := 10, code := some k16c11 }
def k16c12 : Code := { maxStack := 5, maxLocals := 7, code := jdk_2097_method_103_code, exceptionTable := #[], attributes := #[] }
def k16m12 : Method := { name := "shiftLeftImplWorker", desc := "([I[IIII)V", sig := { parameters := [(.array .int), (.array .int), .int, .int, .int], returnType := none }, accessFlags := 10, code := some k16c12 }
def k16c13 : Code := { maxStack := 3, maxLocals := 3, code := jdk_2097_method_140_code, exceptionTable := #[], attributes := #[] }
def k16m13 : Method := { name := "trustedStripLeadingZeroInts", desc := "([I)[I", sig := { parameters := [(.array .int)], returnType := some (.array .int) }, accessFlags := 10, code := some k16c13 }
/-- java/math/BigInteger -/
def k16 : Class := { plain "java/math/BigInteger" (some 13) with
  accessFlags := 33
  interfaces := #[3]
  cf := some (fileOf pool16 23 #[.nestMembers #[907, 472, 1531, 1533]] #[{ accessFlags := 0, nameIndex := 7, descriptorIndex := 177, attributes := #[] }, { accessFlags := 9, nameIndex := 237, descriptorIndex := 238, attributes := #[] }, { accessFlags := 2, nameIndex := 7, descriptorIndex := 358, attributes := #[] }, { accessFlags := 1, nameIndex := 241, descriptorIndex := 184, attributes := #[] }, { accessFlags := 10, nameIndex := 241, descriptorIndex := 364, attributes := #[] }, { accessFlags := 1, nameIndex := 318, descriptorIndex := 184, attributes := #[] }, { accessFlags := 2, nameIndex := 318, descriptorIndex := 399, attributes := #[] }, { accessFlags := 10, nameIndex := 405, descriptorIndex := 406, attributes := #[] }, { accessFlags := 10, nameIndex := 409, descriptorIndex := 410, attributes := #[] }, { accessFlags := 10, nameIndex := 446, descriptorIndex := 410, attributes := #[] }, { accessFlags := 10, nameIndex := 443, descriptorIndex := 177, attributes := #[] }, { accessFlags := 10, nameIndex := 431, descriptorIndex := 432, attributes := #[] }, { accessFlags := 10, nameIndex := 620, descriptorIndex := 617, attributes := #[] }, { accessFlags := 10, nameIndex := 55, descriptorIndex := 52, attributes := #[] }] 33 4 #[1160] #[{ accessFlags := 16, nameIndex := 34, descriptorIndex := 35, attributes := #[] }, { accessFlags := 16, nameIndex := 30, descriptorIndex := 31, attributes := #[] }, { accessFlags := 2, nameIndex := 752, descriptorIndex := 35, attributes := #[] }, { accessFlags := 2, nameIndex := 749, descriptorIndex := 35, attributes := #[] }, { accessFlags := 2, nameIndex := 746, descriptorIndex := 35, attributes := #[] }, { accessFlags := 2, nameIndex := 868, descriptorIndex := 35, attributes := #[] }, { accessFlags := 24, nameIndex := 1162, descriptorIndex := 1163, attributes := #[] }, { accessFlags := 26, nameIndex := 1165, descriptorIndex := 35, attributes := #[] }, { accessFlags := 26, nameIndex := 1166, descriptorIndex := 35, attributes := #[] }, { accessFlags := 26, nameIndex := 1168, descriptorIndex := 35, attributes := #[] }, { accessFlags := 26, nameIndex := 1170, descriptorIndex := 35, attributes := #[] }, { accessFlags := 26, nameIndex := 1172, descriptorIndex := 35, attributes := #[] }, { accessFlags := 26, nameIndex := 1174, descriptorIndex := 35, attributes := #[] }, { accessFlags := 24, nameIndex := 1176, descriptorIndex := 35, attributes := #[] }, { accessFlags := 24, nameIndex := 1177, descriptorIndex := 35, attributes := #[] }, { accessFlags := 26, nameIndex := 1179, descriptorIndex := 35, attributes := #[] }, { accessFlags := 26, nameIndex := 1181, descriptorIndex := 35, attributes := #[] }, { accessFlags := 26, nameIndex := 1182, descriptorIndex := 35, attributes := #[] }, { accessFlags := 10, nameIndex := 95, descriptorIndex := 96, attributes := #[] }, { accessFlags := 26, nameIndex := 1184, descriptorIndex := 35, attributes := #[] }, { accessFlags := 26, nameIndex := 1186, descriptorIndex := 35, attributes := #[] }, { accessFlags := 26, nameIndex := 180, descriptorIndex := 27, attributes := #[] }, { accessFlags := 26, nameIndex := 1188, descriptorIndex := 35, attributes := #[] }, { accessFlags := 26, nameIndex := 349, descriptorIndex := 350, attributes := #[] }, { accessFlags := 26, nameIndex := 355, descriptorIndex := 350, attributes := #[] }, { accessFlags := 74, nameIndex := 821, descriptorIndex := 822, attributes := #[] }, { accessFlags := 26, nameIndex := 763, descriptorIndex := 764, attributes := #[] }, { accessFlags := 26, nameIndex := 759, descriptorIndex := 760, attributes := #[] }, { accessFlags := 25, nameIndex := 26, descriptorIndex := 27, attributes := #[] }, { accessFlags := 25, nameIndex := 260, descriptorIndex := 27, attributes := #[] }, { accessFlags := 25, nameIndex := 267, descriptorIndex := 27, attributes := #[] }, { accessFlags := 26, nameIndex := 581, descriptorIndex := 27, attributes := #[] }, { accessFlags := 25, nameIndex := 1051, descriptorIndex := 27, attributes := #[] }, { accessFlags := 8, nameIndex := 673, descriptorIndex := 31, attributes := #[] }, { accessFlags := 10, nameIndex := 778, descriptorIndex := 35, attributes := #[] }, { accessFlags := 26, nameIndex := 781, descriptorIndex := 782, attributes := #[] }, { accessFlags := 10, nameIndex := 798, descriptorIndex := 31, attributes := #[] }, { accessFlags := 10, nameIndex := 792, descriptorIndex := 350, attributes := #[] }, { accessFlags := 10, nameIndex := 106, descriptorIndex := 31, attributes := #[] }, { accessFlags := 10, nameIndex := 119, descriptorIndex := 31, attributes := #[] }, { accessFlags := 26, nameIndex := 1192, descriptorIndex := 1163, attributes := #[] }, { accessFlags := 26, nameIndex := 1158, descriptorIndex := 1159, attributes := #[] }, { accessFlags := 4120, nameIndex := 311, descriptorIndex := 312, attributes := #[] }])
  fields := #[{ name := "signum", type := .int, accessFlags := 16, slot := 0, constantValue := 0 }, { name := "mag", type := (.array .int), accessFlags := 16, slot := 1, constantValue := 0 }, { name := "bitCountPlusOne", type := .int, accessFlags := 2, slot := 2, constantValue := 0 }, { name := "bitLengthPlusOne", type := .int, accessFlags := 2, slot := 3, constantValue := 0 }, { name := "lowestSetBitPlusTwo", type := .int, accessFlags := 2, slot := 4, constantValue := 0 }, { name := "firstNonzeroIntNumPlusTwo", type := .int, accessFlags := 2, slot := 5, constantValue := 0 }, { name := "LONG_MASK", type := .long, accessFlags := 24, slot := 0, constantValue := 0 }, { name := "MAX_MAG_LENGTH", type := .int, accessFlags := 26, slot := 1, constantValue := 0 }, { name := "PRIME_SEARCH_BIT_LENGTH_LIMIT", type := .int, accessFlags := 26, slot := 2, constantValue := 0 }, { name := "KARATSUBA_THRESHOLD", type := .int, accessFlags := 26, slot := 3, constantValue := 0 }, { name := "TOOM_COOK_THRESHOLD", type := .int, accessFlags := 26, slot := 4, constantValue := 0 }, { name := "KARATSUBA_SQUARE_THRESHOLD", type := .int, accessFlags := 26, slot := 5, constantValue := 0 }, { name := "TOOM_COOK_SQUARE_THRESHOLD", type := .int, accessFlags := 26, slot := 6, constantValue := 0 }, { name := "BURNIKEL_ZIEGLER_THRESHOLD", type := .int, accessFlags := 24, slot := 7, constantValue := 0 }, { name := "BURNIKEL_ZIEGLER_OFFSET", type := .int, accessFlags := 24, slot := 8, constantValue := 0 }, { name := "SCHOENHAGE_BASE_CONVERSION_THRESHOLD", type := .int, accessFlags := 26, slot := 9, constantValue := 0 }, { name := "MULTIPLY_SQUARE_THRESHOLD", type := .int, accessFlags := 26, slot := 10, constantValue := 0 }, { name := "MONTGOMERY_INTRINSIC_THRESHOLD", type := .int, accessFlags := 26, slot := 11, constantValue := 0 }, { name := "bitsPerDigit", type := (.array .long), accessFlags := 10, slot := 12, constantValue := 0 }, { name := "SMALL_PRIME_THRESHOLD", type := .int, accessFlags := 26, slot := 13, constantValue := 0 }, { name := "DEFAULT_PRIME_CERTAINTY", type := .int, accessFlags := 26, slot := 14, constantValue := 0 }, { name := "SMALL_PRIME_PRODUCT", type := (.object "java/math/BigInteger"), accessFlags := 26, slot := 15, constantValue := 0 }, { name := "MAX_CONSTANT", type := .int, accessFlags := 26, slot := 16, constantValue := 0 }, { name := "posConst", type := (.array (.object "java/math/BigInteger")), accessFlags := 26, slot := 17, constantValue := 0 }, { name := "negConst", type := (.array (.object "java/math/BigInteger")), accessFlags := 26, slot := 18, constantValue := 0 }, { name := "powerCache", type := (.array (.array (.object "java/math/BigInteger"))), accessFlags := 74, slot := 19, constantValue := 0 }, { name := "logCache", type := (.array .double), accessFlags := 26, slot := 20, constantValue := 0 }, { name := "LOG_TWO", type := .double, accessFlags := 26, slot := 21, constantValue := 0 }, { name := "ZERO", type := (.object "java/math/BigInteger"), accessFlags := 25, slot := 22, constantValue := 0 }, { name := "ONE", type := (.object "java/math/BigInteger"), accessFlags := 25, slot := 23, constantValue := 0 }, { name := "TWO", type := (.object "java/math/BigInteger"), accessFlags := 25, slot := 24, constantValue := 0 }, { name := "NEGATIVE_ONE", type := (.object "java/math/BigInteger"), accessFlags := 26, slot := 25, constantValue := 0 }, { name := "TEN", type := (.object "java/math/BigInteger"), accessFlags := 25, slot := 26, constantValue := 0 }, { name := "bnExpModThreshTable", type := (.array .int), accessFlags := 8, slot := 27, constantValue := 0 }, { name := "NUM_ZEROS", type := .int, accessFlags := 10, slot := 28, constantValue := 0 }, { name := "ZEROS", type := (.object "java/lang/String"), accessFlags := 26, slot := 29, constantValue := 0 }, { name := "digitsPerLong", type := (.array .int), accessFlags := 10, slot := 30, constantValue := 0 }, { name := "longRadix", type := (.array (.object "java/math/BigInteger")), accessFlags := 10, slot := 31, constantValue := 0 }, { name := "digitsPerInt", type := (.array .int), accessFlags := 10, slot := 32, constantValue := 0 }, { name := "intRadix", type := (.array .int), accessFlags := 10, slot := 33, constantValue := 0 }, { name := "serialVersionUID", type := .long, accessFlags := 26, slot := 34, constantValue := 0 }, { name := "serialPersistentFields", type := (.array (.object "java/io/ObjectStreamField")), accessFlags := 26, slot := 35, constantValue := 0 }, { name := "$assertionsDisabled", type := .boolean, accessFlags := 4120, slot := 36, constantValue := 0 }]
  methods := #[k16m0, k16m1, k16m2, k16m3, k16m4, k16m5, k16m6, k16m7, k16m8, k16m9, k16m10, k16m11, k16m12, k16m13]
  instanceTypes := #[.int, (.array .int), .int, .int, .int, .int]
  staticTypes := #[.long, .int, .int, .int, .int, .int, .int, .int, .int, .int, .int, .int, (.array .long), .int, .int, (.object "java/math/BigInteger"), .int, (.array (.object "java/math/BigInteger")), (.array (.object "java/math/BigInteger")), (.array (.array (.object "java/math/BigInteger"))), (.array .double), .double, (.object "java/math/BigInteger"), (.object "java/math/BigInteger"), (.object "java/math/BigInteger"), (.object "java/math/BigInteger"), (.object "java/math/BigInteger"), (.array .int), .int, (.object "java/lang/String"), (.array .int), (.array (.object "java/math/BigInteger")), (.array .int), (.array .int), .long, (.array (.object "java/io/ObjectStreamField")), .boolean]
  resolved := Array.replicate 1542 none
  statics := some 4 }

def pool17 : Array CpInfo := pool [(2, .class_ 4), (1, u "java/lang/Object"), (0, u "<init>"), (0, u "()V"), (7, .class_ 16), (1, u "java/util/Arrays"), (57, .class_ 76), (1, u "java/util/Arrays$NaturalOrder"), (36, .class_ 115), (1, u "java/util/Arrays$LegacyMergeSort"), (1, u "Z"), (21, u "copyOfRange"), (10, .methodref 151 152), (0, .class_ 153), (0, .nameAndType 154 155), (0, u "java/lang/System"), (0, u "arraycopy"), (0, u "(Ljava/lang/Object;ILjava/lang/Object;II)V"), (148, .methodref 305 306), (0, .class_ 307), (0, .nameAndType 308 309), (0, u "java/lang/Math"), (0, u "min"), (0, u "(II)I"), (33, .methodref 14 344), (0, .nameAndType 345 346), (0, u "checkLength"), (0, u "(II)V"), (4, .methodref 14 352), (0, .nameAndType 353 354), (0, u "copyOfRangeInt"), (0, u "([III)[I"), (20, .class_ 376), (0, u "java/util/Arrays$ArrayList"), (68, u "$assertionsDisabled"), (269, u "MIN_ARRAY_SORT_GRAN"), (0, u "I"), (2, u "INSERTIONSORT_THRESHOLD"), (255, .class_ 976), (0, u "java/util/Arrays$ArrayItr")] 52

def k17m0 : Method := { name := "<init>", desc := "()V", sig := { parameters := [], returnType := none }, accessFlags := 2, code := none }
def k17c1 : Code := { maxStack := 4, maxLocals := 2, code := jdk_65_method_131_code, exceptionTable := #[], attributes := #[] }
def k17m1 : Method := { name := "checkLength", desc := "(II)V", sig := { parameters := [.int, .int], returnType := none }, accessFlags := 10, code := some k17c1 }
def k17c2 : Code := { maxStack := 3, maxLocals := 3, code := jdk_65_method_136_code, exceptionTable := #[], attributes := #[] }
def k17m2 : Method := { name := "copyOfRange", desc := "([III)[I", sig := { parameters := [(.array .int), .int, .int], returnType := some (.array .int) }, accessFlags := 9, code := some k17c2 }
def k17c3 : Code := { maxStack := 6, maxLocals := 5, code := jdk_65_method_137_code, exceptionTable := #[], attributes := #[] }
def k17m3 : Method := { name := "copyOfRangeInt", desc := "([III)[I", sig := { parameters := [(.array .int), .int, .int], returnType := some (.array .int) }, accessFlags := 10, code := some k17c3 }
/-- java/util/Arrays -/
def k17 : Class := { plain "java/util/Arrays" (some 0) with
  accessFlags := 49
  interfaces := #[]
  cf := some (fileOf pool17 14 #[.nestMembers #[975, 375, 113, 74]] #[{ accessFlags := 2, nameIndex := 5, descriptorIndex := 6, attributes := #[] }, { accessFlags := 10, nameIndex := 345, descriptorIndex := 346, attributes := #[] }, { accessFlags := 9, nameIndex := 139, descriptorIndex := 354, attributes := #[] }, { accessFlags := 10, nameIndex := 353, descriptorIndex := 354, attributes := #[] }] 49 2 #[] #[{ accessFlags := 26, nameIndex := 715, descriptorIndex := 716, attributes := #[] }, { accessFlags := 26, nameIndex := 719, descriptorIndex := 716, attributes := #[] }, { accessFlags := 4120, nameIndex := 445, descriptorIndex := 117, attributes := #[] }])
  fields := #[{ name := "MIN_ARRAY_SORT_GRAN", type := .int, accessFlags := 26, slot := 0, constantValue := 0 }, { name := "INSERTIONSORT_THRESHOLD", type := .int, accessFlags := 26, slot := 1, constantValue := 0 }, { name := "$assertionsDisabled", type := .boolean, accessFlags := 4120, slot := 2, constantValue := 0 }]
  methods := #[k17m0, k17m1, k17m2, k17m3]
  instanceTypes := #[]
  staticTypes := #[.int, .int, .boolean]
  resolved := Array.replicate 1029 none
  statics := none }

def pool18 : Array CpInfo := pool [(1, .class_ 2), (0, u "java/lang/Math"), (1, .class_ 6), (1, u "java/lang/Object"), (0, u "<init>"), (0, u "()V"), (89, .class_ 100), (1, u "java/lang/Math$RandomNumberGeneratorHolder"), (71, u "negativeZeroFloatBits"), (0, u "J"), (2, u "negativeZeroDoubleBits"), (24, u "min"), (43, u "$assertionsDisabled"), (0, u "Z"), (88, u "(II)I"), (2, u "twoToTheDoubleScaleDown"), (0, u "D"), (4, u "twoToTheDoubleScaleUp"), (9, u "E"), (3, u "PI"), (2, u "TAU"), (2, u "DEGREES_TO_RADIANS"), (0, u "RADIANS_TO_DEGREES")] 94

def k18m0 : Method := { name := "<init>", desc := "()V", sig := { parameters := [], returnType := none }, accessFlags := 2, code := none }
def k18c1 : Code := { maxStack := 2, maxLocals := 2, code := jdk_29_method_69_code, exceptionTable := #[], attributes := #[] }
def k18m1 : Method := { name := "min", desc := "(II)I", sig := { parameters := [.int, .int], returnType := some .int }, accessFlags := 9, code := some k18c1 }
/-- java/lang/Math -/
def k18 : Class := { plain "java/lang/Math" (some 0) with
  accessFlags := 49
  interfaces := #[]
  cf := some (fileOf pool18 1 #[.nestMembers #[98]] #[{ accessFlags := 2, nameIndex := 7, descriptorIndex := 8, attributes := #[] }, { accessFlags := 9, nameIndex := 201, descriptorIndex := 335, attributes := #[] }] 49 4 #[] #[{ accessFlags := 25, nameIndex := 354, descriptorIndex := 339, attributes := #[] }, { accessFlags := 25, nameIndex := 358, descriptorIndex := 339, attributes := #[] }, { accessFlags := 25, nameIndex := 361, descriptorIndex := 339, attributes := #[] }, { accessFlags := 26, nameIndex := 364, descriptorIndex := 339, attributes := #[] }, { accessFlags := 26, nameIndex := 365, descriptorIndex := 339, attributes := #[] }, { accessFlags := 26, nameIndex := 172, descriptorIndex := 173, attributes := #[] }, { accessFlags := 26, nameIndex := 176, descriptorIndex := 173, attributes := #[] }, { accessFlags := 8, nameIndex := 344, descriptorIndex := 339, attributes := #[] }, { accessFlags := 8, nameIndex := 338, descriptorIndex := 339, attributes := #[] }, { accessFlags := 4120, nameIndex := 245, descriptorIndex := 246, attributes := #[] }])
  fields := #[{ name := "E", type := .double, accessFlags := 25, slot := 0, constantValue := 0 }, { name := "PI", type := .double, accessFlags := 25, slot := 1, constantValue := 0 }, { name := "TAU", type := .double, accessFlags := 25, slot := 2, constantValue := 0 }, { name := "DEGREES_TO_RADIANS", type := .double, accessFlags := 26, slot := 3, constantValue := 0 }, { name := "RADIANS_TO_DEGREES", type := .double, accessFlags := 26, slot := 4, constantValue := 0 }, { name := "negativeZeroFloatBits", type := .long, accessFlags := 26, slot := 5, constantValue := 0 }, { name := "negativeZeroDoubleBits", type := .long, accessFlags := 26, slot := 6, constantValue := 0 }, { name := "twoToTheDoubleScaleUp", type := .double, accessFlags := 8, slot := 7, constantValue := 0 }, { name := "twoToTheDoubleScaleDown", type := .double, accessFlags := 8, slot := 8, constantValue := 0 }, { name := "$assertionsDisabled", type := .boolean, accessFlags := 4120, slot := 9, constantValue := 0 }]
  methods := #[k18m0, k18m1]
  instanceTypes := #[]
  staticTypes := #[.double, .double, .double, .double, .double, .long, .long, .double, .double, .boolean]
  resolved := Array.replicate 460 none
  statics := none }

def pool19 : Array CpInfo := pool [(2, .class_ 4), (1, u "java/lang/Object"), (0, u "<init>"), (0, u "()V"), (1, .class_ 10), (1, u "java/lang/System"), (0, u "allowSecurityManager"), (0, u "I"), (16, u "cons"), (0, u "Ljava/io/Console;"), (77, .class_ 110), (1, u "java/lang/System$CallersHolder"), (43, u "initialErrStream"), (0, u "Ljava/io/PrintStream;"), (19, u "security"), (0, u "Ljava/lang/SecurityManager;"), (31, .class_ 209), (0, u "java/lang/System$1"), (7, u "props"), (0, u "Ljava/util/Properties;"), (2, u "lineSeparator"), (0, u "Ljava/lang/String;"), (96, .class_ 321), (1, u "java/lang/System$LoggerFinder"), (5, .class_ 328), (0, u "java/lang/System$Logger"), (67, u "err"), (2, u "out"), (91, u "notSupportedJnuEncoding"), (15, u "in"), (17, u "initialIn"), (0, u "Ljava/io/InputStream;"), (35, u "bootLayer"), (0, u "Ljava/lang/ModuleLayer;"), (99, .class_ 664), (0, u "java/lang/System$2"), (9, u "NEVER"), (2, u "MAYBE"), (49, u "arraycopy"), (0, u "(Ljava/lang/Object;ILjava/lang/Object;II)V"), (72, .class_ 802), (0, u "java/lang/System$Logger$Level")] 31

def k19m0 : Method := { name := "<init>", desc := "()V", sig := { parameters := [], returnType := none }, accessFlags := 2, code := none }
def k19m1 : Method := { name := "arraycopy", desc := "(Ljava/lang/Object;ILjava/lang/Object;II)V", sig := { parameters := [(.object "java/lang/Object"), .int, (.object "java/lang/Object"), .int, .int], returnType := none }, accessFlags := 265, code := none }
/-- java/lang/System -/
def k19 : Class := { plain "java/lang/System" (some 0) with
  accessFlags := 49
  interfaces := #[]
  cf := some (fileOf pool19 8 #[.nestMembers #[319, 327, 801, 108, 663, 208]] #[{ accessFlags := 2, nameIndex := 5, descriptorIndex := 6, attributes := #[] }, { accessFlags := 265, nameIndex := 727, descriptorIndex := 728, attributes := #[] }] 49 2 #[] #[{ accessFlags := 25, nameIndex := 507, descriptorIndex := 526, attributes := #[] }, { accessFlags := 25, nameIndex := 399, descriptorIndex := 155, attributes := #[] }, { accessFlags := 25, nameIndex := 396, descriptorIndex := 155, attributes := #[] }, { accessFlags := 10, nameIndex := 525, descriptorIndex := 526, attributes := #[] }, { accessFlags := 26, nameIndex := 674, descriptorIndex := 12, attributes := #[] }, { accessFlags := 26, nameIndex := 677, descriptorIndex := 12, attributes := #[] }, { accessFlags := 10, nameIndex := 11, descriptorIndex := 12, attributes := #[] }, { accessFlags := 74, nameIndex := 175, descriptorIndex := 176, attributes := #[] }, { accessFlags := 10, nameIndex := 491, descriptorIndex := 222, attributes := #[] }, { accessFlags := 74, nameIndex := 29, descriptorIndex := 30, attributes := #[] }, { accessFlags := 74, nameIndex := 154, descriptorIndex := 155, attributes := #[] }, { accessFlags := 10, nameIndex := 217, descriptorIndex := 218, attributes := #[] }, { accessFlags := 10, nameIndex := 221, descriptorIndex := 222, attributes := #[] }, { accessFlags := 8, nameIndex := 562, descriptorIndex := 563, attributes := #[] }])
  fields := #[{ name := "in", type := (.object "java/io/InputStream"), accessFlags := 25, slot := 0, constantValue := 0 }, { name := "out", type := (.object "java/io/PrintStream"), accessFlags := 25, slot := 1, constantValue := 0 }, { name := "err", type := (.object "java/io/PrintStream"), accessFlags := 25, slot := 2, constantValue := 0 }, { name := "initialIn", type := (.object "java/io/InputStream"), accessFlags := 10, slot := 3, constantValue := 0 }, { name := "NEVER", type := .int, accessFlags := 26, slot := 4, constantValue := 0 }, { name := "MAYBE", type := .int, accessFlags := 26, slot := 5, constantValue := 0 }, { name := "allowSecurityManager", type := .int, accessFlags := 10, slot := 6, constantValue := 0 }, { name := "security", type := (.object "java/lang/SecurityManager"), accessFlags := 74, slot := 7, constantValue := 0 }, { name := "notSupportedJnuEncoding", type := (.object "java/lang/String"), accessFlags := 10, slot := 8, constantValue := 0 }, { name := "cons", type := (.object "java/io/Console"), accessFlags := 74, slot := 9, constantValue := 0 }, { name := "initialErrStream", type := (.object "java/io/PrintStream"), accessFlags := 74, slot := 10, constantValue := 0 }, { name := "props", type := (.object "java/util/Properties"), accessFlags := 10, slot := 11, constantValue := 0 }, { name := "lineSeparator", type := (.object "java/lang/String"), accessFlags := 10, slot := 12, constantValue := 0 }, { name := "bootLayer", type := (.object "java/lang/ModuleLayer"), accessFlags := 8, slot := 13, constantValue := 0 }]
  methods := #[k19m0, k19m1]
  instanceTypes := #[]
  staticTypes := #[(.object "java/io/InputStream"), (.object "java/io/PrintStream"), (.object "java/io/PrintStream"), (.object "java/io/InputStream"), .int, .int, .int, (.object "java/lang/SecurityManager"), (.object "java/lang/String"), (.object "java/io/Console"), (.object "java/io/PrintStream"), (.object "java/util/Properties"), (.object "java/lang/String"), (.object "java/lang/ModuleLayer")]
  resolved := Array.replicate 834 none
  statics := none }

def pool20 : Array CpInfo := pool [(2, .class_ 4), (1, u "java/lang/Object"), (0, u "<init>"), (0, u "()V"), (35, .class_ 44), (1, u "java/util/Objects"), (0, u "requireNonNull"), (0, u "(Ljava/lang/Object;)Ljava/lang/Object;"), (59, .class_ 108), (1, u "jdk/internal/util/Preconditions"), (2, .methodref 106 112), (0, .nameAndType 113 114), (0, u "checkFromToIndex"), (0, u "(IIILjava/util/function/BiFunction;)I"), (60, u "(III)I")] 8

def k20m0 : Method := { name := "<init>", desc := "()V", sig := { parameters := [], returnType := none }, accessFlags := 2, code := none }
def k20c1 : Code := { maxStack := 2, maxLocals := 1, code := jdk_31_method_10_code, exceptionTable := #[], attributes := #[] }
def k20m1 : Method := { name := "requireNonNull", desc := "(Ljava/lang/Object;)Ljava/lang/Object;", sig := { parameters := [(.object "java/lang/Object")], returnType := some (.object "java/lang/Object") }, accessFlags := 9, code := some k20c1 }
def k20c2 : Code := { maxStack := 4, maxLocals := 3, code := jdk_31_method_18_code, exceptionTable := #[], attributes := #[] }
def k20m2 : Method := { name := "checkFromToIndex", desc := "(III)I", sig := { parameters := [.int, .int, .int], returnType := some .int }, accessFlags := 9, code := some k20c2 }
/-- java/util/Objects -/
def k20 : Class := { plain "java/util/Objects" (some 0) with
  accessFlags := 49
  interfaces := #[]
  cf := some (fileOf pool20 42 #[] #[{ accessFlags := 2, nameIndex := 5, descriptorIndex := 6, attributes := #[] }, { accessFlags := 9, nameIndex := 45, descriptorIndex := 46, attributes := #[] }, { accessFlags := 9, nameIndex := 113, descriptorIndex := 175, attributes := #[] }] 49 2 #[] #[])
  fields := #[]
  methods := #[k20m0, k20m1, k20m2]
  instanceTypes := #[]
  staticTypes := #[]
  resolved := Array.replicate 184 none
  statics := none }

def pool21 : Array CpInfo := pool [(2, .class_ 4), (1, u "java/lang/Object"), (0, u "<init>"), (0, u "()V"), (17, .class_ 26), (1, u "jdk/internal/util/Preconditions"), (20, u "checkFromToIndex"), (7, .class_ 56), (0, u "jdk/internal/util/Preconditions$4"), (57, .class_ 115), (0, u "jdk/internal/util/Preconditions$1"), (7, u "SIOOBE_FORMATTER"), (0, u "Ljava/util/function/BiFunction;"), (0, .class_ 126), (0, u "jdk/internal/util/Preconditions$2"), (3, u "AIOOBE_FORMATTER"), (0, .class_ 132), (0, u "jdk/internal/util/Preconditions$3"), (3, u "IOOBE_FORMATTER"), (46, u "(IIILjava/util/function/BiFunction;)I")] 10

def k21m0 : Method := { name := "<init>", desc := "()V", sig := { parameters := [], returnType := none }, accessFlags := 1, code := none }
def k21c1 : Code := { maxStack := 4, maxLocals := 4, code := jdk_41_method_12_code, exceptionTable := #[], attributes := #[] }
def k21m1 : Method := { name := "checkFromToIndex", desc := "(IIILjava/util/function/BiFunction;)I", sig := { parameters := [.int, .int, .int, (.object "java/util/function/BiFunction")], returnType := some .int }, accessFlags := 9, code := some k21c1 }
/-- jdk/internal/util/Preconditions -/
def k21 : Class := { plain "jdk/internal/util/Preconditions" (some 0) with
  accessFlags := 33
  interfaces := #[]
  cf := some (fileOf pool21 24 #[.nestMembers #[55, 131, 125, 114]] #[{ accessFlags := 1, nameIndex := 5, descriptorIndex := 6, attributes := #[] }, { accessFlags := 9, nameIndex := 47, descriptorIndex := 183, attributes := #[] }] 33 2 #[] #[{ accessFlags := 25, nameIndex := 123, descriptorIndex := 124, attributes := #[] }, { accessFlags := 25, nameIndex := 130, descriptorIndex := 124, attributes := #[] }, { accessFlags := 25, nameIndex := 136, descriptorIndex := 124, attributes := #[] }])
  fields := #[{ name := "SIOOBE_FORMATTER", type := (.object "java/util/function/BiFunction"), accessFlags := 25, slot := 0, constantValue := 0 }, { name := "AIOOBE_FORMATTER", type := (.object "java/util/function/BiFunction"), accessFlags := 25, slot := 1, constantValue := 0 }, { name := "IOOBE_FORMATTER", type := (.object "java/util/function/BiFunction"), accessFlags := 25, slot := 2, constantValue := 0 }]
  methods := #[k21m0, k21m1]
  instanceTypes := #[]
  staticTypes := #[(.object "java/util/function/BiFunction"), (.object "java/util/function/BiFunction"), (.object "java/util/function/BiFunction")]
  resolved := Array.replicate 194 none
  statics := none }

def pool22 : Array CpInfo := pool [(1, u "java/lang/Cloneable"), (0, .class_ 1), (0, u "java/lang/Object"), (0, .class_ 3)] 3

/-- java/lang/Cloneable -/
def k22 : Class := { plain "java/lang/Cloneable" (some 0) with
  accessFlags := 1537
  interfaces := #[]
  cf := some (fileOf pool22 2 #[] #[] 1537 4 #[] #[])
  fields := #[]
  methods := #[]
  instanceTypes := #[]
  staticTypes := #[]
  resolved := Array.replicate 8 none
  statics := none }

/-- the primitive byte -/
def k23 : Class := { plain "byte" none with kind := .primitive 'B', accessFlags := 0x411 }
/-- [B -/
def k24 : Class := { plain "[B" (some 0) with kind := .array 23 .byte, interfaces := #[22, 4], accessFlags := 1041 }

/-- the primitive int -/
def k25 : Class := { plain "int" none with kind := .primitive 'I', accessFlags := 0x411 }
/-- [I -/
def k26 : Class := { plain "[I" (some 0) with kind := .array 25 .int, interfaces := #[22, 4], accessFlags := 1041 }

/-- [Ljava/lang/Integer; -/
def k27 : Class := { plain "[Ljava/lang/Integer;" (some 0) with kind := .array 14 (.object "java/lang/Integer"), interfaces := #[22, 4], accessFlags := 1041 }

/-- [Ljava/math/BigInteger; -/
def k28 : Class := { plain "[Ljava/math/BigInteger;" (some 0) with kind := .array 16 (.object "java/math/BigInteger"), interfaces := #[22, 4], accessFlags := 1041 }

def heap : Heap := #[{ cls := 6, slots := #[.ref 262, .ref 263, .null], vm := .statics 6 },
  { cls := 7, slots := #[.ref 264, .ref 265, .null], vm := .statics 7 },
  { cls := 8, slots := #[.ref 267, .ref 266, .null], vm := .statics 8 },
  { cls := 15, slots := #[.int 0, .int 127, .ref 261, .null, .int 0], vm := .statics 15 },
  { cls := 16, slots := #[.long 0, .int 0, .int 0, .int 0, .int 0, .int 0, .int 0, .int 0, .int 0, .int 0, .int 0, .int 0, .null, .int 0, .int 0, .null, .int 0, .ref 302, .null, .null, .null, .double 0, .ref 285, .ref 286, .ref 287, .null, .ref 295, .null, .int 0, .null, .null, .null, .null, .null, .long 0, .null, .int 0], vm := .statics 16 },
  { cls := 14, slots := #[.int (-128)], vm := .none },
  { cls := 14, slots := #[.int (-127)], vm := .none },
  { cls := 14, slots := #[.int (-126)], vm := .none },
  { cls := 14, slots := #[.int (-125)], vm := .none },
  { cls := 14, slots := #[.int (-124)], vm := .none },
  { cls := 14, slots := #[.int (-123)], vm := .none },
  { cls := 14, slots := #[.int (-122)], vm := .none },
  { cls := 14, slots := #[.int (-121)], vm := .none },
  { cls := 14, slots := #[.int (-120)], vm := .none },
  { cls := 14, slots := #[.int (-119)], vm := .none },
  { cls := 14, slots := #[.int (-118)], vm := .none },
  { cls := 14, slots := #[.int (-117)], vm := .none },
  { cls := 14, slots := #[.int (-116)], vm := .none },
  { cls := 14, slots := #[.int (-115)], vm := .none },
  { cls := 14, slots := #[.int (-114)], vm := .none },
  { cls := 14, slots := #[.int (-113)], vm := .none },
  { cls := 14, slots := #[.int (-112)], vm := .none },
  { cls := 14, slots := #[.int (-111)], vm := .none },
  { cls := 14, slots := #[.int (-110)], vm := .none },
  { cls := 14, slots := #[.int (-109)], vm := .none },
  { cls := 14, slots := #[.int (-108)], vm := .none },
  { cls := 14, slots := #[.int (-107)], vm := .none },
  { cls := 14, slots := #[.int (-106)], vm := .none },
  { cls := 14, slots := #[.int (-105)], vm := .none },
  { cls := 14, slots := #[.int (-104)], vm := .none },
  { cls := 14, slots := #[.int (-103)], vm := .none },
  { cls := 14, slots := #[.int (-102)], vm := .none },
  { cls := 14, slots := #[.int (-101)], vm := .none },
  { cls := 14, slots := #[.int (-100)], vm := .none },
  { cls := 14, slots := #[.int (-99)], vm := .none },
  { cls := 14, slots := #[.int (-98)], vm := .none },
  { cls := 14, slots := #[.int (-97)], vm := .none },
  { cls := 14, slots := #[.int (-96)], vm := .none },
  { cls := 14, slots := #[.int (-95)], vm := .none },
  { cls := 14, slots := #[.int (-94)], vm := .none },
  { cls := 14, slots := #[.int (-93)], vm := .none },
  { cls := 14, slots := #[.int (-92)], vm := .none },
  { cls := 14, slots := #[.int (-91)], vm := .none },
  { cls := 14, slots := #[.int (-90)], vm := .none },
  { cls := 14, slots := #[.int (-89)], vm := .none },
  { cls := 14, slots := #[.int (-88)], vm := .none },
  { cls := 14, slots := #[.int (-87)], vm := .none },
  { cls := 14, slots := #[.int (-86)], vm := .none },
  { cls := 14, slots := #[.int (-85)], vm := .none },
  { cls := 14, slots := #[.int (-84)], vm := .none },
  { cls := 14, slots := #[.int (-83)], vm := .none },
  { cls := 14, slots := #[.int (-82)], vm := .none },
  { cls := 14, slots := #[.int (-81)], vm := .none },
  { cls := 14, slots := #[.int (-80)], vm := .none },
  { cls := 14, slots := #[.int (-79)], vm := .none },
  { cls := 14, slots := #[.int (-78)], vm := .none },
  { cls := 14, slots := #[.int (-77)], vm := .none },
  { cls := 14, slots := #[.int (-76)], vm := .none },
  { cls := 14, slots := #[.int (-75)], vm := .none },
  { cls := 14, slots := #[.int (-74)], vm := .none },
  { cls := 14, slots := #[.int (-73)], vm := .none },
  { cls := 14, slots := #[.int (-72)], vm := .none },
  { cls := 14, slots := #[.int (-71)], vm := .none },
  { cls := 14, slots := #[.int (-70)], vm := .none },
  { cls := 14, slots := #[.int (-69)], vm := .none },
  { cls := 14, slots := #[.int (-68)], vm := .none },
  { cls := 14, slots := #[.int (-67)], vm := .none },
  { cls := 14, slots := #[.int (-66)], vm := .none },
  { cls := 14, slots := #[.int (-65)], vm := .none },
  { cls := 14, slots := #[.int (-64)], vm := .none },
  { cls := 14, slots := #[.int (-63)], vm := .none },
  { cls := 14, slots := #[.int (-62)], vm := .none },
  { cls := 14, slots := #[.int (-61)], vm := .none },
  { cls := 14, slots := #[.int (-60)], vm := .none },
  { cls := 14, slots := #[.int (-59)], vm := .none },
  { cls := 14, slots := #[.int (-58)], vm := .none },
  { cls := 14, slots := #[.int (-57)], vm := .none },
  { cls := 14, slots := #[.int (-56)], vm := .none },
  { cls := 14, slots := #[.int (-55)], vm := .none },
  { cls := 14, slots := #[.int (-54)], vm := .none },
  { cls := 14, slots := #[.int (-53)], vm := .none },
  { cls := 14, slots := #[.int (-52)], vm := .none },
  { cls := 14, slots := #[.int (-51)], vm := .none },
  { cls := 14, slots := #[.int (-50)], vm := .none },
  { cls := 14, slots := #[.int (-49)], vm := .none },
  { cls := 14, slots := #[.int (-48)], vm := .none },
  { cls := 14, slots := #[.int (-47)], vm := .none },
  { cls := 14, slots := #[.int (-46)], vm := .none },
  { cls := 14, slots := #[.int (-45)], vm := .none },
  { cls := 14, slots := #[.int (-44)], vm := .none },
  { cls := 14, slots := #[.int (-43)], vm := .none },
  { cls := 14, slots := #[.int (-42)], vm := .none },
  { cls := 14, slots := #[.int (-41)], vm := .none },
  { cls := 14, slots := #[.int (-40)], vm := .none },
  { cls := 14, slots := #[.int (-39)], vm := .none },
  { cls := 14, slots := #[.int (-38)], vm := .none },
  { cls := 14, slots := #[.int (-37)], vm := .none },
  { cls := 14, slots := #[.int (-36)], vm := .none },
  { cls := 14, slots := #[.int (-35)], vm := .none },
  { cls := 14, slots := #[.int (-34)], vm := .none },
  { cls := 14, slots := #[.int (-33)], vm := .none },
  { cls := 14, slots := #[.int (-32)], vm := .none },
  { cls := 14, slots := #[.int (-31)], vm := .none },
  { cls := 14, slots := #[.int (-30)], vm := .none },
  { cls := 14, slots := #[.int (-29)], vm := .none },
  { cls := 14, slots := #[.int (-28)], vm := .none },
  { cls := 14, slots := #[.int (-27)], vm := .none },
  { cls := 14, slots := #[.int (-26)], vm := .none },
  { cls := 14, slots := #[.int (-25)], vm := .none },
  { cls := 14, slots := #[.int (-24)], vm := .none },
  { cls := 14, slots := #[.int (-23)], vm := .none },
  { cls := 14, slots := #[.int (-22)], vm := .none },
  { cls := 14, slots := #[.int (-21)], vm := .none },
  { cls := 14, slots := #[.int (-20)], vm := .none },
  { cls := 14, slots := #[.int (-19)], vm := .none },
  { cls := 14, slots := #[.int (-18)], vm := .none },
  { cls := 14, slots := #[.int (-17)], vm := .none },
  { cls := 14, slots := #[.int (-16)], vm := .none },
  { cls := 14, slots := #[.int (-15)], vm := .none },
  { cls := 14, slots := #[.int (-14)], vm := .none },
  { cls := 14, slots := #[.int (-13)], vm := .none },
  { cls := 14, slots := #[.int (-12)], vm := .none },
  { cls := 14, slots := #[.int (-11)], vm := .none },
  { cls := 14, slots := #[.int (-10)], vm := .none },
  { cls := 14, slots := #[.int (-9)], vm := .none },
  { cls := 14, slots := #[.int (-8)], vm := .none },
  { cls := 14, slots := #[.int (-7)], vm := .none },
  { cls := 14, slots := #[.int (-6)], vm := .none },
  { cls := 14, slots := #[.int (-5)], vm := .none },
  { cls := 14, slots := #[.int (-4)], vm := .none },
  { cls := 14, slots := #[.int (-3)], vm := .none },
  { cls := 14, slots := #[.int (-2)], vm := .none },
  { cls := 14, slots := #[.int (-1)], vm := .none },
  { cls := 14, slots := #[.int 0], vm := .none },
  { cls := 14, slots := #[.int 1], vm := .none },
  { cls := 14, slots := #[.int 2], vm := .none },
  { cls := 14, slots := #[.int 3], vm := .none },
  { cls := 14, slots := #[.int 4], vm := .none },
  { cls := 14, slots := #[.int 5], vm := .none },
  { cls := 14, slots := #[.int 6], vm := .none },
  { cls := 14, slots := #[.int 7], vm := .none },
  { cls := 14, slots := #[.int 8], vm := .none },
  { cls := 14, slots := #[.int 9], vm := .none },
  { cls := 14, slots := #[.int 10], vm := .none },
  { cls := 14, slots := #[.int 11], vm := .none },
  { cls := 14, slots := #[.int 12], vm := .none },
  { cls := 14, slots := #[.int 13], vm := .none },
  { cls := 14, slots := #[.int 14], vm := .none },
  { cls := 14, slots := #[.int 15], vm := .none },
  { cls := 14, slots := #[.int 16], vm := .none },
  { cls := 14, slots := #[.int 17], vm := .none },
  { cls := 14, slots := #[.int 18], vm := .none },
  { cls := 14, slots := #[.int 19], vm := .none },
  { cls := 14, slots := #[.int 20], vm := .none },
  { cls := 14, slots := #[.int 21], vm := .none },
  { cls := 14, slots := #[.int 22], vm := .none },
  { cls := 14, slots := #[.int 23], vm := .none },
  { cls := 14, slots := #[.int 24], vm := .none },
  { cls := 14, slots := #[.int 25], vm := .none },
  { cls := 14, slots := #[.int 26], vm := .none },
  { cls := 14, slots := #[.int 27], vm := .none },
  { cls := 14, slots := #[.int 28], vm := .none },
  { cls := 14, slots := #[.int 29], vm := .none },
  { cls := 14, slots := #[.int 30], vm := .none },
  { cls := 14, slots := #[.int 31], vm := .none },
  { cls := 14, slots := #[.int 32], vm := .none },
  { cls := 14, slots := #[.int 33], vm := .none },
  { cls := 14, slots := #[.int 34], vm := .none },
  { cls := 14, slots := #[.int 35], vm := .none },
  { cls := 14, slots := #[.int 36], vm := .none },
  { cls := 14, slots := #[.int 37], vm := .none },
  { cls := 14, slots := #[.int 38], vm := .none },
  { cls := 14, slots := #[.int 39], vm := .none },
  { cls := 14, slots := #[.int 40], vm := .none },
  { cls := 14, slots := #[.int 41], vm := .none },
  { cls := 14, slots := #[.int 42], vm := .none },
  { cls := 14, slots := #[.int 43], vm := .none },
  { cls := 14, slots := #[.int 44], vm := .none },
  { cls := 14, slots := #[.int 45], vm := .none },
  { cls := 14, slots := #[.int 46], vm := .none },
  { cls := 14, slots := #[.int 47], vm := .none },
  { cls := 14, slots := #[.int 48], vm := .none },
  { cls := 14, slots := #[.int 49], vm := .none },
  { cls := 14, slots := #[.int 50], vm := .none },
  { cls := 14, slots := #[.int 51], vm := .none },
  { cls := 14, slots := #[.int 52], vm := .none },
  { cls := 14, slots := #[.int 53], vm := .none },
  { cls := 14, slots := #[.int 54], vm := .none },
  { cls := 14, slots := #[.int 55], vm := .none },
  { cls := 14, slots := #[.int 56], vm := .none },
  { cls := 14, slots := #[.int 57], vm := .none },
  { cls := 14, slots := #[.int 58], vm := .none },
  { cls := 14, slots := #[.int 59], vm := .none },
  { cls := 14, slots := #[.int 60], vm := .none },
  { cls := 14, slots := #[.int 61], vm := .none },
  { cls := 14, slots := #[.int 62], vm := .none },
  { cls := 14, slots := #[.int 63], vm := .none },
  { cls := 14, slots := #[.int 64], vm := .none },
  { cls := 14, slots := #[.int 65], vm := .none },
  { cls := 14, slots := #[.int 66], vm := .none },
  { cls := 14, slots := #[.int 67], vm := .none },
  { cls := 14, slots := #[.int 68], vm := .none },
  { cls := 14, slots := #[.int 69], vm := .none },
  { cls := 14, slots := #[.int 70], vm := .none },
  { cls := 14, slots := #[.int 71], vm := .none },
  { cls := 14, slots := #[.int 72], vm := .none },
  { cls := 14, slots := #[.int 73], vm := .none },
  { cls := 14, slots := #[.int 74], vm := .none },
  { cls := 14, slots := #[.int 75], vm := .none },
  { cls := 14, slots := #[.int 76], vm := .none },
  { cls := 14, slots := #[.int 77], vm := .none },
  { cls := 14, slots := #[.int 78], vm := .none },
  { cls := 14, slots := #[.int 79], vm := .none },
  { cls := 14, slots := #[.int 80], vm := .none },
  { cls := 14, slots := #[.int 81], vm := .none },
  { cls := 14, slots := #[.int 82], vm := .none },
  { cls := 14, slots := #[.int 83], vm := .none },
  { cls := 14, slots := #[.int 84], vm := .none },
  { cls := 14, slots := #[.int 85], vm := .none },
  { cls := 14, slots := #[.int 86], vm := .none },
  { cls := 14, slots := #[.int 87], vm := .none },
  { cls := 14, slots := #[.int 88], vm := .none },
  { cls := 14, slots := #[.int 89], vm := .none },
  { cls := 14, slots := #[.int 90], vm := .none },
  { cls := 14, slots := #[.int 91], vm := .none },
  { cls := 14, slots := #[.int 92], vm := .none },
  { cls := 14, slots := #[.int 93], vm := .none },
  { cls := 14, slots := #[.int 94], vm := .none },
  { cls := 14, slots := #[.int 95], vm := .none },
  { cls := 14, slots := #[.int 96], vm := .none },
  { cls := 14, slots := #[.int 97], vm := .none },
  { cls := 14, slots := #[.int 98], vm := .none },
  { cls := 14, slots := #[.int 99], vm := .none },
  { cls := 14, slots := #[.int 100], vm := .none },
  { cls := 14, slots := #[.int 101], vm := .none },
  { cls := 14, slots := #[.int 102], vm := .none },
  { cls := 14, slots := #[.int 103], vm := .none },
  { cls := 14, slots := #[.int 104], vm := .none },
  { cls := 14, slots := #[.int 105], vm := .none },
  { cls := 14, slots := #[.int 106], vm := .none },
  { cls := 14, slots := #[.int 107], vm := .none },
  { cls := 14, slots := #[.int 108], vm := .none },
  { cls := 14, slots := #[.int 109], vm := .none },
  { cls := 14, slots := #[.int 110], vm := .none },
  { cls := 14, slots := #[.int 111], vm := .none },
  { cls := 14, slots := #[.int 112], vm := .none },
  { cls := 14, slots := #[.int 113], vm := .none },
  { cls := 14, slots := #[.int 114], vm := .none },
  { cls := 14, slots := #[.int 115], vm := .none },
  { cls := 14, slots := #[.int 116], vm := .none },
  { cls := 14, slots := #[.int 117], vm := .none },
  { cls := 14, slots := #[.int 118], vm := .none },
  { cls := 14, slots := #[.int 119], vm := .none },
  { cls := 14, slots := #[.int 120], vm := .none },
  { cls := 14, slots := #[.int 121], vm := .none },
  { cls := 14, slots := #[.int 122], vm := .none },
  { cls := 14, slots := #[.int 123], vm := .none },
  { cls := 14, slots := #[.int 124], vm := .none },
  { cls := 14, slots := #[.int 125], vm := .none },
  { cls := 14, slots := #[.int 126], vm := .none },
  { cls := 14, slots := #[.int 127], vm := .none },
  { cls := 27, slots := #[.ref 5, .ref 6, .ref 7, .ref 8, .ref 9, .ref 10, .ref 11, .ref 12, .ref 13, .ref 14, .ref 15, .ref 16, .ref 17, .ref 18, .ref 19, .ref 20, .ref 21, .ref 22, .ref 23, .ref 24, .ref 25, .ref 26, .ref 27, .ref 28, .ref 29, .ref 30, .ref 31, .ref 32, .ref 33, .ref 34, .ref 35, .ref 36, .ref 37, .ref 38, .ref 39, .ref 40, .ref 41, .ref 42, .ref 43, .ref 44, .ref 45, .ref 46, .ref 47, .ref 48, .ref 49, .ref 50, .ref 51, .ref 52, .ref 53, .ref 54, .ref 55, .ref 56, .ref 57, .ref 58, .ref 59, .ref 60, .ref 61, .ref 62, .ref 63, .ref 64, .ref 65, .ref 66, .ref 67, .ref 68, .ref 69, .ref 70, .ref 71, .ref 72, .ref 73, .ref 74, .ref 75, .ref 76, .ref 77, .ref 78, .ref 79, .ref 80, .ref 81, .ref 82, .ref 83, .ref 84, .ref 85, .ref 86, .ref 87, .ref 88, .ref 89, .ref 90, .ref 91, .ref 92, .ref 93, .ref 94, .ref 95, .ref 96, .ref 97, .ref 98, .ref 99, .ref 100, .ref 101, .ref 102, .ref 103, .ref 104, .ref 105, .ref 106, .ref 107, .ref 108, .ref 109, .ref 110, .ref 111, .ref 112, .ref 113, .ref 114, .ref 115, .ref 116, .ref 117, .ref 118, .ref 119, .ref 120, .ref 121, .ref 122, .ref 123, .ref 124, .ref 125, .ref 126, .ref 127, .ref 128, .ref 129, .ref 130, .ref 131, .ref 132, .ref 133, .ref 134, .ref 135, .ref 136, .ref 137, .ref 138, .ref 139, .ref 140, .ref 141, .ref 142, .ref 143, .ref 144, .ref 145, .ref 146, .ref 147, .ref 148, .ref 149, .ref 150, .ref 151, .ref 152, .ref 153, .ref 154, .ref 155, .ref 156, .ref 157, .ref 158, .ref 159, .ref 160, .ref 161, .ref 162, .ref 163, .ref 164, .ref 165, .ref 166, .ref 167, .ref 168, .ref 169, .ref 170, .ref 171, .ref 172, .ref 173, .ref 174, .ref 175, .ref 176, .ref 177, .ref 178, .ref 179, .ref 180, .ref 181, .ref 182, .ref 183, .ref 184, .ref 185, .ref 186, .ref 187, .ref 188, .ref 189, .ref 190, .ref 191, .ref 192, .ref 193, .ref 194, .ref 195, .ref 196, .ref 197, .ref 198, .ref 199, .ref 200, .ref 201, .ref 202, .ref 203, .ref 204, .ref 205, .ref 206, .ref 207, .ref 208, .ref 209, .ref 210, .ref 211, .ref 212, .ref 213, .ref 214, .ref 215, .ref 216, .ref 217, .ref 218, .ref 219, .ref 220, .ref 221, .ref 222, .ref 223, .ref 224, .ref 225, .ref 226, .ref 227, .ref 228, .ref 229, .ref 230, .ref 231, .ref 232, .ref 233, .ref 234, .ref 235, .ref 236, .ref 237, .ref 238, .ref 239, .ref 240, .ref 241, .ref 242, .ref 243, .ref 244, .ref 245, .ref 246, .ref 247, .ref 248, .ref 249, .ref 250, .ref 251, .ref 252, .ref 253, .ref 254, .ref 255, .ref 256, .ref 257, .ref 258, .ref 259, .ref 260], vm := .none },
  { cls := 6, slots := #[.null, .int 0, .int 0], vm := .none },
  { cls := 6, slots := #[.null, .int 1, .int 0], vm := .none },
  { cls := 7, slots := #[.null, .int 0, .int 0], vm := .none },
  { cls := 7, slots := #[.null, .int 1, .int 0], vm := .none },
  { cls := 8, slots := #[.null, .int 0, .int 0], vm := .none },
  { cls := 8, slots := #[.null, .int 1, .int 0], vm := .none },
  { cls := 26, slots := #[], vm := .none },
  { cls := 26, slots := #[.int 1], vm := .none },
  { cls := 26, slots := #[.int 2], vm := .none },
  { cls := 26, slots := #[.int 3], vm := .none },
  { cls := 26, slots := #[.int 4], vm := .none },
  { cls := 26, slots := #[.int 5], vm := .none },
  { cls := 26, slots := #[.int 6], vm := .none },
  { cls := 26, slots := #[.int 7], vm := .none },
  { cls := 26, slots := #[.int 8], vm := .none },
  { cls := 26, slots := #[.int 9], vm := .none },
  { cls := 26, slots := #[.int 10], vm := .none },
  { cls := 26, slots := #[.int 11], vm := .none },
  { cls := 26, slots := #[.int 12], vm := .none },
  { cls := 26, slots := #[.int 13], vm := .none },
  { cls := 26, slots := #[.int 14], vm := .none },
  { cls := 26, slots := #[.int 15], vm := .none },
  { cls := 26, slots := #[.int 16], vm := .none },
  { cls := 16, slots := #[.int 0, .ref 268, .int 0, .int 0, .int 0, .int 0], vm := .none },
  { cls := 16, slots := #[.int 1, .ref 269, .int 0, .int 0, .int 0, .int 0], vm := .none },
  { cls := 16, slots := #[.int 1, .ref 270, .int 0, .int 0, .int 0, .int 0], vm := .none },
  { cls := 16, slots := #[.int 1, .ref 271, .int 0, .int 0, .int 0, .int 0], vm := .none },
  { cls := 16, slots := #[.int 1, .ref 272, .int 0, .int 0, .int 0, .int 0], vm := .none },
  { cls := 16, slots := #[.int 1, .ref 273, .int 0, .int 0, .int 0, .int 0], vm := .none },
  { cls := 16, slots := #[.int 1, .ref 274, .int 0, .int 0, .int 0, .int 0], vm := .none },
  { cls := 16, slots := #[.int 1, .ref 275, .int 0, .int 0, .int 0, .int 0], vm := .none },
  { cls := 16, slots := #[.int 1, .ref 276, .int 0, .int 0, .int 0, .int 0], vm := .none },
  { cls := 16, slots := #[.int 1, .ref 277, .int 0, .int 0, .int 0, .int 0], vm := .none },
  { cls := 16, slots := #[.int 1, .ref 278, .int 0, .int 0, .int 0, .int 0], vm := .none },
  { cls := 16, slots := #[.int 1, .ref 279, .int 0, .int 0, .int 0, .int 0], vm := .none },
  { cls := 16, slots := #[.int 1, .ref 280, .int 0, .int 0, .int 0, .int 0], vm := .none },
  { cls := 16, slots := #[.int 1, .ref 281, .int 0, .int 0, .int 0, .int 0], vm := .none },
  { cls := 16, slots := #[.int 1, .ref 282, .int 0, .int 0, .int 0, .int 0], vm := .none },
  { cls := 16, slots := #[.int 1, .ref 283, .int 0, .int 0, .int 0, .int 0], vm := .none },
  { cls := 16, slots := #[.int 1, .ref 284, .int 0, .int 0, .int 0, .int 0], vm := .none },
  { cls := 28, slots := #[.null, .ref 286, .ref 287, .ref 288, .ref 289, .ref 290, .ref 291, .ref 292, .ref 293, .ref 294, .ref 295, .ref 296, .ref 297, .ref 298, .ref 299, .ref 300, .ref 301], vm := .none }]
def classes : Array Class := #[k0, k1, k2, k3, k4, k5, k6, k7, k8, k9, k10, k11, k12, k13, k14, k15, k16, k17, k18, k19, k20, k21, k22, k23, k24, k25, k26, k27, k28]
def interned : List (Array UInt16 × Addr) := []
def slotsUsed : Nat := 716
def theMethod : MethodId := ⟨1, 1⟩
def args0 : Array Value := #[.long 5, .long 6, .long 7, .long 8, .int 9]
def aboutOver (below : List Frame) : State where
  vm := { classes := classes, interned := interned.toArray }
  heap := heap
  slotsUsed := slotsUsed
  threads := #[{ frames := .invoking theMethod args0 :: below }]
def below0 : List Frame := [.native { method := ⟨0, 0⟩, args := #[] }]
def about1 : State := aboutOver below0
def p0 : Program := .bare "" "" ""
def e0 : Env := launch0.env 0 0 0
theorem w_frames : about1.frames = Frame.invoking theMethod args0 :: below0 := rfl
set_option maxRecDepth 65536 in
theorem w_args : argsFit about1.vm theMethod args0 = true := by decide +kernel
set_option maxRecDepth 65536 in
theorem w_heap : heapFits about1 = true := by decide +kernel
set_option maxRecDepth 65536 in
theorem w_runnable : about1.curStatus? = some .runnable := by decide +kernel
set_option maxRecDepth 65536 in
theorem w_alone : about1.alone = true := by decide +kernel
set_option maxRecDepth 65536 in
theorem w_named : about1.methodNamed? x = some theMethod := by decide +kernel
set_option maxRecDepth 65536 in
theorem w_hears : about1.hears theMethod below0 = true := by decide +kernel
set_option maxRecDepth 65536 in
theorem w_ripe : about1.ripe theMethod args0 below0 = true := by decide +kernel
theorem w_running : about1.status = .running := rfl
set_option maxRecDepth 65536 in
theorem w_room : about1.hasRoom e0.platform room_1 = true :=
  launch0.hasRoom_least _ room_1 (by decide +kernel) (by decide +kernel) (by decide +kernel) (by decide +kernel) (by decide +kernel) (by decide +kernel)
theorem allAtoms_all (ts : List Jvm.Cond) (a : Array Jvm.Value) (st : Jvm.State) : (allAtoms ts).before a st = ts.all (fun c => c.before a st) := by
  induction ts with
  | nil => rfl
  | cons c t ih =>
    show (Jvm.Cond.and c (allAtoms t)).before a st = _
    rw [Jvm.Cond.before_and, ih, List.all_cons]
def words1 : List Jvm.Cond := Jvm.Cond.code x code maxLocals ret :: tables_1
/-- a 'code' word, met by the world's own term for the bytes: nothing is compared byte by byte -/
theorem code_word {y : MethodName} {bytes : ByteArray} {mx : Nat} {rt : Option FieldType} {a : Array Value} {s : State} {m : MethodId} {meth : Method} {c : Code} (h1 : s.methodNamed? y = some m) (h2 : s.vm.method? m = some meth) (h3 : meth.code = some c) (h4 : c.code = bytes)
    (h5 : (c.maxLocals == mx && c.exceptionTable.isEmpty && decide (c.maxStack ≤ mostOperands) && decide (meth.sig.returnType = rt) && !meth.locks && decide (parseMethodDescriptor y.desc = some meth.sig)) = true) : (Jvm.Cond.code y bytes mx rt).before a s = true := by
  simp only [Bool.and_eq_true, beq_iff_eq, Bool.not_eq_true', decide_eq_true_eq] at h5
  obtain ⟨⟨⟨⟨⟨g1, g2⟩, g3⟩, g4⟩, g5⟩, g6⟩ := h5
  simp [Cond.before, Cond.holds, Cond.value, h1, h2, h3, h4, g1, g2, g3, g4, g5, g6]
def isCode : Jvm.Cond → Bool
  | .code _ _ _ _ => true
  | _ => false
theorem all_split {L : List Jvm.Cond} {P : Jvm.Cond → Bool} (h1 : L.all (fun c => isCode c || P c) = true) (h2 : ∀ c ∈ L.filter isCode, P c = true) : L.all P = true := by
  refine List.all_eq_true.mpr fun c hc => ?_
  have h := List.all_eq_true.mp h1 c hc
  rcases Bool.eq_false_or_eq_true (isCode c) with hi | hi
  · exact h2 c (List.mem_filter.mpr ⟨hc, hi⟩)
  · simpa [hi] using h
set_option maxRecDepth 65536 in
theorem w_c0 : (Jvm.Cond.code x code maxLocals ret).before args0 about1 = true := code_word (m := ⟨1, 1⟩) (meth := k1m1) (c := k1c1) (by decide +kernel) rfl rfl rfl (by decide +kernel)
set_option maxRecDepth 65536 in
theorem w_c1 : (Jvm.Cond.code ({ cls := "java/lang/Integer", name := "valueOf", desc := "(I)Ljava/lang/Integer;" } : Jvm.MethodName) jdk_33_method_22_code (1 : Nat) (Option.some (Jvm.ClassFile.FieldType.object "java/lang/Integer"))).before args0 about1 = true := code_word (m := ⟨14, 0⟩) (meth := k14m0) (c := k14c0) (by decide +kernel) rfl rfl rfl (by decide +kernel)
set_option maxRecDepth 65536 in
theorem w_c2 : (Jvm.Cond.code ({ cls := "com/example/halyard/halyard/orders/Order", name := "<init>", desc := "(Ljava/lang/String;Ljava/lang/Object;Ljava/lang/String;Lcom/example/halyard/halyard/book/Side;Lcom/example/halyard/halyard/orders/Order$Type;Lcom/example/halyard/halyard/orders/Order$TimeInForce;JJ)V" } : Jvm.MethodName) prog_76_method_1_code (11 : Nat) (Option.none : Option Jvm.ClassFile.FieldType)).before args0 about1 = true := code_word (m := ⟨9, 0⟩) (meth := k9m0) (c := k9c0) (by decide +kernel) rfl rfl rfl (by decide +kernel)
set_option maxRecDepth 65536 in
theorem w_c3 : (Jvm.Cond.code ({ cls := "java/lang/Object", name := "<init>", desc := "()V" } : Jvm.MethodName) object_method_1_code (1 : Nat) (Option.none : Option Jvm.ClassFile.FieldType)).before args0 about1 = true := code_word (m := ⟨0, 0⟩) (meth := k0m0) (c := k0c0) (by decide +kernel) rfl rfl rfl (by decide +kernel)
set_option maxRecDepth 65536 in
theorem w_c4 : (Jvm.Cond.code ({ cls := "com/example/halyard/halyard/orders/Order", name := "leaves", desc := "()J" } : Jvm.MethodName) prog_76_method_12_code (1 : Nat) (Option.some Jvm.ClassFile.FieldType.long)).before args0 about1 = true := code_word (m := ⟨9, 1⟩) (meth := k9m1) (c := k9c1) (by decide +kernel) rfl rfl rfl (by decide +kernel)
set_option maxRecDepth 65536 in
theorem w_c5 : (Jvm.Cond.code ({ cls := "com/example/halyard/halyard/orders/Order", name := "fill", desc := "(JJ)V" } : Jvm.MethodName) prog_76_method_18_code (5 : Nat) (Option.none : Option Jvm.ClassFile.FieldType)).before args0 about1 = true := code_word (m := ⟨9, 2⟩) (meth := k9m2) (c := k9c2) (by decide +kernel) rfl rfl rfl (by decide +kernel)
set_option maxRecDepth 65536 in
theorem w_c6 : (Jvm.Cond.code ({ cls := "java/math/BigInteger", name := "valueOf", desc := "(J)Ljava/math/BigInteger;" } : Jvm.MethodName) jdk_2097_method_29_code (2 : Nat) (Option.some (Jvm.ClassFile.FieldType.object "java/math/BigInteger"))).before args0 about1 = true := code_word (m := ⟨16, 1⟩) (meth := k16m1) (c := k16c1) (by decide +kernel) rfl rfl rfl (by decide +kernel)
set_option maxRecDepth 65536 in
theorem w_c7 : (Jvm.Cond.code ({ cls := "java/math/BigInteger", name := "multiply", desc := "(Ljava/math/BigInteger;)Ljava/math/BigInteger;" } : Jvm.MethodName) jdk_2097_method_40_code (2 : Nat) (Option.some (Jvm.ClassFile.FieldType.object "java/math/BigInteger"))).before args0 about1 = true := code_word (m := ⟨16, 5⟩) (meth := k16m5) (c := k16c5) (by decide +kernel) rfl rfl rfl (by decide +kernel)
set_option maxRecDepth 65536 in
theorem w_c8 : (Jvm.Cond.code ({ cls := "java/math/BigInteger", name := "multiply", desc := "(Ljava/math/BigInteger;ZZI)Ljava/math/BigInteger;" } : Jvm.MethodName) jdk_2097_method_42_code (9 : Nat) (Option.some (Jvm.ClassFile.FieldType.object "java/math/BigInteger"))).before args0 about1 = true := code_word (m := ⟨16, 6⟩) (meth := k16m6) (c := k16c6) (by decide +kernel) rfl rfl rfl (by decide +kernel)
set_option maxRecDepth 65536 in
theorem w_c9 : (Jvm.Cond.code ({ cls := "java/math/BigInteger", name := "multiplyByInt", desc := "([III)Ljava/math/BigInteger;" } : Jvm.MethodName) jdk_2097_method_43_code (13 : Nat) (Option.some (Jvm.ClassFile.FieldType.object "java/math/BigInteger"))).before args0 about1 = true := code_word (m := ⟨16, 7⟩) (meth := k16m7) (c := k16c7) (by decide +kernel) rfl rfl rfl (by decide +kernel)
set_option maxRecDepth 65536 in
theorem w_c10 : (Jvm.Cond.code ({ cls := "java/lang/Integer", name := "bitCount", desc := "(I)I" } : Jvm.MethodName) jdk_33_method_49_code (1 : Nat) (Option.some Jvm.ClassFile.FieldType.int)).before args0 about1 = true := code_word (m := ⟨14, 2⟩) (meth := k14m2) (c := k14c2) (by decide +kernel) rfl rfl rfl (by decide +kernel)
set_option maxRecDepth 65536 in
theorem w_c11 : (Jvm.Cond.code ({ cls := "java/util/Arrays", name := "copyOfRange", desc := "([III)[I" } : Jvm.MethodName) jdk_65_method_136_code (3 : Nat) (Option.some (Jvm.ClassFile.FieldType.array Jvm.ClassFile.FieldType.int))).before args0 about1 = true := code_word (m := ⟨17, 2⟩) (meth := k17m2) (c := k17c2) (by decide +kernel) rfl rfl rfl (by decide +kernel)
set_option maxRecDepth 65536 in
theorem w_c12 : (Jvm.Cond.code ({ cls := "java/util/Arrays", name := "copyOfRangeInt", desc := "([III)[I" } : Jvm.MethodName) jdk_65_method_137_code (5 : Nat) (Option.some (Jvm.ClassFile.FieldType.array Jvm.ClassFile.FieldType.int))).before args0 about1 = true := code_word (m := ⟨17, 3⟩) (meth := k17m3) (c := k17c3) (by decide +kernel) rfl rfl rfl (by decide +kernel)
set_option maxRecDepth 65536 in
theorem w_c13 : (Jvm.Cond.code ({ cls := "java/util/Arrays", name := "checkLength", desc := "(II)V" } : Jvm.MethodName) jdk_65_method_131_code (2 : Nat) (Option.none : Option Jvm.ClassFile.FieldType)).before args0 about1 = true := code_word (m := ⟨17, 1⟩) (meth := k17m1) (c := k17c1) (by decide +kernel) rfl rfl rfl (by decide +kernel)
set_option maxRecDepth 65536 in
theorem w_c14 : (Jvm.Cond.code ({ cls := "java/lang/Math", name := "min", desc := "(II)I" } : Jvm.MethodName) jdk_29_method_69_code (2 : Nat) (Option.some Jvm.ClassFile.FieldType.int)).before args0 about1 = true := code_word (m := ⟨18, 1⟩) (meth := k18m1) (c := k18c1) (by decide +kernel) rfl rfl rfl (by decide +kernel)
set_option maxRecDepth 65536 in
theorem w_c15 : (Jvm.Cond.code ({ cls := "java/math/BigInteger", name := "<init>", desc := "([II)V" } : Jvm.MethodName) jdk_2097_method_25_code (3 : Nat) (Option.none : Option Jvm.ClassFile.FieldType)).before args0 about1 = true := code_word (m := ⟨16, 0⟩) (meth := k16m0) (c := k16c0) (by decide +kernel) rfl rfl rfl (by decide +kernel)
set_option maxRecDepth 65536 in
theorem w_c16 : (Jvm.Cond.code ({ cls := "java/lang/Number", name := "<init>", desc := "()V" } : Jvm.MethodName) jdk_18_method_1_code (1 : Nat) (Option.none : Option Jvm.ClassFile.FieldType)).before args0 about1 = true := code_word (m := ⟨13, 0⟩) (meth := k13m0) (c := k13c0) (by decide +kernel) rfl rfl rfl (by decide +kernel)
set_option maxRecDepth 65536 in
theorem w_c17 : (Jvm.Cond.code ({ cls := "java/math/BigInteger", name := "add", desc := "(Ljava/math/BigInteger;)Ljava/math/BigInteger;" } : Jvm.MethodName) jdk_2097_method_32_code (4 : Nat) (Option.some (Jvm.ClassFile.FieldType.object "java/math/BigInteger"))).before args0 about1 = true := code_word (m := ⟨16, 3⟩) (meth := k16m3) (c := k16c3) (by decide +kernel) rfl rfl rfl (by decide +kernel)
set_option maxRecDepth 65536 in
theorem w_c18 : (Jvm.Cond.code ({ cls := "java/math/BigInteger", name := "add", desc := "([I[I)[I" } : Jvm.MethodName) jdk_2097_method_35_code (9 : Nat) (Option.some (Jvm.ClassFile.FieldType.array Jvm.ClassFile.FieldType.int))).before args0 about1 = true := code_word (m := ⟨16, 4⟩) (meth := k16m4) (c := k16c4) (by decide +kernel) rfl rfl rfl (by decide +kernel)
set_option maxRecDepth 65536 in
theorem w_c19 : (Jvm.Cond.code ({ cls := "com/example/halyard/halyard/orders/Order", name := "cancel", desc := "()V" } : Jvm.MethodName) prog_76_method_19_code (1 : Nat) (Option.none : Option Jvm.ClassFile.FieldType)).before args0 about1 = true := code_word (m := ⟨9, 3⟩) (meth := k9m3) (c := k9c3) (by decide +kernel) rfl rfl rfl (by decide +kernel)
set_option maxRecDepth 65536 in
theorem w_c20 : (Jvm.Cond.code ({ cls := "java/math/BigInteger", name := "<init>", desc := "(J)V" } : Jvm.MethodName) jdk_2097_method_30_code (4 : Nat) (Option.none : Option Jvm.ClassFile.FieldType)).before args0 about1 = true := code_word (m := ⟨16, 2⟩) (meth := k16m2) (c := k16c2) (by decide +kernel) rfl rfl rfl (by decide +kernel)
set_option maxRecDepth 65536 in
theorem w_c21 : (Jvm.Cond.code ({ cls := "java/math/BigInteger", name := "multiplyToLen", desc := "([II[II[I)[I" } : Jvm.MethodName) jdk_2097_method_45_code (5 : Nat) (Option.some (Jvm.ClassFile.FieldType.array Jvm.ClassFile.FieldType.int))).before args0 about1 = true := code_word (m := ⟨16, 8⟩) (meth := k16m8) (c := k16c8) (by decide +kernel) rfl rfl rfl (by decide +kernel)
set_option maxRecDepth 65536 in
theorem w_c22 : (Jvm.Cond.code ({ cls := "java/math/BigInteger", name := "multiplyToLenCheck", desc := "([II)V" } : Jvm.MethodName) jdk_2097_method_47_code (2 : Nat) (Option.none : Option Jvm.ClassFile.FieldType)).before args0 about1 = true := code_word (m := ⟨16, 10⟩) (meth := k16m10) (c := k16c10) (by decide +kernel) rfl rfl rfl (by decide +kernel)
set_option maxRecDepth 65536 in
theorem w_c23 : (Jvm.Cond.code ({ cls := "java/util/Objects", name := "requireNonNull", desc := "(Ljava/lang/Object;)Ljava/lang/Object;" } : Jvm.MethodName) jdk_31_method_10_code (1 : Nat) (Option.some (Jvm.ClassFile.FieldType.object "java/lang/Object"))).before args0 about1 = true := code_word (m := ⟨20, 1⟩) (meth := k20m1) (c := k20c1) (by decide +kernel) rfl rfl rfl (by decide +kernel)
set_option maxRecDepth 65536 in
theorem w_c24 : (Jvm.Cond.code ({ cls := "java/math/BigInteger", name := "implMultiplyToLen", desc := "([II[II[I)[I" } : Jvm.MethodName) jdk_2097_method_46_code (14 : Nat) (Option.some (Jvm.ClassFile.FieldType.array Jvm.ClassFile.FieldType.int))).before args0 about1 = true := code_word (m := ⟨16, 9⟩) (meth := k16m9) (c := k16c9) (by decide +kernel) rfl rfl rfl (by decide +kernel)
set_option maxRecDepth 65536 in
theorem w_c25 : (Jvm.Cond.code ({ cls := "java/math/BigInteger", name := "trustedStripLeadingZeroInts", desc := "([I)[I" } : Jvm.MethodName) jdk_2097_method_140_code (3 : Nat) (Option.some (Jvm.ClassFile.FieldType.array Jvm.ClassFile.FieldType.int))).before args0 about1 = true := code_word (m := ⟨16, 13⟩) (meth := k16m13) (c := k16c13) (by decide +kernel) rfl rfl rfl (by decide +kernel)
set_option maxRecDepth 65536 in
theorem w_c26 : (Jvm.Cond.code ({ cls := "java/lang/Integer", name := "numberOfTrailingZeros", desc := "(I)I" } : Jvm.MethodName) jdk_33_method_48_code (2 : Nat) (Option.some Jvm.ClassFile.FieldType.int)).before args0 about1 = true := code_word (m := ⟨14, 1⟩) (meth := k14m1) (c := k14c1) (by decide +kernel) rfl rfl rfl (by decide +kernel)
set_option maxRecDepth 65536 in
theorem w_c27 : (Jvm.Cond.code ({ cls := "java/math/BigInteger", name := "shiftLeft", desc := "([II)[I" } : Jvm.MethodName) jdk_2097_method_102_code (10 : Nat) (Option.some (Jvm.ClassFile.FieldType.array Jvm.ClassFile.FieldType.int))).before args0 about1 = true := code_word (m := ⟨16, 11⟩) (meth := k16m11) (c := k16c11) (by decide +kernel) rfl rfl rfl (by decide +kernel)
set_option maxRecDepth 65536 in
theorem w_c28 : (Jvm.Cond.code ({ cls := "java/util/Objects", name := "checkFromToIndex", desc := "(III)I" } : Jvm.MethodName) jdk_31_method_18_code (3 : Nat) (Option.some Jvm.ClassFile.FieldType.int)).before args0 about1 = true := code_word (m := ⟨20, 2⟩) (meth := k20m2) (c := k20c2) (by decide +kernel) rfl rfl rfl (by decide +kernel)
set_option maxRecDepth 65536 in
theorem w_c29 : (Jvm.Cond.code ({ cls := "jdk/internal/util/Preconditions", name := "checkFromToIndex", desc := "(IIILjava/util/function/BiFunction;)I" } : Jvm.MethodName) jdk_41_method_12_code (4 : Nat) (Option.some Jvm.ClassFile.FieldType.int)).before args0 about1 = true := code_word (m := ⟨21, 1⟩) (meth := k21m1) (c := k21c1) (by decide +kernel) rfl rfl rfl (by decide +kernel)
set_option maxRecDepth 65536 in
theorem w_c30 : (Jvm.Cond.code ({ cls := "java/math/BigInteger", name := "shiftLeftImplWorker", desc := "([I[IIII)V" } : Jvm.MethodName) jdk_2097_method_103_code (7 : Nat) (Option.none : Option Jvm.ClassFile.FieldType)).before args0 about1 = true := code_word (m := ⟨16, 12⟩) (meth := k16m12) (c := k16c12) (by decide +kernel) rfl rfl rfl (by decide +kernel)
def codes1 : List Jvm.Cond := [Jvm.Cond.code x code maxLocals ret, Jvm.Cond.code ({ cls := "java/lang/Integer", name := "valueOf", desc := "(I)Ljava/lang/Integer;" } : Jvm.MethodName) jdk_33_method_22_code (1 : Nat) (Option.some (Jvm.ClassFile.FieldType.object "java/lang/Integer")), Jvm.Cond.code ({ cls := "com/example/halyard/halyard/orders/Order", name := "<init>", desc := "(Ljava/lang/String;Ljava/lang/Object;Ljava/lang/String;Lcom/example/halyard/halyard/book/Side;Lcom/example/halyard/halyard/orders/Order$Type;Lcom/example/halyard/halyard/orders/Order$TimeInForce;JJ)V" } : Jvm.MethodName) prog_76_method_1_code (11 : Nat) (Option.none : Option Jvm.ClassFile.FieldType), Jvm.Cond.code ({ cls := "java/lang/Object", name := "<init>", desc := "()V" } : Jvm.MethodName) object_method_1_code (1 : Nat) (Option.none : Option Jvm.ClassFile.FieldType), Jvm.Cond.code ({ cls := "com/example/halyard/halyard/orders/Order", name := "leaves", desc := "()J" } : Jvm.MethodName) prog_76_method_12_code (1 : Nat) (Option.some Jvm.ClassFile.FieldType.long), Jvm.Cond.code ({ cls := "com/example/halyard/halyard/orders/Order", name := "fill", desc := "(JJ)V" } : Jvm.MethodName) prog_76_method_18_code (5 : Nat) (Option.none : Option Jvm.ClassFile.FieldType), Jvm.Cond.code ({ cls := "java/math/BigInteger", name := "valueOf", desc := "(J)Ljava/math/BigInteger;" } : Jvm.MethodName) jdk_2097_method_29_code (2 : Nat) (Option.some (Jvm.ClassFile.FieldType.object "java/math/BigInteger")), Jvm.Cond.code ({ cls := "java/math/BigInteger", name := "multiply", desc := "(Ljava/math/BigInteger;)Ljava/math/BigInteger;" } : Jvm.MethodName) jdk_2097_method_40_code (2 : Nat) (Option.some (Jvm.ClassFile.FieldType.object "java/math/BigInteger")), Jvm.Cond.code ({ cls := "java/math/BigInteger", name := "multiply", desc := "(Ljava/math/BigInteger;ZZI)Ljava/math/BigInteger;" } : Jvm.MethodName) jdk_2097_method_42_code (9 : Nat) (Option.some (Jvm.ClassFile.FieldType.object "java/math/BigInteger")), Jvm.Cond.code ({ cls := "java/math/BigInteger", name := "multiplyByInt", desc := "([III)Ljava/math/BigInteger;" } : Jvm.MethodName) jdk_2097_method_43_code (13 : Nat) (Option.some (Jvm.ClassFile.FieldType.object "java/math/BigInteger")), Jvm.Cond.code ({ cls := "java/lang/Integer", name := "bitCount", desc := "(I)I" } : Jvm.MethodName) jdk_33_method_49_code (1 : Nat) (Option.some Jvm.ClassFile.FieldType.int), Jvm.Cond.code ({ cls := "java/util/Arrays", name := "copyOfRange", desc := "([III)[I" } : Jvm.MethodName) jdk_65_method_136_code (3 : Nat) (Option.some (Jvm.ClassFile.FieldType.array Jvm.ClassFile.FieldType.int)), Jvm.Cond.code ({ cls := "java/util/Arrays", name := "copyOfRangeInt", desc := "([III)[I" } : Jvm.MethodName) jdk_65_method_137_code (5 : Nat) (Option.some (Jvm.ClassFile.FieldType.array Jvm.ClassFile.FieldType.int)), Jvm.Cond.code ({ cls := "java/util/Arrays", name := "checkLength", desc := "(II)V" } : Jvm.MethodName) jdk_65_method_131_code (2 : Nat) (Option.none : Option Jvm.ClassFile.FieldType), Jvm.Cond.code ({ cls := "java/lang/Math", name := "min", desc := "(II)I" } : Jvm.MethodName) jdk_29_method_69_code (2 : Nat) (Option.some Jvm.ClassFile.FieldType.int), Jvm.Cond.code ({ cls := "java/math/BigInteger", name := "<init>", desc := "([II)V" } : Jvm.MethodName) jdk_2097_method_25_code (3 : Nat) (Option.none : Option Jvm.ClassFile.FieldType), Jvm.Cond.code ({ cls := "java/lang/Number", name := "<init>", desc := "()V" } : Jvm.MethodName) jdk_18_method_1_code (1 : Nat) (Option.none : Option Jvm.ClassFile.FieldType), Jvm.Cond.code ({ cls := "java/math/BigInteger", name := "add", desc := "(Ljava/math/BigInteger;)Ljava/math/BigInteger;" } : Jvm.MethodName) jdk_2097_method_32_code (4 : Nat) (Option.some (Jvm.ClassFile.FieldType.object "java/math/BigInteger")), Jvm.Cond.code ({ cls := "java/math/BigInteger", name := "add", desc := "([I[I)[I" } : Jvm.MethodName) jdk_2097_method_35_code (9 : Nat) (Option.some (Jvm.ClassFile.FieldType.array Jvm.ClassFile.FieldType.int)), Jvm.Cond.code ({ cls := "com/example/halyard/halyard/orders/Order", name := "cancel", desc := "()V" } : Jvm.MethodName) prog_76_method_19_code (1 : Nat) (Option.none : Option Jvm.ClassFile.FieldType), Jvm.Cond.code ({ cls := "java/math/BigInteger", name := "<init>", desc := "(J)V" } : Jvm.MethodName) jdk_2097_method_30_code (4 : Nat) (Option.none : Option Jvm.ClassFile.FieldType), Jvm.Cond.code ({ cls := "java/math/BigInteger", name := "multiplyToLen", desc := "([II[II[I)[I" } : Jvm.MethodName) jdk_2097_method_45_code (5 : Nat) (Option.some (Jvm.ClassFile.FieldType.array Jvm.ClassFile.FieldType.int)), Jvm.Cond.code ({ cls := "java/math/BigInteger", name := "multiplyToLenCheck", desc := "([II)V" } : Jvm.MethodName) jdk_2097_method_47_code (2 : Nat) (Option.none : Option Jvm.ClassFile.FieldType), Jvm.Cond.code ({ cls := "java/util/Objects", name := "requireNonNull", desc := "(Ljava/lang/Object;)Ljava/lang/Object;" } : Jvm.MethodName) jdk_31_method_10_code (1 : Nat) (Option.some (Jvm.ClassFile.FieldType.object "java/lang/Object")), Jvm.Cond.code ({ cls := "java/math/BigInteger", name := "implMultiplyToLen", desc := "([II[II[I)[I" } : Jvm.MethodName) jdk_2097_method_46_code (14 : Nat) (Option.some (Jvm.ClassFile.FieldType.array Jvm.ClassFile.FieldType.int)), Jvm.Cond.code ({ cls := "java/math/BigInteger", name := "trustedStripLeadingZeroInts", desc := "([I)[I" } : Jvm.MethodName) jdk_2097_method_140_code (3 : Nat) (Option.some (Jvm.ClassFile.FieldType.array Jvm.ClassFile.FieldType.int)), Jvm.Cond.code ({ cls := "java/lang/Integer", name := "numberOfTrailingZeros", desc := "(I)I" } : Jvm.MethodName) jdk_33_method_48_code (2 : Nat) (Option.some Jvm.ClassFile.FieldType.int), Jvm.Cond.code ({ cls := "java/math/BigInteger", name := "shiftLeft", desc := "([II)[I" } : Jvm.MethodName) jdk_2097_method_102_code (10 : Nat) (Option.some (Jvm.ClassFile.FieldType.array Jvm.ClassFile.FieldType.int)), Jvm.Cond.code ({ cls := "java/util/Objects", name := "checkFromToIndex", desc := "(III)I" } : Jvm.MethodName) jdk_31_method_18_code (3 : Nat) (Option.some Jvm.ClassFile.FieldType.int), Jvm.Cond.code ({ cls := "jdk/internal/util/Preconditions", name := "checkFromToIndex", desc := "(IIILjava/util/function/BiFunction;)I" } : Jvm.MethodName) jdk_41_method_12_code (4 : Nat) (Option.some Jvm.ClassFile.FieldType.int), Jvm.Cond.code ({ cls := "java/math/BigInteger", name := "shiftLeftImplWorker", desc := "([I[IIII)V" } : Jvm.MethodName) jdk_2097_method_103_code (7 : Nat) (Option.none : Option Jvm.ClassFile.FieldType)]
set_option maxRecDepth 65536 in
theorem codes_eq : words1.filter isCode = codes1 := rfl
theorem w_codes : ∀ c ∈ words1.filter isCode, c.before args0 about1 = true := by
  rw [codes_eq]
  intro c hc
  simp only [codes1, List.mem_cons, List.not_mem_nil, or_false] at hc
  rcases hc with rfl | rfl | rfl | rfl | rfl | rfl | rfl | rfl | rfl | rfl | rfl | rfl | rfl | rfl | rfl | rfl | rfl | rfl | rfl | rfl | rfl | rfl | rfl | rfl | rfl | rfl | rfl | rfl | rfl | rfl | rfl
  · exact w_c0
  · exact w_c1
  · exact w_c2
  · exact w_c3
  · exact w_c4
  · exact w_c5
  · exact w_c6
  · exact w_c7
  · exact w_c8
  · exact w_c9
  · exact w_c10
  · exact w_c11
  · exact w_c12
  · exact w_c13
  · exact w_c14
  · exact w_c15
  · exact w_c16
  · exact w_c17
  · exact w_c18
  · exact w_c19
  · exact w_c20
  · exact w_c21
  · exact w_c22
  · exact w_c23
  · exact w_c24
  · exact w_c25
  · exact w_c26
  · exact w_c27
  · exact w_c28
  · exact w_c29
  · exact w_c30
set_option maxRecDepth 65536 in
theorem w_t1 : (words1.take 24).all (fun c => isCode c || c.before args0 about1) = true := by decide +kernel
set_option maxRecDepth 65536 in
theorem w_t2 : ((words1.drop 24).take 24).all (fun c => isCode c || c.before args0 about1) = true := by decide +kernel
set_option maxRecDepth 65536 in
theorem w_t3 : (((words1.drop 24).drop 24).take 24).all (fun c => isCode c || c.before args0 about1) = true := by decide +kernel
set_option maxRecDepth 65536 in
theorem w_t4 : ((((words1.drop 24).drop 24).drop 24).take 24).all (fun c => isCode c || c.before args0 about1) = true := by decide +kernel
set_option maxRecDepth 65536 in
theorem w_t5 : (((((words1.drop 24).drop 24).drop 24).drop 24).take 24).all (fun c => isCode c || c.before args0 about1) = true := by decide +kernel
set_option maxRecDepth 65536 in
theorem w_t6 : ((((((words1.drop 24).drop 24).drop 24).drop 24).drop 24).take 24).all (fun c => isCode c || c.before args0 about1) = true := by decide +kernel
set_option maxRecDepth 65536 in
theorem w_t7 : (((((((words1.drop 24).drop 24).drop 24).drop 24).drop 24).drop 24).take 24).all (fun c => isCode c || c.before args0 about1) = true := by decide +kernel
set_option maxRecDepth 65536 in
theorem w_t8 : (((((((words1.drop 24).drop 24).drop 24).drop 24).drop 24).drop 24).drop 24).all (fun c => isCode c || c.before args0 about1) = true := by decide +kernel
theorem w_tables : (allAtoms (Jvm.Cond.code x code maxLocals ret :: tables_1)).before args0 about1 = true := by
  rw [allAtoms_all]
  show words1.all (fun c => c.before args0 about1) = true
  refine all_split ?_ w_codes
  rw [← List.take_append_drop 24 words1, List.all_append, w_t1, ← List.take_append_drop 24 (words1.drop 24), List.all_append, w_t2, ← List.take_append_drop 24 ((words1.drop 24).drop 24), List.all_append, w_t3, ← List.take_append_drop 24 (((words1.drop 24).drop 24).drop 24), List.all_append, w_t4, ← List.take_append_drop 24 ((((words1.drop 24).drop 24).drop 24).drop 24), List.all_append, w_t5, ← List.take_append_drop 24 (((((words1.drop 24).drop 24).drop 24).drop 24).drop 24), List.all_append, w_t6, ← List.take_append_drop 24 ((((((words1.drop 24).drop 24).drop 24).drop 24).drop 24).drop 24), List.all_append, w_t7, w_t8]
  rfl
set_option maxRecDepth 65536 in
theorem w_rest : rest_1_c.before args0 about1 = true := by decide +kernel
set_option maxRecDepth 65536 in
theorem w_case : (Jvm.Cond.and given_1 narrow_1).before args0 about1 = true := by decide +kernel
theorem w_applies : (headSpec (Jvm.Cond.code x code maxLocals ret :: tables_1) room_1).applies x e0.platform about1 = true :=
  (Spec.applies_iff w_frames).mpr ⟨w_running, w_runnable, w_alone, w_named, w_hears, w_ripe, w_room, w_tables⟩
theorem atStart : AtStart classFile x code maxLocals ret World_1 tables_1 room_1 Calls_1 rest_1 Pre_1 launch0 p0 e0 about1 theMethod args0 below0 :=
  ⟨lists_1, trivial, launch0.admits_env _ _ _, launch0.least_env, fairChoices_fair.cas, fairChoices_fair.clock, w_frames, w_args, w_heap, w_applies, trivial, w_rest, w_case⟩
end start1
theorem witness_1 : WitnessClaimed_1 := ⟨start1.p0, start1.e0, start1.about1, start1.theMethod, start1.args0, start1.below0, start1.atStart⟩
end Jvm.Pilot.@@N@@
