import JvmDerived
import JvmDerived.Pilot.@@N@@Statement
import JvmDerived.Pilot.@@N@@Code
set_option linter.unusedVariables false
set_option linter.unusedSimpArgs false
namespace Jvm.RoadKit
open Sem ClassFile Op Lib Jvm.Stand Jvm.Free Jvm.LawKit
section New
variable {p : Program} {l : Launch} {e : Env} {R : Room} {s : State} {m : MethodId} {args : Array Value} {below : List Frame} {meth : Method} {c : Code} {T : State} {locs : List Loc} {cells slots : Nat}
theorem retI (X : Stand p l e R s m args below meth c T locs cells slots) (hx : p.tables.exec = Jvm.exec) {pc : Nat} {Ls : Array Slot} {z : Int32} {rest : List Value} (hret : meth.sig.returnType = some .int) (hd : decode c.code pc = .ok (.ireturn, 1)) {fs : List Frame}
    (hl : ∀ (f : JFrame) (acts : List Action), f.method = m → f.locked = none → f.entered = [] → (doReturn e (T.setTop f) acts (some (.int z))).1 = T.setFrames fs) : Steps p.tables e below (T.setTop (mkF m pc Ls (.int z :: rest))) (T.setFrames fs) := by
  have hm' : T.vm.method? m = some meth := X.method'
  have hn : narrow .int (.int z) = .int z := rfl
  show Steps p.tables e below (T.setTop { method := m, pc := pc, locals := Ls, stack := _ :: rest, locked := none }) _
  jvm_step X.here [X.here.top, hx, hd, hm', hret, hn]
  first | (intro acts; rw [hl _ acts rfl rfl rfl]) | rw [hl _ _ rfl rfl rfl]
  exact Steps.refl _
theorem own_lrem {g : JFrame} {target : State} (X : Stand p l e R s m args below meth c T locs cells slots) (hx : p.tables.exec = Jvm.exec) (hg : g.method = m) {x y : Int64} {rest : List Value} (hd : decode c.code g.pc = .ok (.lrem, 1)) (hs : g.stack = .long y :: .long x :: rest) (hy : y ≠ 0)
    (hr : Steps p.tables e below (T.setTop { g with pc := g.pc + 1, stack := .long (x % y) :: rest }) target) : Steps p.tables e below (T.setTop g) target :=
  XS.lrem X.here hx hg hd hs hy (by first | exact hr | (rw [lrem_mod]; exact hr))
end New
end Jvm.RoadKit
namespace Jvm.Pilot.@@N@@
open Jvm Jvm.ClassFile Sem Op Lib Jvm.Free Jvm.Stand Jvm.LawKit Jvm.RoadKit Bundle Jvm.Pilot.@@N@@.Jvm.D
/-- from the state A the body returns with QQ -/
def own_Go (p : Program) (e : Env) (below : List Frame) (s : State) (QQ : Option Value → Heap → List Loc → Prop) (k n : Nat) (A : State) : Prop :=
  ∃ U o, Steps p.tables e below A U ∧ U.status = .running ∧ Ended U below o ∧ ∃ v L, o = .returned v ∧ QQ v U.heap L ∧ FrameEnd s o U L k n
theorem own_go {p : Program} {e : Env} {below : List Frame} {s : State} {QQ : Option Value → Heap → List Loc → Prop} {k n : Nat} {A B : State} (h : ∀ t, Steps p.tables e below B t → Steps p.tables e below A t) (g : own_Go p e below s QQ k n B) : own_Go p e below s QQ k n A := by
  obtain ⟨U, o, h1, r⟩ := g
  exact ⟨U, o, h U h1, r⟩
theorem own_ret {p : Program} {l : Launch} {e : Env} {R : Room} {s : State} {m : MethodId} {args : Array Value} {below : List Frame} {meth : Method} {c : Code} {T : State} {locs : List Loc} {cells slots : Nat} {QQ : Option Value → Heap → List Loc → Prop} {k n : Nat} {A : State}
    (X : Stand p l e R s m args below meth c T locs cells slots) {v : Option Value} (hv : meth.sig.returnType = none → v = none) (hlk : meth.locks = false) (hQ : QQ v T.heap locs) (hk : cells ≤ k) (hn : slots ≤ n)
    (st : ∀ fs, (∀ (f : JFrame) (acts : List Action), f.method = m → f.locked = none → f.entered = [] → (doReturn e (T.setTop f) acts v).1 = T.setFrames fs) → Steps p.tables e below A (T.setFrames fs)) : own_Go p e below s QQ k n A := by
  obtain ⟨fs, hr, hrun, hended, hW, hsame⟩ := X.leave hv hlk
  exact ⟨_, _, st fs hr, hrun, hended, _, _, rfl, hQ, ⟨_, rfl⟩, hW, hsame.mono hk hn⟩
def own_GoW (p : Program) (e : Env) (below : List Frame) (s : State) (QQ : Option Value → Heap → List Loc → Prop) (k n : Nat) (A : State) : Prop :=
  ∃ U o, Steps p.tables e below A U ∧ U.status = .running ∧ Ended U below o ∧ ∃ v L, o = .returned v ∧ QQ v U.heap L ∧ ReturnedEndW s o U L k n
theorem own_goW {p : Program} {e : Env} {below : List Frame} {s : State} {QQ : Option Value → Heap → List Loc → Prop} {k n : Nat} {A B : State} (h : ∀ t, Steps p.tables e below B t → Steps p.tables e below A t) (g : own_GoW p e below s QQ k n B) : own_GoW p e below s QQ k n A := by
  obtain ⟨U, o, h1, r⟩ := g
  exact ⟨U, o, h U h1, r⟩
theorem own_retW {p : Program} {l : Launch} {e : Env} {R : Room} {s : State} {vm₁ : Vm} {m : MethodId} {args : Array Value} {below : List Frame} {meth : Method} {c : Code} {T : State} {locs : List Loc} {cells slots : Nat} {QQ : Option Value → Heap → List Loc → Prop} {k n : Nat} {A : State}
    (X : Stand p l e R (s.setVm vm₁) m args below meth c T locs cells slots) {n1 : Nat} (hS : s.Since vm₁ n1) (hn1 : n1 ≤ T.heap.size) {v : Option Value} (hv : meth.sig.returnType = none → v = none) (hlk : meth.locks = false) (hQ : QQ v T.heap locs) (hk : cells ≤ k) (hn : slots ≤ n)
    (st : ∀ fs, (∀ (f : JFrame) (acts : List Action), f.method = m → f.locked = none → f.entered = [] → (doReturn e (T.setTop f) acts v).1 = T.setFrames fs) → Steps p.tables e below A (T.setFrames fs)) : own_GoW p e below s QQ k n A := by
  obtain ⟨fs, hr, hrun, hended, hq⟩ := X.leaveW hS hn1 hv hlk
  exact ⟨_, _, st fs hr, hrun, hended, _, _, rfl, hQ, hq.1, hq.2.1, hq.2.2.1, hq.2.2.2.mono hk hn⟩
/-- an array by what its places hold -/
def own_Ary (Z : State) (h : Heap) (a : Addr) (ty : FieldType) (n : Nat) (f : Nat → Value) : Prop := ∃ c : Cell, Arr Z h a c ty ∧ c.slots.size = n ∧ ∀ j, j < n → c.slots[j]? = some (f j)
def own_set (f : Nat → Value) (i : Nat) (v : Value) : Nat → Value := fun j => if j = i then v else f j
section
variable {Z : State} {h h' : Heap} {a b : Addr} {ty : FieldType} {n : Nat} {f : Nat → Value}
theorem own_Ary.lt (F : own_Ary Z h a ty n f) : a < h.size := by obtain ⟨c, A, -⟩ := F; exact A.lt
theorem own_Ary.ext (F : own_Ary Z h a ty n f) (E : Ext h h') : own_Ary Z h' a ty n f := by obtain ⟨c, A, r⟩ := F; exact ⟨c, A.ext E, r⟩
theorem own_Ary.other {sl : Nat} {v : Value} (F : own_Ary Z h b ty n f) (W : Wr h h' a sl v) (q : b ≠ a) : own_Ary Z h' b ty n f := by obtain ⟨c, A, r⟩ := F; exact ⟨c, A.other W q, r⟩
theorem own_Ary.keep {ws : List Addr} (F : own_Ary Z h a ty n f) (K : Keep h h' ws) (q : a ∉ ws) : own_Ary Z h' a ty n f := by obtain ⟨c, A, r⟩ := F; exact ⟨c, ⟨K.2.1 a c A.1 q, A.2⟩, r⟩
theorem own_Ary.new {k : ClassId} {z : Int32} (A : Arr Z h a (newA k ty z) ty) (hz : z.toNatClampNeg = n) : own_Ary Z h a ty n (fun _ => defaultValue ty) :=
  ⟨_, A, by rw [sz_new]; exact hz, fun j hj => by simp [newA, hz, hj]⟩
theorem own_Ary.set {c : Cell} {i : Nat} {v : Value} (A : Arr Z h a c ty) (S : c.slots.size = n) (G : ∀ j, j < n → c.slots[j]? = some (f j)) (W : Wr h h' a i v) : own_Ary Z h' a ty n (own_set f i v) := by
  refine ⟨_, A.same W, by rw [sz_set]; exact S, fun j hj => ?_⟩
  simp only [Cell.setSlot, Array.getElem?_setIfInBounds, own_set]
  by_cases q : j = i
  · subst q; simp [S, hj]
  · have q' : ¬ i = j := fun z => q z.symm
    simp [q, q', G j hj]
theorem own_Ary.congr {g : Nat → Value} (F : own_Ary Z h a ty n f) (q : ∀ j, j < n → f j = g j) : own_Ary Z h a ty n g := by
  obtain ⟨c, A, S, G⟩ := F; exact ⟨c, A, S, fun j hj => by rw [G j hj, q j hj]⟩
theorem own_sta_keep {C m d : String} {v : Value} (F : Sta Z h C m d v) (K : Keep h h' []) : Sta Z h' C m d v := by
  obtain ⟨cf, i, k, g, st, cell, h1, h2, h3, h4, h5, r⟩ := F
  exact ⟨cf, i, k, g, st, cell, h1, h2, h3, h4, K.2.1 _ _ h5 nin0, r⟩
theorem own_cl {j : Int32} {i : Nat} (q : j.toInt = (i : Int)) : j.toNatClampNeg = i := by
  show j.toInt.toNat = i
  rw [q]; rfl
theorem own_in {c : Cell} {j : Int32} {i : Nat} (S : c.slots.size = n) (q : j.toInt = (i : Int)) (hi : i < n) : ¬ (j < 0 ∨ c.slots.size ≤ j.toNatClampNeg) := by
  rw [own_cl q, S]
  have h0 : (0 : Int32).toInt = 0 := by decide
  intro z
  rcases z with z | z
  · have := Int32.lt_iff_toInt_lt.mp z; omega
  · omega
end
theorem own_str {a0 : Array Value} {Z : State} (hw : ∀ d ∈ tables_1, d.before a0 Z = true) : ∀ a ∈ Bundle.stringAtoms, a.before a0 Z = true := by
  intro a ha
  simp only [Bundle.stringAtoms, List.mem_cons, List.not_mem_nil, or_false] at ha
  rcases ha with rfl | rfl | rfl | rfl | rfl | rfl | rfl
  · exact hw _ (List.mem_of_getElem? (i := 6) rfl)
  · exact hw _ (List.mem_of_getElem? (i := 7) rfl)
  · exact hw _ (List.mem_of_getElem? (i := 8) rfl)
  · exact hw _ (List.mem_of_getElem? (i := 9) rfl)
  · exact hw _ (List.mem_of_getElem? (i := 10) rfl)
  · exact hw _ (List.mem_of_getElem? (i := 11) rfl)
  · exact hw _ (List.mem_of_getElem? (i := 12) rfl)
theorem own_rem (a b : Int64) (hb : 0 < b.toInt) : 0 ≤ ((a &&& (9223372036854775807 : Int64)) % b).toInt ∧ ((a &&& (9223372036854775807 : Int64)) % b).toInt < b.toInt := by
  have h1 := c_maskL a 9223372036854775807 63 (by decide) (by decide)
  have h2 : 0 ≤ (a &&& (9223372036854775807 : Int64)).toInt := by rw [h1]; omega
  rw [Int64.toInt_mod, (tr _ _).1 h2]
  exact ⟨Int.emod_nonneg _ (by omega), Int.emod_lt_of_pos _ hb⟩
theorem own_add {a b : Int64} (h : -4611686018427387904 ≤ a.toInt ∧ a.toInt ≤ 4611686018427387903) (h' : -4611686018427387904 ≤ b.toInt ∧ b.toInt ≤ 4611686018427387903) : (a + b).toInt = a.toInt + b.toInt := by
  have h1 := c_ladd a b
  have h2 := rng64 (a + b)
  omega
theorem own_sub {a b : Int64} (h : -4611686018427387904 ≤ a.toInt ∧ a.toInt ≤ 4611686018427387903) (h' : -4611686018427387904 ≤ b.toInt ∧ b.toInt ≤ 4611686018427387903) : (a - b).toInt = a.toInt - b.toInt := by
  have h1 := c_lsub a b
  have h2 := rng64 (a - b)
  omega
theorem own_5 : (5000000 : Int64).toInt = 5000000 := by decide
theorem own_1 : (1 : Int64).toInt = 1 := by decide
theorem own_0 : (0 : Int64).toInt = 0 := by decide
theorem own_nz {b : Int64} (h : 0 < b.toInt) : b ≠ 0 := fun q => by rw [q, own_0] at h; omega
theorem own_nlt {a b : Int64} (h : b.toInt ≤ a.toInt) : ¬ a < b := fun q => by have := Int64.lt_iff_toInt_lt.mp q; omega
theorem pn_0 : plainName "java/lang/Record" = true := by first | (simp [plainName, overriddenIn]; done) | decide +kernel
theorem d2_0 : decode jdk_30_method_1_code 0 = .ok (.aload_n 0, 1) := by decide +kernel
theorem d2_1 : decode jdk_30_method_1_code 1 = .ok (.invokespecial 1, 3) := by decide +kernel
theorem d2_4 : decode jdk_30_method_1_code 4 = .ok (.return_, 1) := by decide +kernel
theorem ef_2 (m : MethodId) (r0 : Addr) : entryFrame m #[(.ref r0)] 1 = mkF m 0 #[.val (.ref r0)] [] := by first | (simp [entryFrame, mkF, argsToLocals, Value.category]; done) | rfl
def Q2 (Z : State) (r0 : Addr) (h0 : Heap) (n0 : Nat) (v : Option Value) (h : Heap) (L : List Loc) : Prop := v = none ∧ Fr n0 L ∧ h = h0
set_option maxRecDepth 65536 in
set_option maxHeartbeats 40000000 in
theorem rm2 (l : Launch) (Z : State) (a0 : Array Value) (hw : ∀ d ∈ tables_1, d.before a0 Z = true) (ws : List Jvm.Cond) (r0 : Addr) (h0 : Heap) (n0 : Nat) (Z0 : n0 ≤ h0.size) :
    MetFree l (⟨"java/lang/Record", "<init>", "()V"⟩ : MethodName) (head1 (Jvm.Cond.code (⟨"java/lang/Record", "<init>", "()V"⟩ : MethodName) jdk_30_method_1_code 1 none :: ws) ({ frames := 1, cells := 0, slots := 0, locals := 12 } : Room)) (fun a U => a = #[(.ref r0)] ∧ Z.Warmed39 U.vm ∧ U.heap = h0) (fun _ _ _ _ _ => True) (fun _ U o U' => ∃ v L, o = .returned v ∧ Q2 Z r0 h0 n0 v U'.heap L ∧ FrameEnd U o U' L (({ frames := 1, cells := 0, slots := 0, locals := 12 } : Room)).cells (({ frames := 1, cells := 0, slots := 0, locals := 12 } : Room)).slots) := by
  refine MetFree.of_bodySF (plainFor_of_name pn_0) hisR ?_
  intro p e s m args below meth c s₁ Bd hml0 hP hK
  obtain ⟨rfl, hZ, hh⟩ := hP
  have hx := Bd.exec
  have hby := Bd.bytes
  have hml : c.maxLocals = 1 := hml0
  have hown : s.vm.findClass "java/lang/Record" = some m.cls := findClass_of_methodNamed Bd.named
  have hnm := (name_of_methodNamed Bd.named Bd.method).1
  have hlk : meth.locks = false := Bd.notSynchronized
  have X0 : Stand p l e ({ frames := 1, cells := 0, slots := 0, locals := 12 } : Room) s m #[(.ref r0)] below meth c s₁ [] 0 0 := Stand.of_body Bd
  have e0 : s₁.heap = h0 := by rw [← hh, Bd.state]; rfl
  have N0 := Fr.nil n0
  have hret := Bd.returns
  show own_Go p e below s (Q2 Z r0 h0 n0) _ _ (s₁.setTop (entryFrame m #[(.ref r0)] 1))
  refine own_go (fun t k => castTop (ef_2 m r0) k) ?_
  show own_Go p e below s _ _ _ (s₁.setTop (mkF m 0 #[.val (.ref r0)] []))
  refine own_go (fun t k => XS.aloadN X0.here hx rfl (hb hby d2_0) rfl rfl k) ?_
  show own_Go p e below s _ _ _ (s₁.setTop (mkF m 1 #[.val (.ref r0)] [(.ref r0)]))
  obtain ⟨T1, X1, e1, st1⟩ := initO X0 hx hZ hown (hw _ (List.mem_of_getElem? (i := 21) rfl)) (hw _ (List.mem_of_getElem? (i := 22) rfl)) (hw _ (List.mem_of_getElem? (i := 23) rfl)) e0 (g := (mkF m 1 #[.val (.ref r0)] [(.ref r0)])) rfl (by rw [hml]; rfl) rfl (hb hby d2_1) (by decide) (W := 0) (by show 2 * 0 + _ ≤ _; exact Nat.le_of_eq rfl) (by decide)
  refine own_go (fun t k => st1 _ k) ?_
  show own_Go p e below s _ _ _ (T1.setTop (mkF m 4 #[.val (.ref r0)] []))
  refine own_ret X1 (v := none) (fun _ => rfl) hlk ?_ (by decide) (by decide) (fun fs hr => X1.returnOut hx hret (hb hby d2_4) hr)
  show Q2 Z r0 h0 n0 (none) T1.heap _
  rw [e1]
  exact ⟨rfl, N0, rfl⟩
theorem pn_1 : plainName "com/example/lint_for_clocks/lintforclocks/model/Template" = true := by first | (simp [plainName, overriddenIn]; done) | decide +kernel
theorem d1_0 : decode prog_60_method_1_code 0 = .ok (.aload_n 0, 1) := by decide +kernel
theorem d1_1 : decode prog_60_method_1_code 1 = .ok (.invokespecial 1, 3) := by decide +kernel
theorem pd_0 : parseMethodDescriptor "()V" = some ⟨[], none⟩ := by decide +kernel
theorem d1_4 : decode prog_60_method_1_code 4 = .ok (.aload_n 0, 1) := by decide +kernel
theorem d1_5 : decode prog_60_method_1_code 5 = .ok (.aload_n 1, 1) := by decide +kernel
theorem d1_6 : decode prog_60_method_1_code 6 = .ok (.putfield 7, 3) := by decide +kernel
theorem d1_9 : decode prog_60_method_1_code 9 = .ok (.aload_n 0, 1) := by decide +kernel
theorem d1_10 : decode prog_60_method_1_code 10 = .ok (.iload_n 2, 1) := by decide +kernel
theorem d1_11 : decode prog_60_method_1_code 11 = .ok (.putfield 13, 3) := by decide +kernel
theorem d1_14 : decode prog_60_method_1_code 14 = .ok (.aload_n 0, 1) := by decide +kernel
theorem d1_15 : decode prog_60_method_1_code 15 = .ok (.aload_n 3, 1) := by decide +kernel
theorem d1_16 : decode prog_60_method_1_code 16 = .ok (.putfield 17, 3) := by decide +kernel
theorem d1_19 : decode prog_60_method_1_code 19 = .ok (.aload_n 0, 1) := by decide +kernel
theorem d1_20 : decode prog_60_method_1_code 20 = .ok (.aload 4, 2) := by decide +kernel
theorem d1_22 : decode prog_60_method_1_code 22 = .ok (.putfield 21, 3) := by decide +kernel
theorem d1_25 : decode prog_60_method_1_code 25 = .ok (.aload_n 0, 1) := by decide +kernel
theorem d1_26 : decode prog_60_method_1_code 26 = .ok (.aload 5, 2) := by decide +kernel
theorem d1_28 : decode prog_60_method_1_code 28 = .ok (.putfield 24, 3) := by decide +kernel
theorem d1_31 : decode prog_60_method_1_code 31 = .ok (.aload_n 0, 1) := by decide +kernel
theorem d1_32 : decode prog_60_method_1_code 32 = .ok (.aload 6, 2) := by decide +kernel
theorem d1_34 : decode prog_60_method_1_code 34 = .ok (.putfield 27, 3) := by decide +kernel
theorem d1_37 : decode prog_60_method_1_code 37 = .ok (.aload_n 0, 1) := by decide +kernel
theorem d1_38 : decode prog_60_method_1_code 38 = .ok (.aload 7, 2) := by decide +kernel
theorem d1_40 : decode prog_60_method_1_code 40 = .ok (.putfield 30, 3) := by decide +kernel
theorem d1_43 : decode prog_60_method_1_code 43 = .ok (.return_, 1) := by decide +kernel
theorem ef_1 (m : MethodId) (r0 : Addr) (r1 : Addr) (p2 : Int32) : entryFrame m #[(.ref r0), (.ref r1), (.int p2), .null, .null, .null, .null, .null] 8 = mkF m 0 #[.val (.ref r0), .val (.ref r1), .val (.int p2), .val .null, .val .null, .val .null, .val .null, .val .null] [] := by first | (simp [entryFrame, mkF, argsToLocals, Value.category]; done) | rfl
def Q1 (Z : State) (r0 : Addr) (r1 : Addr) (p2 : Int32) (h0 : Heap) (n0 : Nat) (v : Option Value) (h : Heap) (L : List Loc) : Prop := v = none ∧ Fr n0 L ∧ Keep h0 h [r0]
set_option maxRecDepth 65536 in
set_option maxHeartbeats 40000000 in
theorem rm1 (l : Launch) (Z : State) (a0 : Array Value) (hw : ∀ d ∈ tables_1, d.before a0 Z = true) (ws : List Jvm.Cond) (r0 : Addr) (r1 : Addr) (p2 : Int32) (h0 : Heap) (n0 : Nat) (Z0 : n0 ≤ h0.size) (F_name : Fld Z h0 r0 "com/example/lint_for_clocks/lintforclocks/model/Template" "name" "Ljava/lang/String;" .null) (F_line : Fld Z h0 r0 "com/example/lint_for_clocks/lintforclocks/model/Template" "line" "I" (.int (0 : Int32))) (F_parameters : Fld Z h0 r0 "com/example/lint_for_clocks/lintforclocks/model/Template" "parameters" "Ljava/util/List;" .null) (F_declarations : Fld Z h0 r0 "com/example/lint_for_clocks/lintforclocks/model/Template" "declarations" "Ljava/util/List;" .null) (F_locations : Fld Z h0 r0 "com/example/lint_for_clocks/lintforclocks/model/Template" "locations" "Ljava/util/List;" .null) (F_branchpoints : Fld Z h0 r0 "com/example/lint_for_clocks/lintforclocks/model/Template" "branchpoints" "Ljava/util/List;" .null) (F_edges : Fld Z h0 r0 "com/example/lint_for_clocks/lintforclocks/model/Template" "edges" "Ljava/util/List;" .null) (E0 : Exa Z h0 r0 "com/example/lint_for_clocks/lintforclocks/model/Template") (g0 : n0 ≤ r0) :
    MetFree l (⟨"com/example/lint_for_clocks/lintforclocks/model/Template", "<init>", "(Ljava/lang/String;ILjava/util/List;Ljava/util/List;Ljava/util/List;Ljava/util/List;Ljava/util/List;)V"⟩ : MethodName) (head1 (Jvm.Cond.code (⟨"com/example/lint_for_clocks/lintforclocks/model/Template", "<init>", "(Ljava/lang/String;ILjava/util/List;Ljava/util/List;Ljava/util/List;Ljava/util/List;Ljava/util/List;)V"⟩ : MethodName) prog_60_method_1_code 8 none :: ws) ({ frames := 2, cells := 0, slots := 0, locals := 24 } : Room)) (fun a U => a = #[(.ref r0), (.ref r1), (.int p2), .null, .null, .null, .null, .null] ∧ Z.Warmed39 U.vm ∧ U.heap = h0) (fun _ _ _ _ _ => True) (fun _ U o U' => ∃ v L, o = .returned v ∧ Q1 Z r0 r1 p2 h0 n0 v U'.heap L ∧ FrameEnd U o U' L (({ frames := 2, cells := 0, slots := 0, locals := 24 } : Room)).cells (({ frames := 2, cells := 0, slots := 0, locals := 24 } : Room)).slots) := by
  refine MetFree.of_bodySF (plainFor_of_name pn_1) hisR ?_
  intro p e s m args below meth c s₁ Bd hml0 hP hK
  obtain ⟨rfl, hZ, hh⟩ := hP
  have hx := Bd.exec
  have hby := Bd.bytes
  have hml : c.maxLocals = 8 := hml0
  have hown : s.vm.findClass "com/example/lint_for_clocks/lintforclocks/model/Template" = some m.cls := findClass_of_methodNamed Bd.named
  have hnm := (name_of_methodNamed Bd.named Bd.method).1
  have hlk : meth.locks = false := Bd.notSynchronized
  have X0 : Stand p l e ({ frames := 2, cells := 0, slots := 0, locals := 24 } : Room) s m #[(.ref r0), (.ref r1), (.int p2), .null, .null, .null, .null, .null] below meth c s₁ [] 0 0 := Stand.of_body Bd
  have e0 : s₁.heap = h0 := by rw [← hh, Bd.state]; rfl
  have N0 := Fr.nil n0
  have hret := Bd.returns
  show own_Go p e below s (Q1 Z r0 r1 p2 h0 n0) _ _ (s₁.setTop (entryFrame m #[(.ref r0), (.ref r1), (.int p2), .null, .null, .null, .null, .null] 8))
  refine own_go (fun t k => castTop (ef_1 m r0 r1 p2) k) ?_
  show own_Go p e below s _ _ _ (s₁.setTop (mkF m 0 #[.val (.ref r0), .val (.ref r1), .val (.int p2), .val .null, .val .null, .val .null, .val .null, .val .null] []))
  refine own_go (fun t k => XS.aloadN X0.here hx rfl (hb hby d1_0) rfl rfl k) ?_
  show own_Go p e below s _ _ _ (s₁.setTop (mkF m 1 #[.val (.ref r0), .val (.ref r1), .val (.int p2), .val .null, .val .null, .val .null, .val .null, .val .null] [(.ref r0)]))
  obtain ⟨_, _, ⟨T1, L1, k1, n1⟩, -, X1, ⟨Lc1, hQ1, l1, y1, z1⟩, st1⟩ := X0.specialBack hx (y := (⟨"java/lang/Record", "<init>", "()V"⟩ : MethodName)) rfl hown (mvT hZ (hw _ (List.mem_of_getElem? (i := 16) rfl))) (mvT hZ (hw _ (List.mem_of_getElem? (i := 17) rfl))) (mvT hZ (hw _ (List.mem_of_getElem? (i := 20) rfl))) (by decide) (backOf (W := 0) (rm2 l Z a0 hw [] (r0) h0 n0 Z0 ) hZ (hw _ (List.mem_of_getElem? (i := 20) rfl)) (hw _ (List.mem_of_getElem? (i := 19) rfl)) (by decide) (by decide)) (g := (mkF m 1 #[.val (.ref r0), .val (.ref r1), .val (.int p2), .val .null, .val .null, .val .null, .val .null, .val .null] [(.ref r0)])) rfl (by rw [hml]; rfl) (Steps.refl _) (a := r0) (argsL := []) (rest := []) (lenOf pd_0 rfl) rfl (by show 2 * 0 + _ ≤ _; exact Nat.le_of_eq rfl) (hb hby d1_1) (fun _ _ => ⟨rfl, e0, (by decide : 0 + 0 ≤ _), (by decide : 0 + 0 ≤ _)⟩)
  dsimp only [Pt.U, Pt.locs, Pt.cells, Pt.slots] at X1 l1 y1 z1 st1 hQ1
  subst l1 y1 z1
  obtain ⟨rfl, Nq1, eh1⟩ := hQ1
  have N1 := Fr.app N0 Nq1
  refine own_go (fun t k => st1.trans k) ?_
  have e1 : T1.heap = h0 := eh1
  show own_Go p e below s _ _ _ (T1.setTop (mkF m 4 #[.val (.ref r0), .val (.ref r1), .val (.int p2), .val .null, .val .null, .val .null, .val .null, .val .null] []))
  refine own_go (fun t k => XS.aloadN X1.here hx rfl (hb hby d1_4) rfl rfl k) ?_
  show own_Go p e below s _ _ _ (T1.setTop (mkF m 5 #[.val (.ref r0), .val (.ref r1), .val (.int p2), .val .null, .val .null, .val .null, .val .null, .val .null] [(.ref r0)]))
  refine own_go (fun t k => XS.aloadN X1.here hx rfl (hb hby d1_5) rfl rfl k) ?_
  show own_Go p e below s _ _ _ (T1.setTop (mkF m 6 #[.val (.ref r0), .val (.ref r1), .val (.int p2), .val .null, .val .null, .val .null, .val .null, .val .null] [(.ref r1), (.ref r0)]))
  obtain ⟨T2, h2, X2, e2, W2, st2⟩ := putF X1 hx hZ hown (host := "") (Or.inl (hw _ (List.mem_of_getElem? (i := 24) rfl))) Via.refl e1 F_name E0 (Or.inr ⟨(hw _ (List.mem_of_getElem? (i := 25) rfl)), rfl, hnm⟩) (hw _ (List.mem_of_getElem? (i := 3) rfl)) (ty := (.object "java/lang/String")) (by decide) rfl rfl (g := (mkF m 6 #[.val (.ref r0), .val (.ref r1), .val (.int p2), .val .null, .val .null, .val .null, .val .null, .val .null] [(.ref r1), (.ref r0)])) rfl rfl (hb hby d1_6)
  refine own_go (fun t k => st2 _ k) ?_
  have N2 := Fr.snoc X2 N1 g0
  have ZZ_2 : n0 ≤ h2.size := Nat.le_trans Z0 (Nat.le_of_eq W2.size.symm)
  have EE_2 : Exa Z h2 r0 "com/example/lint_for_clocks/lintforclocks/model/Template" := E0.wr W2
  have F_line_2 : Fld Z h2 r0 "com/example/lint_for_clocks/lintforclocks/model/Template" "line" "I" (.int (0 : Int32)) := F_line.other W2 (Or.inr (slot_ne (Or.inr (hw _ (List.mem_of_getElem? (i := 27) rfl))) (Or.inr (hw _ (List.mem_of_getElem? (i := 25) rfl))) (by decide) (t := .int) (t' := (.object "java/lang/String")) (by decide) (by decide)))
  have F_parameters_2 : Fld Z h2 r0 "com/example/lint_for_clocks/lintforclocks/model/Template" "parameters" "Ljava/util/List;" .null := F_parameters.other W2 (Or.inr (slot_ne (Or.inr (hw _ (List.mem_of_getElem? (i := 29) rfl))) (Or.inr (hw _ (List.mem_of_getElem? (i := 25) rfl))) (by decide) (t := (.object "java/util/List")) (t' := (.object "java/lang/String")) (by decide) (by decide)))
  have F_declarations_2 : Fld Z h2 r0 "com/example/lint_for_clocks/lintforclocks/model/Template" "declarations" "Ljava/util/List;" .null := F_declarations.other W2 (Or.inr (slot_ne (Or.inr (hw _ (List.mem_of_getElem? (i := 31) rfl))) (Or.inr (hw _ (List.mem_of_getElem? (i := 25) rfl))) (by decide) (t := (.object "java/util/List")) (t' := (.object "java/lang/String")) (by decide) (by decide)))
  have F_locations_2 : Fld Z h2 r0 "com/example/lint_for_clocks/lintforclocks/model/Template" "locations" "Ljava/util/List;" .null := F_locations.other W2 (Or.inr (slot_ne (Or.inr (hw _ (List.mem_of_getElem? (i := 33) rfl))) (Or.inr (hw _ (List.mem_of_getElem? (i := 25) rfl))) (by decide) (t := (.object "java/util/List")) (t' := (.object "java/lang/String")) (by decide) (by decide)))
  have F_branchpoints_2 : Fld Z h2 r0 "com/example/lint_for_clocks/lintforclocks/model/Template" "branchpoints" "Ljava/util/List;" .null := F_branchpoints.other W2 (Or.inr (slot_ne (Or.inr (hw _ (List.mem_of_getElem? (i := 35) rfl))) (Or.inr (hw _ (List.mem_of_getElem? (i := 25) rfl))) (by decide) (t := (.object "java/util/List")) (t' := (.object "java/lang/String")) (by decide) (by decide)))
  have F_edges_2 : Fld Z h2 r0 "com/example/lint_for_clocks/lintforclocks/model/Template" "edges" "Ljava/util/List;" .null := F_edges.other W2 (Or.inr (slot_ne (Or.inr (hw _ (List.mem_of_getElem? (i := 37) rfl))) (Or.inr (hw _ (List.mem_of_getElem? (i := 25) rfl))) (by decide) (t := (.object "java/util/List")) (t' := (.object "java/lang/String")) (by decide) (by decide)))
  have F_name_2 : Fld Z h2 r0 "com/example/lint_for_clocks/lintforclocks/model/Template" "name" "Ljava/lang/String;" (.ref r1) := F_name.same W2
  have K2 : Keep h0 h2 [r0] := (Keep.refl h0 [r0]).wr W2 (Or.inl (by simp))
  show own_Go p e below s _ _ _ (T2.setTop (mkF m 9 #[.val (.ref r0), .val (.ref r1), .val (.int p2), .val .null, .val .null, .val .null, .val .null, .val .null] []))
  refine own_go (fun t k => XS.aloadN X2.here hx rfl (hb hby d1_9) rfl rfl k) ?_
  show own_Go p e below s _ _ _ (T2.setTop (mkF m 10 #[.val (.ref r0), .val (.ref r1), .val (.int p2), .val .null, .val .null, .val .null, .val .null, .val .null] [(.ref r0)]))
  refine own_go (fun t k => XS.iloadN X2.here hx rfl (hb hby d1_10) rfl k) ?_
  show own_Go p e below s _ _ _ (T2.setTop (mkF m 11 #[.val (.ref r0), .val (.ref r1), .val (.int p2), .val .null, .val .null, .val .null, .val .null, .val .null] [(.int p2), (.ref r0)]))
  obtain ⟨T3, h3, X3, e3, W3, st3⟩ := putF X2 hx hZ hown (host := "") (Or.inl (hw _ (List.mem_of_getElem? (i := 26) rfl))) Via.refl e2 F_line_2 EE_2 (Or.inr ⟨(hw _ (List.mem_of_getElem? (i := 27) rfl)), rfl, hnm⟩) (hw _ (List.mem_of_getElem? (i := 3) rfl)) (ty := .int) (by decide) rfl rfl (g := (mkF m 11 #[.val (.ref r0), .val (.ref r1), .val (.int p2), .val .null, .val .null, .val .null, .val .null, .val .null] [(.int p2), (.ref r0)])) rfl rfl (hb hby d1_11)
  refine own_go (fun t k => st3 _ k) ?_
  have N3 := Fr.snoc X3 N2 g0
  have ZZ_3 : n0 ≤ h3.size := Nat.le_trans ZZ_2 (Nat.le_of_eq W3.size.symm)
  have EE_3 : Exa Z h3 r0 "com/example/lint_for_clocks/lintforclocks/model/Template" := EE_2.wr W3
  have F_name_3 : Fld Z h3 r0 "com/example/lint_for_clocks/lintforclocks/model/Template" "name" "Ljava/lang/String;" (.ref r1) := F_name_2.other W3 (Or.inr (slot_ne (Or.inr (hw _ (List.mem_of_getElem? (i := 25) rfl))) (Or.inr (hw _ (List.mem_of_getElem? (i := 27) rfl))) (by decide) (t := (.object "java/lang/String")) (t' := .int) (by decide) (by decide)))
  have F_parameters_3 : Fld Z h3 r0 "com/example/lint_for_clocks/lintforclocks/model/Template" "parameters" "Ljava/util/List;" .null := F_parameters_2.other W3 (Or.inr (slot_ne (Or.inr (hw _ (List.mem_of_getElem? (i := 29) rfl))) (Or.inr (hw _ (List.mem_of_getElem? (i := 27) rfl))) (by decide) (t := (.object "java/util/List")) (t' := .int) (by decide) (by decide)))
  have F_declarations_3 : Fld Z h3 r0 "com/example/lint_for_clocks/lintforclocks/model/Template" "declarations" "Ljava/util/List;" .null := F_declarations_2.other W3 (Or.inr (slot_ne (Or.inr (hw _ (List.mem_of_getElem? (i := 31) rfl))) (Or.inr (hw _ (List.mem_of_getElem? (i := 27) rfl))) (by decide) (t := (.object "java/util/List")) (t' := .int) (by decide) (by decide)))
  have F_locations_3 : Fld Z h3 r0 "com/example/lint_for_clocks/lintforclocks/model/Template" "locations" "Ljava/util/List;" .null := F_locations_2.other W3 (Or.inr (slot_ne (Or.inr (hw _ (List.mem_of_getElem? (i := 33) rfl))) (Or.inr (hw _ (List.mem_of_getElem? (i := 27) rfl))) (by decide) (t := (.object "java/util/List")) (t' := .int) (by decide) (by decide)))
  have F_branchpoints_3 : Fld Z h3 r0 "com/example/lint_for_clocks/lintforclocks/model/Template" "branchpoints" "Ljava/util/List;" .null := F_branchpoints_2.other W3 (Or.inr (slot_ne (Or.inr (hw _ (List.mem_of_getElem? (i := 35) rfl))) (Or.inr (hw _ (List.mem_of_getElem? (i := 27) rfl))) (by decide) (t := (.object "java/util/List")) (t' := .int) (by decide) (by decide)))
  have F_edges_3 : Fld Z h3 r0 "com/example/lint_for_clocks/lintforclocks/model/Template" "edges" "Ljava/util/List;" .null := F_edges_2.other W3 (Or.inr (slot_ne (Or.inr (hw _ (List.mem_of_getElem? (i := 37) rfl))) (Or.inr (hw _ (List.mem_of_getElem? (i := 27) rfl))) (by decide) (t := (.object "java/util/List")) (t' := .int) (by decide) (by decide)))
  have F_line_3 : Fld Z h3 r0 "com/example/lint_for_clocks/lintforclocks/model/Template" "line" "I" (.int p2) := F_line_2.same W3
  have K3 : Keep h0 h3 [r0] := K2.wr W3 (Or.inl (by simp))
  show own_Go p e below s _ _ _ (T3.setTop (mkF m 14 #[.val (.ref r0), .val (.ref r1), .val (.int p2), .val .null, .val .null, .val .null, .val .null, .val .null] []))
  refine own_go (fun t k => XS.aloadN X3.here hx rfl (hb hby d1_14) rfl rfl k) ?_
  show own_Go p e below s _ _ _ (T3.setTop (mkF m 15 #[.val (.ref r0), .val (.ref r1), .val (.int p2), .val .null, .val .null, .val .null, .val .null, .val .null] [(.ref r0)]))
  refine own_go (fun t k => XS.aloadN X3.here hx rfl (hb hby d1_15) rfl rfl k) ?_
  show own_Go p e below s _ _ _ (T3.setTop (mkF m 16 #[.val (.ref r0), .val (.ref r1), .val (.int p2), .val .null, .val .null, .val .null, .val .null, .val .null] [.null, (.ref r0)]))
  obtain ⟨T4, h4, X4, e4, W4, st4⟩ := putF X3 hx hZ hown (host := "") (Or.inl (hw _ (List.mem_of_getElem? (i := 28) rfl))) Via.refl e3 F_parameters_3 EE_3 (Or.inr ⟨(hw _ (List.mem_of_getElem? (i := 29) rfl)), rfl, hnm⟩) (hw _ (List.mem_of_getElem? (i := 3) rfl)) (ty := (.object "java/util/List")) (by decide) rfl rfl (g := (mkF m 16 #[.val (.ref r0), .val (.ref r1), .val (.int p2), .val .null, .val .null, .val .null, .val .null, .val .null] [.null, (.ref r0)])) rfl rfl (hb hby d1_16)
  refine own_go (fun t k => st4 _ k) ?_
  have N4 := Fr.snoc X4 N3 g0
  have ZZ_4 : n0 ≤ h4.size := Nat.le_trans ZZ_3 (Nat.le_of_eq W4.size.symm)
  have EE_4 : Exa Z h4 r0 "com/example/lint_for_clocks/lintforclocks/model/Template" := EE_3.wr W4
  have F_name_4 : Fld Z h4 r0 "com/example/lint_for_clocks/lintforclocks/model/Template" "name" "Ljava/lang/String;" (.ref r1) := F_name_3.other W4 (Or.inr (slot_ne (Or.inr (hw _ (List.mem_of_getElem? (i := 25) rfl))) (Or.inr (hw _ (List.mem_of_getElem? (i := 29) rfl))) (by decide) (t := (.object "java/lang/String")) (t' := (.object "java/util/List")) (by decide) (by decide)))
  have F_line_4 : Fld Z h4 r0 "com/example/lint_for_clocks/lintforclocks/model/Template" "line" "I" (.int p2) := F_line_3.other W4 (Or.inr (slot_ne (Or.inr (hw _ (List.mem_of_getElem? (i := 27) rfl))) (Or.inr (hw _ (List.mem_of_getElem? (i := 29) rfl))) (by decide) (t := .int) (t' := (.object "java/util/List")) (by decide) (by decide)))
  have F_declarations_4 : Fld Z h4 r0 "com/example/lint_for_clocks/lintforclocks/model/Template" "declarations" "Ljava/util/List;" .null := F_declarations_3.other W4 (Or.inr (slot_ne (Or.inr (hw _ (List.mem_of_getElem? (i := 31) rfl))) (Or.inr (hw _ (List.mem_of_getElem? (i := 29) rfl))) (by decide) (t := (.object "java/util/List")) (t' := (.object "java/util/List")) (by decide) (by decide)))
  have F_locations_4 : Fld Z h4 r0 "com/example/lint_for_clocks/lintforclocks/model/Template" "locations" "Ljava/util/List;" .null := F_locations_3.other W4 (Or.inr (slot_ne (Or.inr (hw _ (List.mem_of_getElem? (i := 33) rfl))) (Or.inr (hw _ (List.mem_of_getElem? (i := 29) rfl))) (by decide) (t := (.object "java/util/List")) (t' := (.object "java/util/List")) (by decide) (by decide)))
  have F_branchpoints_4 : Fld Z h4 r0 "com/example/lint_for_clocks/lintforclocks/model/Template" "branchpoints" "Ljava/util/List;" .null := F_branchpoints_3.other W4 (Or.inr (slot_ne (Or.inr (hw _ (List.mem_of_getElem? (i := 35) rfl))) (Or.inr (hw _ (List.mem_of_getElem? (i := 29) rfl))) (by decide) (t := (.object "java/util/List")) (t' := (.object "java/util/List")) (by decide) (by decide)))
  have F_edges_4 : Fld Z h4 r0 "com/example/lint_for_clocks/lintforclocks/model/Template" "edges" "Ljava/util/List;" .null := F_edges_3.other W4 (Or.inr (slot_ne (Or.inr (hw _ (List.mem_of_getElem? (i := 37) rfl))) (Or.inr (hw _ (List.mem_of_getElem? (i := 29) rfl))) (by decide) (t := (.object "java/util/List")) (t' := (.object "java/util/List")) (by decide) (by decide)))
  have F_parameters_4 : Fld Z h4 r0 "com/example/lint_for_clocks/lintforclocks/model/Template" "parameters" "Ljava/util/List;" .null := F_parameters_3.same W4
  have K4 : Keep h0 h4 [r0] := K3.wr W4 (Or.inl (by simp))
  show own_Go p e below s _ _ _ (T4.setTop (mkF m 19 #[.val (.ref r0), .val (.ref r1), .val (.int p2), .val .null, .val .null, .val .null, .val .null, .val .null] []))
  refine own_go (fun t k => XS.aloadN X4.here hx rfl (hb hby d1_19) rfl rfl k) ?_
  show own_Go p e below s _ _ _ (T4.setTop (mkF m 20 #[.val (.ref r0), .val (.ref r1), .val (.int p2), .val .null, .val .null, .val .null, .val .null, .val .null] [(.ref r0)]))
  refine own_go (fun t k => XS.aload X4.here hx rfl (hb hby d1_20) rfl rfl k) ?_
  show own_Go p e below s _ _ _ (T4.setTop (mkF m 22 #[.val (.ref r0), .val (.ref r1), .val (.int p2), .val .null, .val .null, .val .null, .val .null, .val .null] [.null, (.ref r0)]))
  obtain ⟨T5, h5, X5, e5, W5, st5⟩ := putF X4 hx hZ hown (host := "") (Or.inl (hw _ (List.mem_of_getElem? (i := 30) rfl))) Via.refl e4 F_declarations_4 EE_4 (Or.inr ⟨(hw _ (List.mem_of_getElem? (i := 31) rfl)), rfl, hnm⟩) (hw _ (List.mem_of_getElem? (i := 3) rfl)) (ty := (.object "java/util/List")) (by decide) rfl rfl (g := (mkF m 22 #[.val (.ref r0), .val (.ref r1), .val (.int p2), .val .null, .val .null, .val .null, .val .null, .val .null] [.null, (.ref r0)])) rfl rfl (hb hby d1_22)
  refine own_go (fun t k => st5 _ k) ?_
  have N5 := Fr.snoc X5 N4 g0
  have ZZ_5 : n0 ≤ h5.size := Nat.le_trans ZZ_4 (Nat.le_of_eq W5.size.symm)
  have EE_5 : Exa Z h5 r0 "com/example/lint_for_clocks/lintforclocks/model/Template" := EE_4.wr W5
  have F_name_5 : Fld Z h5 r0 "com/example/lint_for_clocks/lintforclocks/model/Template" "name" "Ljava/lang/String;" (.ref r1) := F_name_4.other W5 (Or.inr (slot_ne (Or.inr (hw _ (List.mem_of_getElem? (i := 25) rfl))) (Or.inr (hw _ (List.mem_of_getElem? (i := 31) rfl))) (by decide) (t := (.object "java/lang/String")) (t' := (.object "java/util/List")) (by decide) (by decide)))
  have F_line_5 : Fld Z h5 r0 "com/example/lint_for_clocks/lintforclocks/model/Template" "line" "I" (.int p2) := F_line_4.other W5 (Or.inr (slot_ne (Or.inr (hw _ (List.mem_of_getElem? (i := 27) rfl))) (Or.inr (hw _ (List.mem_of_getElem? (i := 31) rfl))) (by decide) (t := .int) (t' := (.object "java/util/List")) (by decide) (by decide)))
  have F_parameters_5 : Fld Z h5 r0 "com/example/lint_for_clocks/lintforclocks/model/Template" "parameters" "Ljava/util/List;" .null := F_parameters_4.other W5 (Or.inr (slot_ne (Or.inr (hw _ (List.mem_of_getElem? (i := 29) rfl))) (Or.inr (hw _ (List.mem_of_getElem? (i := 31) rfl))) (by decide) (t := (.object "java/util/List")) (t' := (.object "java/util/List")) (by decide) (by decide)))
  have F_locations_5 : Fld Z h5 r0 "com/example/lint_for_clocks/lintforclocks/model/Template" "locations" "Ljava/util/List;" .null := F_locations_4.other W5 (Or.inr (slot_ne (Or.inr (hw _ (List.mem_of_getElem? (i := 33) rfl))) (Or.inr (hw _ (List.mem_of_getElem? (i := 31) rfl))) (by decide) (t := (.object "java/util/List")) (t' := (.object "java/util/List")) (by decide) (by decide)))
  have F_branchpoints_5 : Fld Z h5 r0 "com/example/lint_for_clocks/lintforclocks/model/Template" "branchpoints" "Ljava/util/List;" .null := F_branchpoints_4.other W5 (Or.inr (slot_ne (Or.inr (hw _ (List.mem_of_getElem? (i := 35) rfl))) (Or.inr (hw _ (List.mem_of_getElem? (i := 31) rfl))) (by decide) (t := (.object "java/util/List")) (t' := (.object "java/util/List")) (by decide) (by decide)))
  have F_edges_5 : Fld Z h5 r0 "com/example/lint_for_clocks/lintforclocks/model/Template" "edges" "Ljava/util/List;" .null := F_edges_4.other W5 (Or.inr (slot_ne (Or.inr (hw _ (List.mem_of_getElem? (i := 37) rfl))) (Or.inr (hw _ (List.mem_of_getElem? (i := 31) rfl))) (by decide) (t := (.object "java/util/List")) (t' := (.object "java/util/List")) (by decide) (by decide)))
  have F_declarations_5 : Fld Z h5 r0 "com/example/lint_for_clocks/lintforclocks/model/Template" "declarations" "Ljava/util/List;" .null := F_declarations_4.same W5
  have K5 : Keep h0 h5 [r0] := K4.wr W5 (Or.inl (by simp))
  show own_Go p e below s _ _ _ (T5.setTop (mkF m 25 #[.val (.ref r0), .val (.ref r1), .val (.int p2), .val .null, .val .null, .val .null, .val .null, .val .null] []))
  refine own_go (fun t k => XS.aloadN X5.here hx rfl (hb hby d1_25) rfl rfl k) ?_
  show own_Go p e below s _ _ _ (T5.setTop (mkF m 26 #[.val (.ref r0), .val (.ref r1), .val (.int p2), .val .null, .val .null, .val .null, .val .null, .val .null] [(.ref r0)]))
  refine own_go (fun t k => XS.aload X5.here hx rfl (hb hby d1_26) rfl rfl k) ?_
  show own_Go p e below s _ _ _ (T5.setTop (mkF m 28 #[.val (.ref r0), .val (.ref r1), .val (.int p2), .val .null, .val .null, .val .null, .val .null, .val .null] [.null, (.ref r0)]))
  obtain ⟨T6, h6, X6, e6, W6, st6⟩ := putF X5 hx hZ hown (host := "") (Or.inl (hw _ (List.mem_of_getElem? (i := 32) rfl))) Via.refl e5 F_locations_5 EE_5 (Or.inr ⟨(hw _ (List.mem_of_getElem? (i := 33) rfl)), rfl, hnm⟩) (hw _ (List.mem_of_getElem? (i := 3) rfl)) (ty := (.object "java/util/List")) (by decide) rfl rfl (g := (mkF m 28 #[.val (.ref r0), .val (.ref r1), .val (.int p2), .val .null, .val .null, .val .null, .val .null, .val .null] [.null, (.ref r0)])) rfl rfl (hb hby d1_28)
  refine own_go (fun t k => st6 _ k) ?_
  have N6 := Fr.snoc X6 N5 g0
  have ZZ_6 : n0 ≤ h6.size := Nat.le_trans ZZ_5 (Nat.le_of_eq W6.size.symm)
  have EE_6 : Exa Z h6 r0 "com/example/lint_for_clocks/lintforclocks/model/Template" := EE_5.wr W6
  have F_name_6 : Fld Z h6 r0 "com/example/lint_for_clocks/lintforclocks/model/Template" "name" "Ljava/lang/String;" (.ref r1) := F_name_5.other W6 (Or.inr (slot_ne (Or.inr (hw _ (List.mem_of_getElem? (i := 25) rfl))) (Or.inr (hw _ (List.mem_of_getElem? (i := 33) rfl))) (by decide) (t := (.object "java/lang/String")) (t' := (.object "java/util/List")) (by decide) (by decide)))
  have F_line_6 : Fld Z h6 r0 "com/example/lint_for_clocks/lintforclocks/model/Template" "line" "I" (.int p2) := F_line_5.other W6 (Or.inr (slot_ne (Or.inr (hw _ (List.mem_of_getElem? (i := 27) rfl))) (Or.inr (hw _ (List.mem_of_getElem? (i := 33) rfl))) (by decide) (t := .int) (t' := (.object "java/util/List")) (by decide) (by decide)))
  have F_parameters_6 : Fld Z h6 r0 "com/example/lint_for_clocks/lintforclocks/model/Template" "parameters" "Ljava/util/List;" .null := F_parameters_5.other W6 (Or.inr (slot_ne (Or.inr (hw _ (List.mem_of_getElem? (i := 29) rfl))) (Or.inr (hw _ (List.mem_of_getElem? (i := 33) rfl))) (by decide) (t := (.object "java/util/List")) (t' := (.object "java/util/List")) (by decide) (by decide)))
  have F_declarations_6 : Fld Z h6 r0 "com/example/lint_for_clocks/lintforclocks/model/Template" "declarations" "Ljava/util/List;" .null := F_declarations_5.other W6 (Or.inr (slot_ne (Or.inr (hw _ (List.mem_of_getElem? (i := 31) rfl))) (Or.inr (hw _ (List.mem_of_getElem? (i := 33) rfl))) (by decide) (t := (.object "java/util/List")) (t' := (.object "java/util/List")) (by decide) (by decide)))
  have F_branchpoints_6 : Fld Z h6 r0 "com/example/lint_for_clocks/lintforclocks/model/Template" "branchpoints" "Ljava/util/List;" .null := F_branchpoints_5.other W6 (Or.inr (slot_ne (Or.inr (hw _ (List.mem_of_getElem? (i := 35) rfl))) (Or.inr (hw _ (List.mem_of_getElem? (i := 33) rfl))) (by decide) (t := (.object "java/util/List")) (t' := (.object "java/util/List")) (by decide) (by decide)))
  have F_edges_6 : Fld Z h6 r0 "com/example/lint_for_clocks/lintforclocks/model/Template" "edges" "Ljava/util/List;" .null := F_edges_5.other W6 (Or.inr (slot_ne (Or.inr (hw _ (List.mem_of_getElem? (i := 37) rfl))) (Or.inr (hw _ (List.mem_of_getElem? (i := 33) rfl))) (by decide) (t := (.object "java/util/List")) (t' := (.object "java/util/List")) (by decide) (by decide)))
  have F_locations_6 : Fld Z h6 r0 "com/example/lint_for_clocks/lintforclocks/model/Template" "locations" "Ljava/util/List;" .null := F_locations_5.same W6
  have K6 : Keep h0 h6 [r0] := K5.wr W6 (Or.inl (by simp))
  show own_Go p e below s _ _ _ (T6.setTop (mkF m 31 #[.val (.ref r0), .val (.ref r1), .val (.int p2), .val .null, .val .null, .val .null, .val .null, .val .null] []))
  refine own_go (fun t k => XS.aloadN X6.here hx rfl (hb hby d1_31) rfl rfl k) ?_
  show own_Go p e below s _ _ _ (T6.setTop (mkF m 32 #[.val (.ref r0), .val (.ref r1), .val (.int p2), .val .null, .val .null, .val .null, .val .null, .val .null] [(.ref r0)]))
  refine own_go (fun t k => XS.aload X6.here hx rfl (hb hby d1_32) rfl rfl k) ?_
  show own_Go p e below s _ _ _ (T6.setTop (mkF m 34 #[.val (.ref r0), .val (.ref r1), .val (.int p2), .val .null, .val .null, .val .null, .val .null, .val .null] [.null, (.ref r0)]))
  obtain ⟨T7, h7, X7, e7, W7, st7⟩ := putF X6 hx hZ hown (host := "") (Or.inl (hw _ (List.mem_of_getElem? (i := 34) rfl))) Via.refl e6 F_branchpoints_6 EE_6 (Or.inr ⟨(hw _ (List.mem_of_getElem? (i := 35) rfl)), rfl, hnm⟩) (hw _ (List.mem_of_getElem? (i := 3) rfl)) (ty := (.object "java/util/List")) (by decide) rfl rfl (g := (mkF m 34 #[.val (.ref r0), .val (.ref r1), .val (.int p2), .val .null, .val .null, .val .null, .val .null, .val .null] [.null, (.ref r0)])) rfl rfl (hb hby d1_34)
  refine own_go (fun t k => st7 _ k) ?_
  have N7 := Fr.snoc X7 N6 g0
  have ZZ_7 : n0 ≤ h7.size := Nat.le_trans ZZ_6 (Nat.le_of_eq W7.size.symm)
  have EE_7 : Exa Z h7 r0 "com/example/lint_for_clocks/lintforclocks/model/Template" := EE_6.wr W7
  have F_name_7 : Fld Z h7 r0 "com/example/lint_for_clocks/lintforclocks/model/Template" "name" "Ljava/lang/String;" (.ref r1) := F_name_6.other W7 (Or.inr (slot_ne (Or.inr (hw _ (List.mem_of_getElem? (i := 25) rfl))) (Or.inr (hw _ (List.mem_of_getElem? (i := 35) rfl))) (by decide) (t := (.object "java/lang/String")) (t' := (.object "java/util/List")) (by decide) (by decide)))
  have F_line_7 : Fld Z h7 r0 "com/example/lint_for_clocks/lintforclocks/model/Template" "line" "I" (.int p2) := F_line_6.other W7 (Or.inr (slot_ne (Or.inr (hw _ (List.mem_of_getElem? (i := 27) rfl))) (Or.inr (hw _ (List.mem_of_getElem? (i := 35) rfl))) (by decide) (t := .int) (t' := (.object "java/util/List")) (by decide) (by decide)))
  have F_parameters_7 : Fld Z h7 r0 "com/example/lint_for_clocks/lintforclocks/model/Template" "parameters" "Ljava/util/List;" .null := F_parameters_6.other W7 (Or.inr (slot_ne (Or.inr (hw _ (List.mem_of_getElem? (i := 29) rfl))) (Or.inr (hw _ (List.mem_of_getElem? (i := 35) rfl))) (by decide) (t := (.object "java/util/List")) (t' := (.object "java/util/List")) (by decide) (by decide)))
  have F_declarations_7 : Fld Z h7 r0 "com/example/lint_for_clocks/lintforclocks/model/Template" "declarations" "Ljava/util/List;" .null := F_declarations_6.other W7 (Or.inr (slot_ne (Or.inr (hw _ (List.mem_of_getElem? (i := 31) rfl))) (Or.inr (hw _ (List.mem_of_getElem? (i := 35) rfl))) (by decide) (t := (.object "java/util/List")) (t' := (.object "java/util/List")) (by decide) (by decide)))
  have F_locations_7 : Fld Z h7 r0 "com/example/lint_for_clocks/lintforclocks/model/Template" "locations" "Ljava/util/List;" .null := F_locations_6.other W7 (Or.inr (slot_ne (Or.inr (hw _ (List.mem_of_getElem? (i := 33) rfl))) (Or.inr (hw _ (List.mem_of_getElem? (i := 35) rfl))) (by decide) (t := (.object "java/util/List")) (t' := (.object "java/util/List")) (by decide) (by decide)))
  have F_edges_7 : Fld Z h7 r0 "com/example/lint_for_clocks/lintforclocks/model/Template" "edges" "Ljava/util/List;" .null := F_edges_6.other W7 (Or.inr (slot_ne (Or.inr (hw _ (List.mem_of_getElem? (i := 37) rfl))) (Or.inr (hw _ (List.mem_of_getElem? (i := 35) rfl))) (by decide) (t := (.object "java/util/List")) (t' := (.object "java/util/List")) (by decide) (by decide)))
  have F_branchpoints_7 : Fld Z h7 r0 "com/example/lint_for_clocks/lintforclocks/model/Template" "branchpoints" "Ljava/util/List;" .null := F_branchpoints_6.same W7
  have K7 : Keep h0 h7 [r0] := K6.wr W7 (Or.inl (by simp))
  show own_Go p e below s _ _ _ (T7.setTop (mkF m 37 #[.val (.ref r0), .val (.ref r1), .val (.int p2), .val .null, .val .null, .val .null, .val .null, .val .null] []))
  refine own_go (fun t k => XS.aloadN X7.here hx rfl (hb hby d1_37) rfl rfl k) ?_
  show own_Go p e below s _ _ _ (T7.setTop (mkF m 38 #[.val (.ref r0), .val (.ref r1), .val (.int p2), .val .null, .val .null, .val .null, .val .null, .val .null] [(.ref r0)]))
  refine own_go (fun t k => XS.aload X7.here hx rfl (hb hby d1_38) rfl rfl k) ?_
  show own_Go p e below s _ _ _ (T7.setTop (mkF m 40 #[.val (.ref r0), .val (.ref r1), .val (.int p2), .val .null, .val .null, .val .null, .val .null, .val .null] [.null, (.ref r0)]))
  obtain ⟨T8, h8, X8, e8, W8, st8⟩ := putF X7 hx hZ hown (host := "") (Or.inl (hw _ (List.mem_of_getElem? (i := 36) rfl))) Via.refl e7 F_edges_7 EE_7 (Or.inr ⟨(hw _ (List.mem_of_getElem? (i := 37) rfl)), rfl, hnm⟩) (hw _ (List.mem_of_getElem? (i := 3) rfl)) (ty := (.object "java/util/List")) (by decide) rfl rfl (g := (mkF m 40 #[.val (.ref r0), .val (.ref r1), .val (.int p2), .val .null, .val .null, .val .null, .val .null, .val .null] [.null, (.ref r0)])) rfl rfl (hb hby d1_40)
  refine own_go (fun t k => st8 _ k) ?_
  have N8 := Fr.snoc X8 N7 g0
  have ZZ_8 : n0 ≤ h8.size := Nat.le_trans ZZ_7 (Nat.le_of_eq W8.size.symm)
  have EE_8 : Exa Z h8 r0 "com/example/lint_for_clocks/lintforclocks/model/Template" := EE_7.wr W8
  have F_name_8 : Fld Z h8 r0 "com/example/lint_for_clocks/lintforclocks/model/Template" "name" "Ljava/lang/String;" (.ref r1) := F_name_7.other W8 (Or.inr (slot_ne (Or.inr (hw _ (List.mem_of_getElem? (i := 25) rfl))) (Or.inr (hw _ (List.mem_of_getElem? (i := 37) rfl))) (by decide) (t := (.object "java/lang/String")) (t' := (.object "java/util/List")) (by decide) (by decide)))
  have F_line_8 : Fld Z h8 r0 "com/example/lint_for_clocks/lintforclocks/model/Template" "line" "I" (.int p2) := F_line_7.other W8 (Or.inr (slot_ne (Or.inr (hw _ (List.mem_of_getElem? (i := 27) rfl))) (Or.inr (hw _ (List.mem_of_getElem? (i := 37) rfl))) (by decide) (t := .int) (t' := (.object "java/util/List")) (by decide) (by decide)))
  have F_parameters_8 : Fld Z h8 r0 "com/example/lint_for_clocks/lintforclocks/model/Template" "parameters" "Ljava/util/List;" .null := F_parameters_7.other W8 (Or.inr (slot_ne (Or.inr (hw _ (List.mem_of_getElem? (i := 29) rfl))) (Or.inr (hw _ (List.mem_of_getElem? (i := 37) rfl))) (by decide) (t := (.object "java/util/List")) (t' := (.object "java/util/List")) (by decide) (by decide)))
  have F_declarations_8 : Fld Z h8 r0 "com/example/lint_for_clocks/lintforclocks/model/Template" "declarations" "Ljava/util/List;" .null := F_declarations_7.other W8 (Or.inr (slot_ne (Or.inr (hw _ (List.mem_of_getElem? (i := 31) rfl))) (Or.inr (hw _ (List.mem_of_getElem? (i := 37) rfl))) (by decide) (t := (.object "java/util/List")) (t' := (.object "java/util/List")) (by decide) (by decide)))
  have F_locations_8 : Fld Z h8 r0 "com/example/lint_for_clocks/lintforclocks/model/Template" "locations" "Ljava/util/List;" .null := F_locations_7.other W8 (Or.inr (slot_ne (Or.inr (hw _ (List.mem_of_getElem? (i := 33) rfl))) (Or.inr (hw _ (List.mem_of_getElem? (i := 37) rfl))) (by decide) (t := (.object "java/util/List")) (t' := (.object "java/util/List")) (by decide) (by decide)))
  have F_branchpoints_8 : Fld Z h8 r0 "com/example/lint_for_clocks/lintforclocks/model/Template" "branchpoints" "Ljava/util/List;" .null := F_branchpoints_7.other W8 (Or.inr (slot_ne (Or.inr (hw _ (List.mem_of_getElem? (i := 35) rfl))) (Or.inr (hw _ (List.mem_of_getElem? (i := 37) rfl))) (by decide) (t := (.object "java/util/List")) (t' := (.object "java/util/List")) (by decide) (by decide)))
  have F_edges_8 : Fld Z h8 r0 "com/example/lint_for_clocks/lintforclocks/model/Template" "edges" "Ljava/util/List;" .null := F_edges_7.same W8
  have K8 : Keep h0 h8 [r0] := K7.wr W8 (Or.inl (by simp))
  show own_Go p e below s _ _ _ (T8.setTop (mkF m 43 #[.val (.ref r0), .val (.ref r1), .val (.int p2), .val .null, .val .null, .val .null, .val .null, .val .null] []))
  refine own_ret X8 (v := none) (fun _ => rfl) hlk ?_ (by decide) (by decide) (fun fs hr => X8.returnOut hx hret (hb hby d1_43) hr)
  show Q1 Z r0 r1 p2 h0 n0 (none) T8.heap _
  rw [e8]
  exact ⟨rfl, N8, K8⟩
theorem pn_2 : plainName "com/example/lint_for_clocks/lintforclocks/rules/Steps" = true := by first | (simp [plainName, overriddenIn]; done) | decide +kernel
theorem d4_0 : decode prog_88_method_1_code 0 = .ok (.aload_n 0, 1) := by decide +kernel
theorem d4_1 : decode prog_88_method_1_code 1 = .ok (.invokespecial 1, 3) := by decide +kernel
theorem d4_4 : decode prog_88_method_1_code 4 = .ok (.return_, 1) := by decide +kernel
theorem ef_4 (m : MethodId) (r0 : Addr) : entryFrame m #[(.ref r0)] 1 = mkF m 0 #[.val (.ref r0)] [] := by first | (simp [entryFrame, mkF, argsToLocals, Value.category]; done) | rfl
def Q4 (Z : State) (r0 : Addr) (h0 : Heap) (n0 : Nat) (v : Option Value) (h : Heap) (L : List Loc) : Prop := v = none ∧ Fr n0 L ∧ h = h0
set_option maxRecDepth 65536 in
set_option maxHeartbeats 40000000 in
theorem rm4 (l : Launch) (Z : State) (a0 : Array Value) (hw : ∀ d ∈ tables_1, d.before a0 Z = true) (ws : List Jvm.Cond) (r0 : Addr) (h0 : Heap) (n0 : Nat) (Z0 : n0 ≤ h0.size) :
    MetFree l (⟨"com/example/lint_for_clocks/lintforclocks/rules/Steps", "<init>", "()V"⟩ : MethodName) (head1 (Jvm.Cond.code (⟨"com/example/lint_for_clocks/lintforclocks/rules/Steps", "<init>", "()V"⟩ : MethodName) prog_88_method_1_code 1 none :: ws) ({ frames := 1, cells := 0, slots := 0, locals := 12 } : Room)) (fun a U => a = #[(.ref r0)] ∧ Z.Warmed39 U.vm ∧ U.heap = h0) (fun _ _ _ _ _ => True) (fun _ U o U' => ∃ v L, o = .returned v ∧ Q4 Z r0 h0 n0 v U'.heap L ∧ FrameEnd U o U' L (({ frames := 1, cells := 0, slots := 0, locals := 12 } : Room)).cells (({ frames := 1, cells := 0, slots := 0, locals := 12 } : Room)).slots) := by
  refine MetFree.of_bodySF (plainFor_of_name pn_2) hisR ?_
  intro p e s m args below meth c s₁ Bd hml0 hP hK
  obtain ⟨rfl, hZ, hh⟩ := hP
  have hx := Bd.exec
  have hby := Bd.bytes
  have hml : c.maxLocals = 1 := hml0
  have hown : s.vm.findClass "com/example/lint_for_clocks/lintforclocks/rules/Steps" = some m.cls := findClass_of_methodNamed Bd.named
  have hnm := (name_of_methodNamed Bd.named Bd.method).1
  have hlk : meth.locks = false := Bd.notSynchronized
  have X0 : Stand p l e ({ frames := 1, cells := 0, slots := 0, locals := 12 } : Room) s m #[(.ref r0)] below meth c s₁ [] 0 0 := Stand.of_body Bd
  have e0 : s₁.heap = h0 := by rw [← hh, Bd.state]; rfl
  have N0 := Fr.nil n0
  have hret := Bd.returns
  show own_Go p e below s (Q4 Z r0 h0 n0) _ _ (s₁.setTop (entryFrame m #[(.ref r0)] 1))
  refine own_go (fun t k => castTop (ef_4 m r0) k) ?_
  show own_Go p e below s _ _ _ (s₁.setTop (mkF m 0 #[.val (.ref r0)] []))
  refine own_go (fun t k => XS.aloadN X0.here hx rfl (hb hby d4_0) rfl rfl k) ?_
  show own_Go p e below s _ _ _ (s₁.setTop (mkF m 1 #[.val (.ref r0)] [(.ref r0)]))
  obtain ⟨T1, X1, e1, st1⟩ := initO X0 hx hZ hown (hw _ (List.mem_of_getElem? (i := 44) rfl)) (hw _ (List.mem_of_getElem? (i := 22) rfl)) (hw _ (List.mem_of_getElem? (i := 23) rfl)) e0 (g := (mkF m 1 #[.val (.ref r0)] [(.ref r0)])) rfl (by rw [hml]; rfl) rfl (hb hby d4_1) (by decide) (W := 0) (by show 2 * 0 + _ ≤ _; exact Nat.le_of_eq rfl) (by decide)
  refine own_go (fun t k => st1 _ k) ?_
  show own_Go p e below s _ _ _ (T1.setTop (mkF m 4 #[.val (.ref r0)] []))
  refine own_ret X1 (v := none) (fun _ => rfl) hlk ?_ (by decide) (by decide) (fun fs hr => X1.returnOut hx hret (hb hby d4_4) hr)
  show Q4 Z r0 h0 n0 (none) T1.heap _
  rw [e1]
  exact ⟨rfl, N0, rfl⟩
theorem d5_0 : decode prog_88_method_2_code 0 = .ok (.aload_n 0, 1) := by decide +kernel
theorem d5_1 : decode prog_88_method_2_code 1 = .ok (.dup, 1) := by decide +kernel
theorem d5_2 : decode prog_88_method_2_code 2 = .ok (.getfield 7, 3) := by decide +kernel
theorem d5_5 : decode prog_88_method_2_code 5 = .ok (.lload_n 1, 1) := by decide +kernel
theorem d5_6 : decode prog_88_method_2_code 6 = .ok (.ladd, 1) := by decide +kernel
theorem d5_7 : decode prog_88_method_2_code 7 = .ok (.putfield 7, 3) := by decide +kernel
theorem d5_10 : decode prog_88_method_2_code 10 = .ok (.aload_n 0, 1) := by decide +kernel
theorem d5_11 : decode prog_88_method_2_code 11 = .ok (.getfield 7, 3) := by decide +kernel
theorem d5_14 : decode prog_88_method_2_code 14 = .ok (.ldc2_w 13, 3) := by decide +kernel
theorem d5_17 : decode prog_88_method_2_code 17 = .ok (.lcmp, 1) := by decide +kernel
theorem d5_18 : decode prog_88_method_2_code 18 = .ok (.ifCond .le 24, 3) := by decide +kernel
theorem d5_42 : decode prog_88_method_2_code 42 = .ok (.return_, 1) := by decide +kernel
theorem ef_5 (m : MethodId) (r0 : Addr) (q1 : Int64) (r2 : Addr) : entryFrame m #[(.ref r0), (.long q1), (.ref r2)] 4 = mkF m 0 #[.val (.ref r0), .val (.long q1), .second, .val (.ref r2)] [] := by first | (simp [entryFrame, mkF, argsToLocals, Value.category]; done) | rfl
def Q5 (Z : State) (r0 : Addr) (q1 : Int64) (r2 : Addr) (sp : Int64) (h0 : Heap) (n0 : Nat) (v : Option Value) (h : Heap) (L : List Loc) : Prop := v = none ∧ Fr n0 L ∧ Keep h0 h [r0] ∧ Fld Z h r0 "com/example/lint_for_clocks/lintforclocks/rules/Steps" "spent" "J" (.long (sp + q1))
set_option maxRecDepth 65536 in
set_option maxHeartbeats 40000000 in
theorem rm5 (l : Launch) (Z : State) (a0 : Array Value) (hw : ∀ d ∈ tables_1, d.before a0 Z = true) (ws : List Jvm.Cond) (r0 : Addr) (q1 : Int64) (r2 : Addr) (sp : Int64) (h0 : Heap) (n0 : Nat) (Z0 : n0 ≤ h0.size) (F0 : Fld Z h0 r0 "com/example/lint_for_clocks/lintforclocks/rules/Steps" "spent" "J" (.long sp)) (E0 : Exa Z h0 r0 "com/example/lint_for_clocks/lintforclocks/rules/Steps") (g0 : n0 ≤ r0) (hb0 : (sp + q1).toInt ≤ 5000000) :
    MetFree l (⟨"com/example/lint_for_clocks/lintforclocks/rules/Steps", "spend", "(JLcom/example/lint_for_clocks/lintforclocks/model/Template;)V"⟩ : MethodName) (head1 (Jvm.Cond.code (⟨"com/example/lint_for_clocks/lintforclocks/rules/Steps", "spend", "(JLcom/example/lint_for_clocks/lintforclocks/model/Template;)V"⟩ : MethodName) prog_88_method_2_code 4 none :: ws) ({ frames := 0, cells := 0, slots := 0, locals := 0 } : Room)) (fun a U => a = #[(.ref r0), (.long q1), (.ref r2)] ∧ Z.Warmed39 U.vm ∧ U.heap = h0) (fun _ _ _ _ _ => True) (fun _ U o U' => ∃ v L, o = .returned v ∧ Q5 Z r0 q1 r2 sp h0 n0 v U'.heap L ∧ FrameEnd U o U' L (({ frames := 0, cells := 0, slots := 0, locals := 0 } : Room)).cells (({ frames := 0, cells := 0, slots := 0, locals := 0 } : Room)).slots) := by
  refine MetFree.of_bodySF (plainFor_of_name pn_2) hisR ?_
  intro p e s m args below meth c s₁ Bd hml0 hP hK
  obtain ⟨rfl, hZ, hh⟩ := hP
  have hx := Bd.exec
  have hby := Bd.bytes
  have hml : c.maxLocals = 4 := hml0
  have hown : s.vm.findClass "com/example/lint_for_clocks/lintforclocks/rules/Steps" = some m.cls := findClass_of_methodNamed Bd.named
  have hnm := (name_of_methodNamed Bd.named Bd.method).1
  have hlk : meth.locks = false := Bd.notSynchronized
  have X0 : Stand p l e ({ frames := 0, cells := 0, slots := 0, locals := 0 } : Room) s m #[(.ref r0), (.long q1), (.ref r2)] below meth c s₁ [] 0 0 := Stand.of_body Bd
  have e0 : s₁.heap = h0 := by rw [← hh, Bd.state]; rfl
  have N0 := Fr.nil n0
  have hret := Bd.returns
  show own_Go p e below s (Q5 Z r0 q1 r2 sp h0 n0) _ _ (s₁.setTop (entryFrame m #[(.ref r0), (.long q1), (.ref r2)] 4))
  refine own_go (fun t k => castTop (ef_5 m r0 q1 r2) k) ?_
  show own_Go p e below s _ _ _ (s₁.setTop (mkF m 0 #[.val (.ref r0), .val (.long q1), .second, .val (.ref r2)] []))
  refine own_go (fun t k => XS.aloadN X0.here hx rfl (hb hby d5_0) rfl rfl k) ?_
  show own_Go p e below s _ _ _ (s₁.setTop (mkF m 1 #[.val (.ref r0), .val (.long q1), .second, .val (.ref r2)] [(.ref r0)]))
  refine own_go (fun t k => XS.dup X0.here hx rfl (hb hby d5_1) rfl rfl k) ?_
  show own_Go p e below s _ _ _ (s₁.setTop (mkF m 2 #[.val (.ref r0), .val (.long q1), .second, .val (.ref r2)] [(.ref r0), (.ref r0)]))
  obtain ⟨T1, X1, e1, st1⟩ := getF X0 hx hZ hown (host := "") (Or.inl (hw _ (List.mem_of_getElem? (i := 50) rfl))) Via.refl e0 F0 (g := (mkF m 2 #[.val (.ref r0), .val (.long q1), .second, .val (.ref r2)] [(.ref r0), (.ref r0)])) rfl rfl (hb hby d5_2)
  refine own_go (fun t k => st1 _ k) ?_
  show own_Go p e below s _ _ _ (T1.setTop (mkF m 5 #[.val (.ref r0), .val (.long q1), .second, .val (.ref r2)] [(.long sp), (.ref r0)]))
  refine own_go (fun t k => XS.lloadN X1.here hx rfl (hb hby d5_5) rfl k) ?_
  show own_Go p e below s _ _ _ (T1.setTop (mkF m 6 #[.val (.ref r0), .val (.long q1), .second, .val (.ref r2)] [(.long q1), (.long sp), (.ref r0)]))
  refine own_go (fun t k => XS.ladd X1.here hx rfl (hb hby d5_6) rfl k) ?_
  show own_Go p e below s _ _ _ (T1.setTop (mkF m 7 #[.val (.ref r0), .val (.long q1), .second, .val (.ref r2)] [(.long (sp + q1)), (.ref r0)]))
  obtain ⟨T2, h2, X2, e2, W2, st2⟩ := putF X1 hx hZ hown (host := "") (Or.inl (hw _ (List.mem_of_getElem? (i := 50) rfl))) Via.refl e1 F0 E0 (Or.inl (hw _ (List.mem_of_getElem? (i := 51) rfl))) (hw _ (List.mem_of_getElem? (i := 39) rfl)) (ty := .long) (by decide) rfl rfl (g := (mkF m 7 #[.val (.ref r0), .val (.long q1), .second, .val (.ref r2)] [(.long (sp + q1)), (.ref r0)])) rfl rfl (hb hby d5_7)
  refine own_go (fun t k => st2 _ k) ?_
  have N2 := Fr.snoc X2 N0 g0
  have ZZ_2 : n0 ≤ h2.size := Nat.le_trans Z0 (Nat.le_of_eq W2.size.symm)
  have EE_2 : Exa Z h2 r0 "com/example/lint_for_clocks/lintforclocks/rules/Steps" := E0.wr W2
  have FF_2 : Fld Z h2 r0 "com/example/lint_for_clocks/lintforclocks/rules/Steps" "spent" "J" (.long (sp + q1)) := F0.same W2
  have K2 : Keep h0 h2 [r0] := (Keep.refl h0 [r0]).wr W2 (Or.inl (by simp))
  show own_Go p e below s _ _ _ (T2.setTop (mkF m 10 #[.val (.ref r0), .val (.long q1), .second, .val (.ref r2)] []))
  refine own_go (fun t k => XS.aloadN X2.here hx rfl (hb hby d5_10) rfl rfl k) ?_
  show own_Go p e below s _ _ _ (T2.setTop (mkF m 11 #[.val (.ref r0), .val (.long q1), .second, .val (.ref r2)] [(.ref r0)]))
  obtain ⟨T3, X3, e3, st3⟩ := getF X2 hx hZ hown (host := "") (Or.inl (hw _ (List.mem_of_getElem? (i := 50) rfl))) Via.refl e2 FF_2 (g := (mkF m 11 #[.val (.ref r0), .val (.long q1), .second, .val (.ref r2)] [(.ref r0)])) rfl rfl (hb hby d5_11)
  refine own_go (fun t k => st3 _ k) ?_
  show own_Go p e below s _ _ _ (T3.setTop (mkF m 14 #[.val (.ref r0), .val (.long q1), .second, .val (.ref r2)] [(.long (sp + q1))]))
  refine own_go (fun t k => X3.ldc2Long hx hown (mvT hZ (hw _ (List.mem_of_getElem? (i := 52) rfl))) (g := (mkF m 14 #[.val (.ref r0), .val (.long q1), .second, .val (.ref r2)] [(.long (sp + q1))])) rfl (hb hby d5_14) _ k) ?_
  show own_Go p e below s _ _ _ (T3.setTop (mkF m 17 #[.val (.ref r0), .val (.long q1), .second, .val (.ref r2)] [(.long (5000000 : Int64)), (.long (sp + q1))]))
  refine own_go (fun t k => XS.lcmp X3.here hx rfl (hb hby d5_17) rfl k) ?_
  show own_Go p e below s _ _ _ (T3.setTop (mkF m 18 #[.val (.ref r0), .val (.long q1), .second, .val (.ref r2)] [(.int (lcmpW (sp + q1) (5000000 : Int64)))]))
  refine own_go (fun t k => XS.ifYes X3.here hx rfl (pc0 := 18) (pc' := 42) rfl (hb hby d5_18) rfl ((if0 _ _).trans (flt (fun q => (own_nlt (show (sp + q1).toInt ≤ (5000000 : Int64).toInt from by rw [own_5]; exact hb0)) ((lw_gt (sp + q1) (5000000 : Int64)).mp q))).2.2.2) (by decide) (by decide) k) ?_
  show own_Go p e below s _ _ _ (T3.setTop (mkF m 42 #[.val (.ref r0), .val (.long q1), .second, .val (.ref r2)] []))
  refine own_ret X3 (v := none) (fun _ => rfl) hlk ?_ (by decide) (by decide) (fun fs hr => X3.returnOut hx hret (hb hby d5_42) hr)
  show Q5 Z r0 q1 r2 sp h0 n0 (none) T3.heap _
  rw [e3]
  exact ⟨rfl, N2, K2, FF_2⟩
theorem pn_3 : plainName "com/example/lint_for_clocks/lintforclocks/rules/StepsSpendPinLaw" = true := by first | (simp [plainName, overriddenIn]; done) | decide +kernel
theorem pd_1 : parseMethodDescriptor "(Ljava/lang/String;ILjava/util/List;Ljava/util/List;Ljava/util/List;Ljava/util/List;Ljava/util/List;)V" = some ⟨[(.object "java/lang/String"), .int, (.object "java/util/List"), (.object "java/util/List"), (.object "java/util/List"), (.object "java/util/List"), (.object "java/util/List")], none⟩ := by decide +kernel
theorem pd_2 : parseMethodDescriptor "(JLcom/example/lint_for_clocks/lintforclocks/model/Template;)V" = some ⟨[.long, (.object "com/example/lint_for_clocks/lintforclocks/model/Template")], none⟩ := by decide +kernel
theorem ef_0 (m : MethodId) (q0 : Int64) (q1 : Int64) (q2 : Int64) (p3 : Int32) : entryFrame m #[(.long q0), (.long q1), (.long q2), (.int p3)] maxLocals = mkF m 0 #[.val (.long q0), .second, .val (.long q1), .second, .val (.long q2), .second, .val (.int p3), .unset, .unset, .unset, .unset, .unset, .unset, .unset, .unset, .unset, .unset, .unset, .unset] [] := by first | (simp [entryFrame, mkF, argsToLocals, Value.category, maxLocals]; done) | rfl
def Q0 (Z : State) (q0 : Int64) (q1 : Int64) (q2 : Int64) (p3 : Int32) (h0 : Heap) (n0 : Nat) (v : Option Value) (h : Heap) (L : List Loc) : Prop := v = some (.int 1) ∧ Fr n0 L
set_option maxRecDepth 65536 in
set_option maxHeartbeats 40000000 in
theorem rm0 (l : Launch) (Z : State) (a0 : Array Value) (hw : ∀ d ∈ tables_1, d.before a0 Z = true) (ws : List Jvm.Cond) (q0 : Int64) (q1 : Int64) (q2 : Int64) (p3 : Int32) (h0 : Heap) (n0 : Nat) (Z0 : n0 ≤ h0.size) :
    MetFree l x (head1 (Jvm.Cond.code x code maxLocals ret :: ws) room_1) (fun a U => a = #[(.long q0), (.long q1), (.long q2), (.int p3)] ∧ Z.Warmed39 U.vm ∧ U.heap = h0) (fun _ _ _ _ _ => True) (fun _ U o U' => ∃ v L, o = .returned v ∧ Q0 Z q0 q1 q2 p3 h0 n0 v U'.heap L ∧ ReturnedEndW U o U' L (room_1).cells (room_1).slots) := by
  refine MetFree.of_bodySF (plainFor_of_name pn_3) hisR ?_
  intro p e s m args below meth c s₁ Bd hml0 hP hK
  obtain ⟨rfl, hZ, hh⟩ := hP
  have hx := Bd.exec
  have hby := Bd.bytes
  have hml : c.maxLocals = 19 := hml0
  have hown : s.vm.findClass "com/example/lint_for_clocks/lintforclocks/rules/StepsSpendPinLaw" = some m.cls := findClass_of_methodNamed Bd.named
  have hnm := (name_of_methodNamed Bd.named Bd.method).1
  have hlk : meth.locks = false := Bd.notSynchronized
  have X0 : Stand p l e room_1 s m #[(.long q0), (.long q1), (.long q2), (.int p3)] below meth c s₁ [] 0 0 := Stand.of_body Bd
  have e0 : s₁.heap = h0 := by rw [← hh, Bd.state]; rfl
  have N0 := Fr.nil n0
  have hret := Bd.returns
  show own_GoW p e below s (Q0 Z q0 q1 q2 p3 h0 n0) _ _ (s₁.setTop (entryFrame m #[(.long q0), (.long q1), (.long q2), (.int p3)] maxLocals))
  refine own_goW (fun t k => castTop (ef_0 m q0 q1 q2 p3) k) ?_
  show own_GoW p e below s _ _ _ (s₁.setTop (mkF m 0 #[.val (.long q0), .second, .val (.long q1), .second, .val (.long q2), .second, .val (.int p3), .unset, .unset, .unset, .unset, .unset, .unset, .unset, .unset, .unset, .unset, .unset, .unset] []))
  refine own_goW (fun t k => X0.ldc2Long hx hown (mvT hZ (hw _ (List.mem_of_getElem? (i := 0) rfl))) (g := (mkF m 0 #[.val (.long q0), .second, .val (.long q1), .second, .val (.long q2), .second, .val (.int p3), .unset, .unset, .unset, .unset, .unset, .unset, .unset, .unset, .unset, .unset, .unset, .unset] [])) rfl (hb hby at_0) _ k) ?_
  show own_GoW p e below s _ _ _ (s₁.setTop (mkF m 3 #[.val (.long q0), .second, .val (.long q1), .second, .val (.long q2), .second, .val (.int p3), .unset, .unset, .unset, .unset, .unset, .unset, .unset, .unset, .unset, .unset, .unset, .unset] [(.long (5000000 : Int64))]))
  refine own_goW (fun t k => XS.lstore X0.here hx rfl (hb hby at_3) rfl (l' := #[.val (.long q0), .second, .val (.long q1), .second, .val (.long q2), .second, .val (.int p3), .val (.long (5000000 : Int64)), .second, .unset, .unset, .unset, .unset, .unset, .unset, .unset, .unset, .unset, .unset]) rfl k) ?_
  show own_GoW p e below s _ _ _ (s₁.setTop (mkF m 5 #[.val (.long q0), .second, .val (.long q1), .second, .val (.long q2), .second, .val (.int p3), .val (.long (5000000 : Int64)), .second, .unset, .unset, .unset, .unset, .unset, .unset, .unset, .unset, .unset, .unset] []))
  refine own_goW (fun t k => XS.lloadN X0.here hx rfl (hb hby at_5) rfl k) ?_
  show own_GoW p e below s _ _ _ (s₁.setTop (mkF m 6 #[.val (.long q0), .second, .val (.long q1), .second, .val (.long q2), .second, .val (.int p3), .val (.long (5000000 : Int64)), .second, .unset, .unset, .unset, .unset, .unset, .unset, .unset, .unset, .unset, .unset] [(.long q0)]))
  refine own_goW (fun t k => X0.ldc2Long hx hown (mvT hZ (hw _ (List.mem_of_getElem? (i := 1) rfl))) (g := (mkF m 6 #[.val (.long q0), .second, .val (.long q1), .second, .val (.long q2), .second, .val (.int p3), .val (.long (5000000 : Int64)), .second, .unset, .unset, .unset, .unset, .unset, .unset, .unset, .unset, .unset, .unset] [(.long q0)])) rfl (hb hby at_6) _ k) ?_
  show own_GoW p e below s _ _ _ (s₁.setTop (mkF m 9 #[.val (.long q0), .second, .val (.long q1), .second, .val (.long q2), .second, .val (.int p3), .val (.long (5000000 : Int64)), .second, .unset, .unset, .unset, .unset, .unset, .unset, .unset, .unset, .unset, .unset] [(.long (9223372036854775807 : Int64)), (.long q0)]))
  refine own_goW (fun t k => XS.land X0.here hx rfl (hb hby at_9) rfl k) ?_
  show own_GoW p e below s _ _ _ (s₁.setTop (mkF m 10 #[.val (.long q0), .second, .val (.long q1), .second, .val (.long q2), .second, .val (.int p3), .val (.long (5000000 : Int64)), .second, .unset, .unset, .unset, .unset, .unset, .unset, .unset, .unset, .unset, .unset] [(.long (q0 &&& (9223372036854775807 : Int64)))]))
  refine own_goW (fun t k => XS.lload X0.here hx rfl (hb hby at_10) rfl k) ?_
  show own_GoW p e below s _ _ _ (s₁.setTop (mkF m 12 #[.val (.long q0), .second, .val (.long q1), .second, .val (.long q2), .second, .val (.int p3), .val (.long (5000000 : Int64)), .second, .unset, .unset, .unset, .unset, .unset, .unset, .unset, .unset, .unset, .unset] [(.long (5000000 : Int64)), (.long (q0 &&& (9223372036854775807 : Int64)))]))
  refine own_goW (fun t k => XS.lconst X0.here hx rfl (hb hby at_12) k) ?_
  show own_GoW p e below s _ _ _ (s₁.setTop (mkF m 13 #[.val (.long q0), .second, .val (.long q1), .second, .val (.long q2), .second, .val (.int p3), .val (.long (5000000 : Int64)), .second, .unset, .unset, .unset, .unset, .unset, .unset, .unset, .unset, .unset, .unset] [(.long (1 : Int64)), (.long (5000000 : Int64)), (.long (q0 &&& (9223372036854775807 : Int64)))]))
  refine own_goW (fun t k => XS.ladd X0.here hx rfl (hb hby at_13) rfl k) ?_
  show own_GoW p e below s _ _ _ (s₁.setTop (mkF m 14 #[.val (.long q0), .second, .val (.long q1), .second, .val (.long q2), .second, .val (.int p3), .val (.long (5000000 : Int64)), .second, .unset, .unset, .unset, .unset, .unset, .unset, .unset, .unset, .unset, .unset] [(.long ((5000000 : Int64) + (1 : Int64))), (.long (q0 &&& (9223372036854775807 : Int64)))]))
  refine own_goW (fun t k => own_lrem X0 hx rfl (hb hby at_14) rfl (by decide) k) ?_
  show own_GoW p e below s _ _ _ (s₁.setTop (mkF m 15 #[.val (.long q0), .second, .val (.long q1), .second, .val (.long q2), .second, .val (.int p3), .val (.long (5000000 : Int64)), .second, .unset, .unset, .unset, .unset, .unset, .unset, .unset, .unset, .unset, .unset] [(.long ((q0 &&& (9223372036854775807 : Int64)) % ((5000000 : Int64) + (1 : Int64))))]))
  refine own_goW (fun t k => XS.lstore X0.here hx rfl (hb hby at_15) rfl (l' := #[.val (.long q0), .second, .val (.long q1), .second, .val (.long q2), .second, .val (.int p3), .val (.long (5000000 : Int64)), .second, .val (.long ((q0 &&& (9223372036854775807 : Int64)) % ((5000000 : Int64) + (1 : Int64)))), .second, .unset, .unset, .unset, .unset, .unset, .unset, .unset, .unset]) rfl k) ?_
  show own_GoW p e below s _ _ _ (s₁.setTop (mkF m 17 #[.val (.long q0), .second, .val (.long q1), .second, .val (.long q2), .second, .val (.int p3), .val (.long (5000000 : Int64)), .second, .val (.long ((q0 &&& (9223372036854775807 : Int64)) % ((5000000 : Int64) + (1 : Int64)))), .second, .unset, .unset, .unset, .unset, .unset, .unset, .unset, .unset] []))
  obtain ⟨xx, hxx⟩ : ∃ z, z = ((q0 &&& (9223372036854775807 : Int64)) % ((5000000 : Int64) + (1 : Int64))) := ⟨_, rfl⟩
  rw [← hxx]
  show own_GoW p e below s _ _ _ (s₁.setTop (mkF m 17 #[.val (.long q0), .second, .val (.long q1), .second, .val (.long q2), .second, .val (.int p3), .val (.long (5000000 : Int64)), .second, .val (.long xx), .second, .unset, .unset, .unset, .unset, .unset, .unset, .unset, .unset] []))
  have hx0 : 0 ≤ xx.toInt ∧ xx.toInt ≤ 5000000 := by
    rw [hxx]
    have q := own_rem q0 ((5000000 : Int64) + (1 : Int64)) (by decide)
    have q' : ((5000000 : Int64) + (1 : Int64)).toInt = 5000001 := by decide
    omega
  have hd1 : ((5000000 : Int64) - xx).toInt = 5000000 - xx.toInt := by have := own_sub (a := (5000000 : Int64)) (b := xx) (by decide) (by omega); rw [own_5] at this; exact this
  have hd2 : (((5000000 : Int64) - xx) + (1 : Int64)).toInt = 5000001 - xx.toInt := by have := own_add (a := ((5000000 : Int64) - xx)) (b := 1) (by omega) (by decide); rw [own_1] at this; omega
  refine own_goW (fun t k => XS.lloadN X0.here hx rfl (hb hby at_17) rfl k) ?_
  show own_GoW p e below s _ _ _ (s₁.setTop (mkF m 18 #[.val (.long q0), .second, .val (.long q1), .second, .val (.long q2), .second, .val (.int p3), .val (.long (5000000 : Int64)), .second, .val (.long xx), .second, .unset, .unset, .unset, .unset, .unset, .unset, .unset, .unset] [(.long q1)]))
  refine own_goW (fun t k => X0.ldc2Long hx hown (mvT hZ (hw _ (List.mem_of_getElem? (i := 1) rfl))) (g := (mkF m 18 #[.val (.long q0), .second, .val (.long q1), .second, .val (.long q2), .second, .val (.int p3), .val (.long (5000000 : Int64)), .second, .val (.long xx), .second, .unset, .unset, .unset, .unset, .unset, .unset, .unset, .unset] [(.long q1)])) rfl (hb hby at_18) _ k) ?_
  show own_GoW p e below s _ _ _ (s₁.setTop (mkF m 21 #[.val (.long q0), .second, .val (.long q1), .second, .val (.long q2), .second, .val (.int p3), .val (.long (5000000 : Int64)), .second, .val (.long xx), .second, .unset, .unset, .unset, .unset, .unset, .unset, .unset, .unset] [(.long (9223372036854775807 : Int64)), (.long q1)]))
  refine own_goW (fun t k => XS.land X0.here hx rfl (hb hby at_21) rfl k) ?_
  show own_GoW p e below s _ _ _ (s₁.setTop (mkF m 22 #[.val (.long q0), .second, .val (.long q1), .second, .val (.long q2), .second, .val (.int p3), .val (.long (5000000 : Int64)), .second, .val (.long xx), .second, .unset, .unset, .unset, .unset, .unset, .unset, .unset, .unset] [(.long (q1 &&& (9223372036854775807 : Int64)))]))
  refine own_goW (fun t k => XS.lload X0.here hx rfl (hb hby at_22) rfl k) ?_
  show own_GoW p e below s _ _ _ (s₁.setTop (mkF m 24 #[.val (.long q0), .second, .val (.long q1), .second, .val (.long q2), .second, .val (.int p3), .val (.long (5000000 : Int64)), .second, .val (.long xx), .second, .unset, .unset, .unset, .unset, .unset, .unset, .unset, .unset] [(.long (5000000 : Int64)), (.long (q1 &&& (9223372036854775807 : Int64)))]))
  refine own_goW (fun t k => XS.lload X0.here hx rfl (hb hby at_24) rfl k) ?_
  show own_GoW p e below s _ _ _ (s₁.setTop (mkF m 26 #[.val (.long q0), .second, .val (.long q1), .second, .val (.long q2), .second, .val (.int p3), .val (.long (5000000 : Int64)), .second, .val (.long xx), .second, .unset, .unset, .unset, .unset, .unset, .unset, .unset, .unset] [(.long xx), (.long (5000000 : Int64)), (.long (q1 &&& (9223372036854775807 : Int64)))]))
  refine own_goW (fun t k => XS.lsub X0.here hx rfl (hb hby at_26) rfl k) ?_
  show own_GoW p e below s _ _ _ (s₁.setTop (mkF m 27 #[.val (.long q0), .second, .val (.long q1), .second, .val (.long q2), .second, .val (.int p3), .val (.long (5000000 : Int64)), .second, .val (.long xx), .second, .unset, .unset, .unset, .unset, .unset, .unset, .unset, .unset] [(.long ((5000000 : Int64) - xx)), (.long (q1 &&& (9223372036854775807 : Int64)))]))
  refine own_goW (fun t k => XS.lconst X0.here hx rfl (hb hby at_27) k) ?_
  show own_GoW p e below s _ _ _ (s₁.setTop (mkF m 28 #[.val (.long q0), .second, .val (.long q1), .second, .val (.long q2), .second, .val (.int p3), .val (.long (5000000 : Int64)), .second, .val (.long xx), .second, .unset, .unset, .unset, .unset, .unset, .unset, .unset, .unset] [(.long (1 : Int64)), (.long ((5000000 : Int64) - xx)), (.long (q1 &&& (9223372036854775807 : Int64)))]))
  refine own_goW (fun t k => XS.ladd X0.here hx rfl (hb hby at_28) rfl k) ?_
  show own_GoW p e below s _ _ _ (s₁.setTop (mkF m 29 #[.val (.long q0), .second, .val (.long q1), .second, .val (.long q2), .second, .val (.int p3), .val (.long (5000000 : Int64)), .second, .val (.long xx), .second, .unset, .unset, .unset, .unset, .unset, .unset, .unset, .unset] [(.long (((5000000 : Int64) - xx) + (1 : Int64))), (.long (q1 &&& (9223372036854775807 : Int64)))]))
  refine own_goW (fun t k => own_lrem X0 hx rfl (hb hby at_29) rfl (own_nz (by omega)) k) ?_
  show own_GoW p e below s _ _ _ (s₁.setTop (mkF m 30 #[.val (.long q0), .second, .val (.long q1), .second, .val (.long q2), .second, .val (.int p3), .val (.long (5000000 : Int64)), .second, .val (.long xx), .second, .unset, .unset, .unset, .unset, .unset, .unset, .unset, .unset] [(.long ((q1 &&& (9223372036854775807 : Int64)) % (((5000000 : Int64) - xx) + (1 : Int64))))]))
  refine own_goW (fun t k => XS.lstore X0.here hx rfl (hb hby at_30) rfl (l' := #[.val (.long q0), .second, .val (.long q1), .second, .val (.long q2), .second, .val (.int p3), .val (.long (5000000 : Int64)), .second, .val (.long xx), .second, .val (.long ((q1 &&& (9223372036854775807 : Int64)) % (((5000000 : Int64) - xx) + (1 : Int64)))), .second, .unset, .unset, .unset, .unset, .unset, .unset]) rfl k) ?_
  show own_GoW p e below s _ _ _ (s₁.setTop (mkF m 32 #[.val (.long q0), .second, .val (.long q1), .second, .val (.long q2), .second, .val (.int p3), .val (.long (5000000 : Int64)), .second, .val (.long xx), .second, .val (.long ((q1 &&& (9223372036854775807 : Int64)) % (((5000000 : Int64) - xx) + (1 : Int64)))), .second, .unset, .unset, .unset, .unset, .unset, .unset] []))
  obtain ⟨yy, hyy⟩ : ∃ z, z = ((q1 &&& (9223372036854775807 : Int64)) % (((5000000 : Int64) - xx) + (1 : Int64))) := ⟨_, rfl⟩
  rw [← hyy]
  show own_GoW p e below s _ _ _ (s₁.setTop (mkF m 32 #[.val (.long q0), .second, .val (.long q1), .second, .val (.long q2), .second, .val (.int p3), .val (.long (5000000 : Int64)), .second, .val (.long xx), .second, .val (.long yy), .second, .unset, .unset, .unset, .unset, .unset, .unset] []))
  have hy0 : 0 ≤ yy.toInt ∧ yy.toInt ≤ 5000000 - xx.toInt := by
    rw [hyy]
    have q := own_rem q1 (((5000000 : Int64) - xx) + (1 : Int64)) (by omega)
    omega
  refine own_goW (fun t k => XS.lload X0.here hx rfl (hb hby at_32) rfl k) ?_
  show own_GoW p e below s _ _ _ (s₁.setTop (mkF m 34 #[.val (.long q0), .second, .val (.long q1), .second, .val (.long q2), .second, .val (.int p3), .val (.long (5000000 : Int64)), .second, .val (.long xx), .second, .val (.long yy), .second, .unset, .unset, .unset, .unset, .unset, .unset] [(.long (5000000 : Int64))]))
  refine own_goW (fun t k => XS.lload X0.here hx rfl (hb hby at_34) rfl k) ?_
  show own_GoW p e below s _ _ _ (s₁.setTop (mkF m 36 #[.val (.long q0), .second, .val (.long q1), .second, .val (.long q2), .second, .val (.int p3), .val (.long (5000000 : Int64)), .second, .val (.long xx), .second, .val (.long yy), .second, .unset, .unset, .unset, .unset, .unset, .unset] [(.long xx), (.long (5000000 : Int64))]))
  refine own_goW (fun t k => XS.lsub X0.here hx rfl (hb hby at_36) rfl k) ?_
  show own_GoW p e below s _ _ _ (s₁.setTop (mkF m 37 #[.val (.long q0), .second, .val (.long q1), .second, .val (.long q2), .second, .val (.int p3), .val (.long (5000000 : Int64)), .second, .val (.long xx), .second, .val (.long yy), .second, .unset, .unset, .unset, .unset, .unset, .unset] [(.long ((5000000 : Int64) - xx))]))
  refine own_goW (fun t k => XS.lload X0.here hx rfl (hb hby at_37) rfl k) ?_
  show own_GoW p e below s _ _ _ (s₁.setTop (mkF m 39 #[.val (.long q0), .second, .val (.long q1), .second, .val (.long q2), .second, .val (.int p3), .val (.long (5000000 : Int64)), .second, .val (.long xx), .second, .val (.long yy), .second, .unset, .unset, .unset, .unset, .unset, .unset] [(.long yy), (.long ((5000000 : Int64) - xx))]))
  refine own_goW (fun t k => XS.lsub X0.here hx rfl (hb hby at_39) rfl k) ?_
  show own_GoW p e below s _ _ _ (s₁.setTop (mkF m 40 #[.val (.long q0), .second, .val (.long q1), .second, .val (.long q2), .second, .val (.int p3), .val (.long (5000000 : Int64)), .second, .val (.long xx), .second, .val (.long yy), .second, .unset, .unset, .unset, .unset, .unset, .unset] [(.long (((5000000 : Int64) - xx) - yy))]))
  refine own_goW (fun t k => XS.lstore X0.here hx rfl (hb hby at_40) rfl (l' := #[.val (.long q0), .second, .val (.long q1), .second, .val (.long q2), .second, .val (.int p3), .val (.long (5000000 : Int64)), .second, .val (.long xx), .second, .val (.long yy), .second, .val (.long (((5000000 : Int64) - xx) - yy)), .second, .unset, .unset, .unset, .unset]) rfl k) ?_
  show own_GoW p e below s _ _ _ (s₁.setTop (mkF m 42 #[.val (.long q0), .second, .val (.long q1), .second, .val (.long q2), .second, .val (.int p3), .val (.long (5000000 : Int64)), .second, .val (.long xx), .second, .val (.long yy), .second, .val (.long (((5000000 : Int64) - xx) - yy)), .second, .unset, .unset, .unset, .unset] []))
  obtain ⟨rr, hrr⟩ : ∃ z, z = (((5000000 : Int64) - xx) - yy) := ⟨_, rfl⟩
  rw [← hrr]
  show own_GoW p e below s _ _ _ (s₁.setTop (mkF m 42 #[.val (.long q0), .second, .val (.long q1), .second, .val (.long q2), .second, .val (.int p3), .val (.long (5000000 : Int64)), .second, .val (.long xx), .second, .val (.long yy), .second, .val (.long rr), .second, .unset, .unset, .unset, .unset] []))
  have hr0 : rr.toInt = 5000000 - xx.toInt - yy.toInt := by rw [hrr]; have := own_sub (a := ((5000000 : Int64) - xx)) (b := yy) (by omega) (by omega); omega
  have hr1 : (rr + (1 : Int64)).toInt = rr.toInt + 1 := by have := own_add (a := rr) (b := 1) (by omega) (by decide); rw [own_1] at this; exact this
  refine own_goW (fun t k => XS.lload X0.here hx rfl (hb hby at_42) rfl k) ?_
  show own_GoW p e below s _ _ _ (s₁.setTop (mkF m 44 #[.val (.long q0), .second, .val (.long q1), .second, .val (.long q2), .second, .val (.int p3), .val (.long (5000000 : Int64)), .second, .val (.long xx), .second, .val (.long yy), .second, .val (.long rr), .second, .unset, .unset, .unset, .unset] [(.long q2)]))
  refine own_goW (fun t k => XS.lconst X0.here hx rfl (hb hby at_44) k) ?_
  show own_GoW p e below s _ _ _ (s₁.setTop (mkF m 45 #[.val (.long q0), .second, .val (.long q1), .second, .val (.long q2), .second, .val (.int p3), .val (.long (5000000 : Int64)), .second, .val (.long xx), .second, .val (.long yy), .second, .val (.long rr), .second, .unset, .unset, .unset, .unset] [(.long (1 : Int64)), (.long q2)]))
  refine own_goW (fun t k => XS.land X0.here hx rfl (hb hby at_45) rfl k) ?_
  show own_GoW p e below s _ _ _ (s₁.setTop (mkF m 46 #[.val (.long q0), .second, .val (.long q1), .second, .val (.long q2), .second, .val (.int p3), .val (.long (5000000 : Int64)), .second, .val (.long xx), .second, .val (.long yy), .second, .val (.long rr), .second, .unset, .unset, .unset, .unset] [(.long (q2 &&& (1 : Int64)))]))
  refine own_goW (fun t k => XS.lconst X0.here hx rfl (hb hby at_46) k) ?_
  show own_GoW p e below s _ _ _ (s₁.setTop (mkF m 47 #[.val (.long q0), .second, .val (.long q1), .second, .val (.long q2), .second, .val (.int p3), .val (.long (5000000 : Int64)), .second, .val (.long xx), .second, .val (.long yy), .second, .val (.long rr), .second, .unset, .unset, .unset, .unset] [(.long (0 : Int64)), (.long (q2 &&& (1 : Int64)))]))
  refine own_goW (fun t k => XS.lcmp X0.here hx rfl (hb hby at_47) rfl k) ?_
  show own_GoW p e below s _ _ _ (s₁.setTop (mkF m 48 #[.val (.long q0), .second, .val (.long q1), .second, .val (.long q2), .second, .val (.int p3), .val (.long (5000000 : Int64)), .second, .val (.long xx), .second, .val (.long yy), .second, .val (.long rr), .second, .unset, .unset, .unset, .unset] [(.int (lcmpW (q2 &&& (1 : Int64)) (0 : Int64)))]))
  have J73 : ∀ (T1 : State) (locs1 : List Loc) (X1 : Stand p l e room_1 s m #[(.long q0), (.long q1), (.long q2), (.int p3)] below meth c T1 locs1 0 0) (e1 : T1.heap = h0) (N1 : Fr n0 locs1) (zz : Int64) (hz0 : 0 ≤ zz.toInt ∧ zz.toInt ≤ rr.toInt), own_GoW p e below s (Q0 Z q0 q1 q2 p3 h0 n0) (room_1).cells (room_1).slots (T1.setTop (mkF m 73 #[.val (.long q0), .second, .val (.long q1), .second, .val (.long q2), .second, .val (.int p3), .val (.long (5000000 : Int64)), .second, .val (.long xx), .second, .val (.long yy), .second, .val (.long rr), .second, .val (.long zz), .second, .unset, .unset] [])) := by
    intro T1 locs1 X1 e1 N1 zz hz0
    have hb106 : ((0 : Int64) + xx).toInt ≤ 5000000 := by rw [own_add (by decide) (by omega), own_0]; omega
    have hs1 : ((0 : Int64) + xx).toInt = xx.toInt := by rw [own_add (by decide) (by omega), own_0]; omega
    have hs2 : (((0 : Int64) + xx) + yy).toInt = xx.toInt + yy.toInt := by rw [own_add (by omega) (by omega), hs1]
    have hs3 : ((((0 : Int64) + xx) + yy) + zz).toInt = xx.toInt + yy.toInt + zz.toInt := by rw [own_add (by omega) (by omega), hs2]
    have hb115 : (((0 : Int64) + xx) + yy).toInt ≤ 5000000 := by omega
    have hb124 : ((((0 : Int64) + xx) + yy) + zz).toInt ≤ 5000000 := by omega
    have ht2 : (xx + yy).toInt = xx.toInt + yy.toInt := own_add (by omega) (by omega)
    have ht3 : ((xx + yy) + zz).toInt = xx.toInt + yy.toInt + zz.toInt := by rw [own_add (by omega) (by omega), ht2]
    obtain ⟨T2, h2, X2, e2, E2, A2, D2, U2, st2⟩ := newO X1 hx hZ hown (hw _ (List.mem_of_getElem? (i := 2) rfl)) (hw _ (List.mem_of_getElem? (i := 3) rfl)) (hw _ (List.mem_of_getElem? (i := 4) rfl)) e1 (g := (mkF m 73 #[.val (.long q0), .second, .val (.long q1), .second, .val (.long q2), .second, .val (.int p3), .val (.long (5000000 : Int64)), .second, .val (.long xx), .second, .val (.long yy), .second, .val (.long rr), .second, .val (.long zz), .second, .unset, .unset] [])) rfl (hb hby at_73) (by decide) (by decide)
    obtain ⟨b2, g2⟩ : ∃ z, z = h0.size := ⟨_, rfl⟩
    rw [← g2] at A2 D2 U2 st2
    refine own_goW (fun t k => st2 _ k) ?_
    have gt_b2 : n0 ≤ b2 := Nat.le_trans Z0 (Nat.le_of_eq g2.symm)
    have ZZ_2 : n0 ≤ h2.size := Nat.le_trans Z0 E2.1
    have F_name_b2 : Fld Z h2 b2 "com/example/lint_for_clocks/lintforclocks/model/Template" "name" "Ljava/lang/String;" .null := D2 (Or.inr (hw _ (List.mem_of_getElem? (i := 25) rfl))) (ty := (.object "java/lang/String")) (by decide)
    have F_line_b2 : Fld Z h2 b2 "com/example/lint_for_clocks/lintforclocks/model/Template" "line" "I" (.int (0 : Int32)) := D2 (Or.inr (hw _ (List.mem_of_getElem? (i := 27) rfl))) (ty := .int) (by decide)
    have F_parameters_b2 : Fld Z h2 b2 "com/example/lint_for_clocks/lintforclocks/model/Template" "parameters" "Ljava/util/List;" .null := D2 (Or.inr (hw _ (List.mem_of_getElem? (i := 29) rfl))) (ty := (.object "java/util/List")) (by decide)
    have F_declarations_b2 : Fld Z h2 b2 "com/example/lint_for_clocks/lintforclocks/model/Template" "declarations" "Ljava/util/List;" .null := D2 (Or.inr (hw _ (List.mem_of_getElem? (i := 31) rfl))) (ty := (.object "java/util/List")) (by decide)
    have F_locations_b2 : Fld Z h2 b2 "com/example/lint_for_clocks/lintforclocks/model/Template" "locations" "Ljava/util/List;" .null := D2 (Or.inr (hw _ (List.mem_of_getElem? (i := 33) rfl))) (ty := (.object "java/util/List")) (by decide)
    have F_branchpoints_b2 : Fld Z h2 b2 "com/example/lint_for_clocks/lintforclocks/model/Template" "branchpoints" "Ljava/util/List;" .null := D2 (Or.inr (hw _ (List.mem_of_getElem? (i := 35) rfl))) (ty := (.object "java/util/List")) (by decide)
    have F_edges_b2 : Fld Z h2 b2 "com/example/lint_for_clocks/lintforclocks/model/Template" "edges" "Ljava/util/List;" .null := D2 (Or.inr (hw _ (List.mem_of_getElem? (i := 37) rfl))) (ty := (.object "java/util/List")) (by decide)
    show own_GoW p e below s _ _ _ (T2.setTop (mkF m 76 #[.val (.long q0), .second, .val (.long q1), .second, .val (.long q2), .second, .val (.int p3), .val (.long (5000000 : Int64)), .second, .val (.long xx), .second, .val (.long yy), .second, .val (.long rr), .second, .val (.long zz), .second, .unset, .unset] [(.ref b2)]))
    refine own_goW (fun t k => XS.dup X2.here hx rfl (hb hby at_76) rfl rfl k) ?_
    show own_GoW p e below s _ _ _ (T2.setTop (mkF m 77 #[.val (.long q0), .second, .val (.long q1), .second, .val (.long q2), .second, .val (.int p3), .val (.long (5000000 : Int64)), .second, .val (.long xx), .second, .val (.long yy), .second, .val (.long rr), .second, .val (.long zz), .second, .unset, .unset] [(.ref b2), (.ref b2)]))
    have hS0 : s.Since s.vm n0 := (State.WarmedH.refl s).since _
    obtain ⟨b3, T3, h3, k3, X3, e3, E3, hS3, hk3, hZ, hown, st3⟩ := ldcS (s := s) (vm0 := s.vm) X2 hx hZ hown (hw _ (List.mem_of_getElem? (i := 5) rfl)) (own_str hw) e2 hS0 ZZ_2 (g := (mkF m 77 #[.val (.long q0), .second, .val (.long q1), .second, .val (.long q2), .second, .val (.int p3), .val (.long (5000000 : Int64)), .second, .val (.long xx), .second, .val (.long yy), .second, .val (.long rr), .second, .val (.long zz), .second, .unset, .unset] [(.ref b2), (.ref b2)])) rfl (hb hby at_77) (n := 4) (by decide) (by decide) (by decide) (by decide)
    refine own_goW (fun t k => st3 _ k) ?_
    have ZZ_3 : n0 ≤ h3.size := Nat.le_trans ZZ_2 E3.1
    have E_b2_3 : Exa Z h3 b2 "com/example/lint_for_clocks/lintforclocks/model/Template" := A2.ext E3
    have F_name_b2_3 : Fld Z h3 b2 "com/example/lint_for_clocks/lintforclocks/model/Template" "name" "Ljava/lang/String;" .null := F_name_b2.ext E3
    have F_line_b2_3 : Fld Z h3 b2 "com/example/lint_for_clocks/lintforclocks/model/Template" "line" "I" (.int (0 : Int32)) := F_line_b2.ext E3
    have F_parameters_b2_3 : Fld Z h3 b2 "com/example/lint_for_clocks/lintforclocks/model/Template" "parameters" "Ljava/util/List;" .null := F_parameters_b2.ext E3
    have F_declarations_b2_3 : Fld Z h3 b2 "com/example/lint_for_clocks/lintforclocks/model/Template" "declarations" "Ljava/util/List;" .null := F_declarations_b2.ext E3
    have F_locations_b2_3 : Fld Z h3 b2 "com/example/lint_for_clocks/lintforclocks/model/Template" "locations" "Ljava/util/List;" .null := F_locations_b2.ext E3
    have F_branchpoints_b2_3 : Fld Z h3 b2 "com/example/lint_for_clocks/lintforclocks/model/Template" "branchpoints" "Ljava/util/List;" .null := F_branchpoints_b2.ext E3
    have F_edges_b2_3 : Fld Z h3 b2 "com/example/lint_for_clocks/lintforclocks/model/Template" "edges" "Ljava/util/List;" .null := F_edges_b2.ext E3
    show own_GoW p e below s _ _ _ (T3.setTop (mkF m 79 #[.val (.long q0), .second, .val (.long q1), .second, .val (.long q2), .second, .val (.int p3), .val (.long (5000000 : Int64)), .second, .val (.long xx), .second, .val (.long yy), .second, .val (.long rr), .second, .val (.long zz), .second, .unset, .unset] [(.ref b3), (.ref b2), (.ref b2)]))
    refine own_goW (fun t k => XS.iload X3.here hx rfl (hb hby at_79) rfl k) ?_
    show own_GoW p e below s _ _ _ (T3.setTop (mkF m 81 #[.val (.long q0), .second, .val (.long q1), .second, .val (.long q2), .second, .val (.int p3), .val (.long (5000000 : Int64)), .second, .val (.long xx), .second, .val (.long yy), .second, .val (.long rr), .second, .val (.long zz), .second, .unset, .unset] [(.int p3), (.ref b3), (.ref b2), (.ref b2)]))
    refine own_goW (fun t k => XS.aconstNull X3.here hx rfl (hb hby at_81) k) ?_
    show own_GoW p e below s _ _ _ (T3.setTop (mkF m 82 #[.val (.long q0), .second, .val (.long q1), .second, .val (.long q2), .second, .val (.int p3), .val (.long (5000000 : Int64)), .second, .val (.long xx), .second, .val (.long yy), .second, .val (.long rr), .second, .val (.long zz), .second, .unset, .unset] [.null, (.int p3), (.ref b3), (.ref b2), (.ref b2)]))
    refine own_goW (fun t k => XS.aconstNull X3.here hx rfl (hb hby at_82) k) ?_
    show own_GoW p e below s _ _ _ (T3.setTop (mkF m 83 #[.val (.long q0), .second, .val (.long q1), .second, .val (.long q2), .second, .val (.int p3), .val (.long (5000000 : Int64)), .second, .val (.long xx), .second, .val (.long yy), .second, .val (.long rr), .second, .val (.long zz), .second, .unset, .unset] [.null, .null, (.int p3), (.ref b3), (.ref b2), (.ref b2)]))
    refine own_goW (fun t k => XS.aconstNull X3.here hx rfl (hb hby at_83) k) ?_
    show own_GoW p e below s _ _ _ (T3.setTop (mkF m 84 #[.val (.long q0), .second, .val (.long q1), .second, .val (.long q2), .second, .val (.int p3), .val (.long (5000000 : Int64)), .second, .val (.long xx), .second, .val (.long yy), .second, .val (.long rr), .second, .val (.long zz), .second, .unset, .unset] [.null, .null, .null, (.int p3), (.ref b3), (.ref b2), (.ref b2)]))
    refine own_goW (fun t k => XS.aconstNull X3.here hx rfl (hb hby at_84) k) ?_
    show own_GoW p e below s _ _ _ (T3.setTop (mkF m 85 #[.val (.long q0), .second, .val (.long q1), .second, .val (.long q2), .second, .val (.int p3), .val (.long (5000000 : Int64)), .second, .val (.long xx), .second, .val (.long yy), .second, .val (.long rr), .second, .val (.long zz), .second, .unset, .unset] [.null, .null, .null, .null, (.int p3), (.ref b3), (.ref b2), (.ref b2)]))
    refine own_goW (fun t k => XS.aconstNull X3.here hx rfl (hb hby at_85) k) ?_
    show own_GoW p e below s _ _ _ (T3.setTop (mkF m 86 #[.val (.long q0), .second, .val (.long q1), .second, .val (.long q2), .second, .val (.int p3), .val (.long (5000000 : Int64)), .second, .val (.long xx), .second, .val (.long yy), .second, .val (.long rr), .second, .val (.long zz), .second, .unset, .unset] [.null, .null, .null, .null, .null, (.int p3), (.ref b3), (.ref b2), (.ref b2)]))
    obtain ⟨_, _, ⟨T4, L4, k4, n4⟩, -, X4, ⟨Lc4, hQ4, l4, y4, z4⟩, st4⟩ := X3.specialBack hx (y := (⟨"com/example/lint_for_clocks/lintforclocks/model/Template", "<init>", "(Ljava/lang/String;ILjava/util/List;Ljava/util/List;Ljava/util/List;Ljava/util/List;Ljava/util/List;)V"⟩ : MethodName)) rfl hown (mvT hZ (hw _ (List.mem_of_getElem? (i := 13) rfl))) (mvT hZ (hw _ (List.mem_of_getElem? (i := 14) rfl))) (mvT hZ (hw _ (List.mem_of_getElem? (i := 15) rfl))) (by decide) (backOf (W := 1) (rm1 l Z a0 hw [] (b2) (b3) (p3) h3 n0 ZZ_3 F_name_b2_3 F_line_b2_3 F_parameters_b2_3 F_declarations_b2_3 F_locations_b2_3 F_branchpoints_b2_3 F_edges_b2_3 E_b2_3 gt_b2) hZ (hw _ (List.mem_of_getElem? (i := 15) rfl)) (hw _ (List.mem_of_getElem? (i := 4) rfl)) (by decide) (by decide)) (g := (mkF m 86 #[.val (.long q0), .second, .val (.long q1), .second, .val (.long q2), .second, .val (.int p3), .val (.long (5000000 : Int64)), .second, .val (.long xx), .second, .val (.long yy), .second, .val (.long rr), .second, .val (.long zz), .second, .unset, .unset] [.null, .null, .null, .null, .null, (.int p3), (.ref b3), (.ref b2), (.ref b2)])) rfl (by rw [hml]; rfl) (Steps.refl _) (a := b2) (argsL := [(.ref b3), (.int p3), .null, .null, .null, .null, .null]) (rest := [(.ref b2)]) (lenOf pd_1 rfl) rfl (by show 2 * 0 + _ ≤ _; exact Nat.le_of_eq rfl) (hb hby at_86) (fun _ _ => ⟨rfl, e3, (by decide : 3 + 0 ≤ _), (by decide : 15 + 0 ≤ _)⟩)
    dsimp only [Pt.U, Pt.locs, Pt.cells, Pt.slots] at X4 l4 y4 z4 st4 hQ4
    subst l4 y4 z4
    obtain ⟨rfl, Nq4, Kq4⟩ := hQ4
    have N4 := Fr.app N1 Nq4
    refine own_goW (fun t k => st4.trans k) ?_
    obtain ⟨h4, e4⟩ : ∃ z, T4.heap = z := ⟨_, rfl⟩
    rw [e4] at Kq4
    have ZZ_4 : n0 ≤ h4.size := Nat.le_trans ZZ_3 Kq4.1
    have E_b2_4 : Exa Z h4 b2 "com/example/lint_for_clocks/lintforclocks/model/Template" := E_b2_3.keep Kq4
    have KS_4 : k3 ≤ h4.size := Nat.le_trans hk3 Kq4.1
    show own_GoW p e below s _ _ _ (T4.setTop (mkF m 89 #[.val (.long q0), .second, .val (.long q1), .second, .val (.long q2), .second, .val (.int p3), .val (.long (5000000 : Int64)), .second, .val (.long xx), .second, .val (.long yy), .second, .val (.long rr), .second, .val (.long zz), .second, .unset, .unset] [(.ref b2)]))
    refine own_goW (fun t k => XS.astore X4.here hx rfl (hb hby at_89) rfl rfl (l' := #[.val (.long q0), .second, .val (.long q1), .second, .val (.long q2), .second, .val (.int p3), .val (.long (5000000 : Int64)), .second, .val (.long xx), .second, .val (.long yy), .second, .val (.long rr), .second, .val (.long zz), .second, .val (.ref b2), .unset]) rfl k) ?_
    show own_GoW p e below s _ _ _ (T4.setTop (mkF m 91 #[.val (.long q0), .second, .val (.long q1), .second, .val (.long q2), .second, .val (.int p3), .val (.long (5000000 : Int64)), .second, .val (.long xx), .second, .val (.long yy), .second, .val (.long rr), .second, .val (.long zz), .second, .val (.ref b2), .unset] []))
    obtain ⟨T5, h5, X5, e5, E5, A5, D5, U5, st5⟩ := newO X4 hx hZ hown (hw _ (List.mem_of_getElem? (i := 38) rfl)) (hw _ (List.mem_of_getElem? (i := 39) rfl)) (hw _ (List.mem_of_getElem? (i := 40) rfl)) e4 (g := (mkF m 91 #[.val (.long q0), .second, .val (.long q1), .second, .val (.long q2), .second, .val (.int p3), .val (.long (5000000 : Int64)), .second, .val (.long xx), .second, .val (.long yy), .second, .val (.long rr), .second, .val (.long zz), .second, .val (.ref b2), .unset] [])) rfl (hb hby at_91) (by decide) (by decide)
    obtain ⟨b5, g5⟩ : ∃ z, z = h4.size := ⟨_, rfl⟩
    rw [← g5] at A5 D5 U5 st5
    refine own_goW (fun t k => st5 _ k) ?_
    have gt_b5 : n0 ≤ b5 := Nat.le_trans ZZ_4 (Nat.le_of_eq g5.symm)
    have ne_b2_b5 : b2 ≠ b5 := Nat.ne_of_lt (Nat.lt_of_lt_of_le E_b2_4.lt (Nat.le_of_eq g5.symm))
    have ZZ_5 : n0 ≤ h5.size := Nat.le_trans ZZ_4 E5.1
    have E_b2_5 : Exa Z h5 b2 "com/example/lint_for_clocks/lintforclocks/model/Template" := E_b2_4.ext E5
    have KS_5 : k3 ≤ h5.size := Nat.le_trans KS_4 E5.1
    have F_spent_b5 : Fld Z h5 b5 "com/example/lint_for_clocks/lintforclocks/rules/Steps" "spent" "J" (.long (0 : Int64)) := D5 (Or.inl (hw _ (List.mem_of_getElem? (i := 51) rfl))) (ty := .long) (by decide)
    show own_GoW p e below s _ _ _ (T5.setTop (mkF m 94 #[.val (.long q0), .second, .val (.long q1), .second, .val (.long q2), .second, .val (.int p3), .val (.long (5000000 : Int64)), .second, .val (.long xx), .second, .val (.long yy), .second, .val (.long rr), .second, .val (.long zz), .second, .val (.ref b2), .unset] [(.ref b5)]))
    refine own_goW (fun t k => XS.dup X5.here hx rfl (hb hby at_94) rfl rfl k) ?_
    show own_GoW p e below s _ _ _ (T5.setTop (mkF m 95 #[.val (.long q0), .second, .val (.long q1), .second, .val (.long q2), .second, .val (.int p3), .val (.long (5000000 : Int64)), .second, .val (.long xx), .second, .val (.long yy), .second, .val (.long rr), .second, .val (.long zz), .second, .val (.ref b2), .unset] [(.ref b5), (.ref b5)]))
    obtain ⟨_, _, ⟨T6, L6, k6, n6⟩, -, X6, ⟨Lc6, hQ6, l6, y6, z6⟩, st6⟩ := X5.specialBack hx (y := (⟨"com/example/lint_for_clocks/lintforclocks/rules/Steps", "<init>", "()V"⟩ : MethodName)) rfl hown (mvT hZ (hw _ (List.mem_of_getElem? (i := 41) rfl))) (mvT hZ (hw _ (List.mem_of_getElem? (i := 42) rfl))) (mvT hZ (hw _ (List.mem_of_getElem? (i := 43) rfl))) (by decide) (backOf (W := 1) (rm4 l Z a0 hw [] (b5) h5 n0 ZZ_5 ) hZ (hw _ (List.mem_of_getElem? (i := 43) rfl)) (hw _ (List.mem_of_getElem? (i := 40) rfl)) (by decide) (by decide)) (g := (mkF m 95 #[.val (.long q0), .second, .val (.long q1), .second, .val (.long q2), .second, .val (.int p3), .val (.long (5000000 : Int64)), .second, .val (.long xx), .second, .val (.long yy), .second, .val (.long rr), .second, .val (.long zz), .second, .val (.ref b2), .unset] [(.ref b5), (.ref b5)])) rfl (by rw [hml]; rfl) (Steps.refl _) (a := b5) (argsL := []) (rest := [(.ref b5)]) (lenOf pd_0 rfl) rfl (by show 2 * 0 + _ ≤ _; exact Nat.le_of_eq rfl) (hb hby at_95) (fun _ _ => ⟨rfl, e5, (by decide : 4 + 0 ≤ _), (by decide : 16 + 0 ≤ _)⟩)
    dsimp only [Pt.U, Pt.locs, Pt.cells, Pt.slots] at X6 l6 y6 z6 st6 hQ6
    subst l6 y6 z6
    obtain ⟨rfl, Nq6, eh6⟩ := hQ6
    have N6 := Fr.app N4 Nq6
    refine own_goW (fun t k => st6.trans k) ?_
    have e6 : T6.heap = h5 := eh6
    show own_GoW p e below s _ _ _ (T6.setTop (mkF m 98 #[.val (.long q0), .second, .val (.long q1), .second, .val (.long q2), .second, .val (.int p3), .val (.long (5000000 : Int64)), .second, .val (.long xx), .second, .val (.long yy), .second, .val (.long rr), .second, .val (.long zz), .second, .val (.ref b2), .unset] [(.ref b5)]))
    refine own_goW (fun t k => XS.astore X6.here hx rfl (hb hby at_98) rfl rfl (l' := #[.val (.long q0), .second, .val (.long q1), .second, .val (.long q2), .second, .val (.int p3), .val (.long (5000000 : Int64)), .second, .val (.long xx), .second, .val (.long yy), .second, .val (.long rr), .second, .val (.long zz), .second, .val (.ref b2), .val (.ref b5)]) rfl k) ?_
    show own_GoW p e below s _ _ _ (T6.setTop (mkF m 100 #[.val (.long q0), .second, .val (.long q1), .second, .val (.long q2), .second, .val (.int p3), .val (.long (5000000 : Int64)), .second, .val (.long xx), .second, .val (.long yy), .second, .val (.long rr), .second, .val (.long zz), .second, .val (.ref b2), .val (.ref b5)] []))
    refine own_goW (fun t k => XS.aload X6.here hx rfl (hb hby at_100) rfl rfl k) ?_
    show own_GoW p e below s _ _ _ (T6.setTop (mkF m 102 #[.val (.long q0), .second, .val (.long q1), .second, .val (.long q2), .second, .val (.int p3), .val (.long (5000000 : Int64)), .second, .val (.long xx), .second, .val (.long yy), .second, .val (.long rr), .second, .val (.long zz), .second, .val (.ref b2), .val (.ref b5)] [(.ref b5)]))
    refine own_goW (fun t k => XS.lload X6.here hx rfl (hb hby at_102) rfl k) ?_
    show own_GoW p e below s _ _ _ (T6.setTop (mkF m 104 #[.val (.long q0), .second, .val (.long q1), .second, .val (.long q2), .second, .val (.int p3), .val (.long (5000000 : Int64)), .second, .val (.long xx), .second, .val (.long yy), .second, .val (.long rr), .second, .val (.long zz), .second, .val (.ref b2), .val (.ref b5)] [(.long xx), (.ref b5)]))
    refine own_goW (fun t k => XS.aload X6.here hx rfl (hb hby at_104) rfl rfl k) ?_
    show own_GoW p e below s _ _ _ (T6.setTop (mkF m 106 #[.val (.long q0), .second, .val (.long q1), .second, .val (.long q2), .second, .val (.int p3), .val (.long (5000000 : Int64)), .second, .val (.long xx), .second, .val (.long yy), .second, .val (.long rr), .second, .val (.long zz), .second, .val (.ref b2), .val (.ref b5)] [(.ref b2), (.long xx), (.ref b5)]))
    obtain ⟨cq7, kq7, q7a, q7b, q7c⟩ := isOf hZ e6 A5
    obtain ⟨_, _, ⟨T7, L7, k7, n7⟩, -, X7, ⟨Lc7, hQ7, l7, y7, z7⟩, st7⟩ := X6.virtualBack hx (y := (⟨"com/example/lint_for_clocks/lintforclocks/rules/Steps", "spend", "(JLcom/example/lint_for_clocks/lintforclocks/model/Template;)V"⟩ : MethodName)) (z := (⟨"com/example/lint_for_clocks/lintforclocks/rules/Steps", "spend", "(JLcom/example/lint_for_clocks/lintforclocks/model/Template;)V"⟩ : MethodName)) hown (mvT hZ (hw _ (List.mem_of_getElem? (i := 45) rfl))) (mvT hZ (hw _ (List.mem_of_getElem? (i := 46) rfl))) (notFace_of_selects (args := #[]) (mvT hZ (hw _ (List.mem_of_getElem? (i := 48) rfl)))) (mvT hZ (hw _ (List.mem_of_getElem? (i := 48) rfl))) (mvT hZ (hw _ (List.mem_of_getElem? (i := 47) rfl))) (by decide) (backOf (W := 0) (rm5 l Z a0 hw [] (b5) (xx) (b2) ((0 : Int64)) h5 n0 ZZ_5 F_spent_b5 A5 gt_b5 hb106) hZ (hw _ (List.mem_of_getElem? (i := 49) rfl)) (hw _ (List.mem_of_getElem? (i := 40) rfl)) (by decide) (by decide)) q7a q7c (g := (mkF m 106 #[.val (.long q0), .second, .val (.long q1), .second, .val (.long q2), .second, .val (.int p3), .val (.long (5000000 : Int64)), .second, .val (.long xx), .second, .val (.long yy), .second, .val (.long rr), .second, .val (.long zz), .second, .val (.ref b2), .val (.ref b5)] [(.ref b2), (.long xx), (.ref b5)])) rfl (by rw [hml]; rfl) (Steps.refl _) (argsL := [(.long xx), (.ref b2)]) (rest := []) (lenOf pd_2 rfl) rfl (by show 2 * 0 + _ ≤ _; exact Nat.le_of_eq rfl) (hb hby at_106) (fun _ _ => ⟨rfl, e6, (by decide : 4 + 0 ≤ _), (by decide : 16 + 0 ≤ _)⟩)
    dsimp only [Pt.U, Pt.locs, Pt.cells, Pt.slots] at X7 l7 y7 z7 st7 hQ7
    subst l7 y7 z7
    obtain ⟨rfl, Nq7, Kq7, Fq7⟩ := hQ7
    have N7 := Fr.app N6 Nq7
    refine own_goW (fun t k => st7.trans k) ?_
    obtain ⟨h7, e7⟩ : ∃ z, T7.heap = z := ⟨_, rfl⟩
    rw [e7] at Kq7 Fq7
    have ZZ_7 : n0 ≤ h7.size := Nat.le_trans ZZ_5 Kq7.1
    have E_b2_7 : Exa Z h7 b2 "com/example/lint_for_clocks/lintforclocks/model/Template" := E_b2_5.keep Kq7
    have KS_7 : k3 ≤ h7.size := Nat.le_trans KS_5 Kq7.1
    have E_b5_7 : Exa Z h7 b5 "com/example/lint_for_clocks/lintforclocks/rules/Steps" := A5.keep Kq7
    show own_GoW p e below s _ _ _ (T7.setTop (mkF m 109 #[.val (.long q0), .second, .val (.long q1), .second, .val (.long q2), .second, .val (.int p3), .val (.long (5000000 : Int64)), .second, .val (.long xx), .second, .val (.long yy), .second, .val (.long rr), .second, .val (.long zz), .second, .val (.ref b2), .val (.ref b5)] []))
    refine own_goW (fun t k => XS.aload X7.here hx rfl (hb hby at_109) rfl rfl k) ?_
    show own_GoW p e below s _ _ _ (T7.setTop (mkF m 111 #[.val (.long q0), .second, .val (.long q1), .second, .val (.long q2), .second, .val (.int p3), .val (.long (5000000 : Int64)), .second, .val (.long xx), .second, .val (.long yy), .second, .val (.long rr), .second, .val (.long zz), .second, .val (.ref b2), .val (.ref b5)] [(.ref b5)]))
    refine own_goW (fun t k => XS.lload X7.here hx rfl (hb hby at_111) rfl k) ?_
    show own_GoW p e below s _ _ _ (T7.setTop (mkF m 113 #[.val (.long q0), .second, .val (.long q1), .second, .val (.long q2), .second, .val (.int p3), .val (.long (5000000 : Int64)), .second, .val (.long xx), .second, .val (.long yy), .second, .val (.long rr), .second, .val (.long zz), .second, .val (.ref b2), .val (.ref b5)] [(.long yy), (.ref b5)]))
    refine own_goW (fun t k => XS.aload X7.here hx rfl (hb hby at_113) rfl rfl k) ?_
    show own_GoW p e below s _ _ _ (T7.setTop (mkF m 115 #[.val (.long q0), .second, .val (.long q1), .second, .val (.long q2), .second, .val (.int p3), .val (.long (5000000 : Int64)), .second, .val (.long xx), .second, .val (.long yy), .second, .val (.long rr), .second, .val (.long zz), .second, .val (.ref b2), .val (.ref b5)] [(.ref b2), (.long yy), (.ref b5)]))
    obtain ⟨cq8, kq8, q8a, q8b, q8c⟩ := isOf hZ e7 E_b5_7
    obtain ⟨_, _, ⟨T8, L8, k8, n8⟩, -, X8, ⟨Lc8, hQ8, l8, y8, z8⟩, st8⟩ := X7.virtualBack hx (y := (⟨"com/example/lint_for_clocks/lintforclocks/rules/Steps", "spend", "(JLcom/example/lint_for_clocks/lintforclocks/model/Template;)V"⟩ : MethodName)) (z := (⟨"com/example/lint_for_clocks/lintforclocks/rules/Steps", "spend", "(JLcom/example/lint_for_clocks/lintforclocks/model/Template;)V"⟩ : MethodName)) hown (mvT hZ (hw _ (List.mem_of_getElem? (i := 45) rfl))) (mvT hZ (hw _ (List.mem_of_getElem? (i := 46) rfl))) (notFace_of_selects (args := #[]) (mvT hZ (hw _ (List.mem_of_getElem? (i := 48) rfl)))) (mvT hZ (hw _ (List.mem_of_getElem? (i := 48) rfl))) (mvT hZ (hw _ (List.mem_of_getElem? (i := 47) rfl))) (by decide) (backOf (W := 0) (rm5 l Z a0 hw [] (b5) (yy) (b2) (((0 : Int64) + xx)) h7 n0 ZZ_7 Fq7 E_b5_7 gt_b5 hb115) hZ (hw _ (List.mem_of_getElem? (i := 49) rfl)) (hw _ (List.mem_of_getElem? (i := 40) rfl)) (by decide) (by decide)) q8a q8c (g := (mkF m 115 #[.val (.long q0), .second, .val (.long q1), .second, .val (.long q2), .second, .val (.int p3), .val (.long (5000000 : Int64)), .second, .val (.long xx), .second, .val (.long yy), .second, .val (.long rr), .second, .val (.long zz), .second, .val (.ref b2), .val (.ref b5)] [(.ref b2), (.long yy), (.ref b5)])) rfl (by rw [hml]; rfl) (Steps.refl _) (argsL := [(.long yy), (.ref b2)]) (rest := []) (lenOf pd_2 rfl) rfl (by show 2 * 0 + _ ≤ _; exact Nat.le_of_eq rfl) (hb hby at_115) (fun _ _ => ⟨rfl, e7, (by decide : 4 + 0 ≤ _), (by decide : 16 + 0 ≤ _)⟩)
    dsimp only [Pt.U, Pt.locs, Pt.cells, Pt.slots] at X8 l8 y8 z8 st8 hQ8
    subst l8 y8 z8
    obtain ⟨rfl, Nq8, Kq8, Fq8⟩ := hQ8
    have N8 := Fr.app N7 Nq8
    refine own_goW (fun t k => st8.trans k) ?_
    obtain ⟨h8, e8⟩ : ∃ z, T8.heap = z := ⟨_, rfl⟩
    rw [e8] at Kq8 Fq8
    have ZZ_8 : n0 ≤ h8.size := Nat.le_trans ZZ_7 Kq8.1
    have E_b2_8 : Exa Z h8 b2 "com/example/lint_for_clocks/lintforclocks/model/Template" := E_b2_7.keep Kq8
    have KS_8 : k3 ≤ h8.size := Nat.le_trans KS_7 Kq8.1
    have E_b5_8 : Exa Z h8 b5 "com/example/lint_for_clocks/lintforclocks/rules/Steps" := E_b5_7.keep Kq8
    show own_GoW p e below s _ _ _ (T8.setTop (mkF m 118 #[.val (.long q0), .second, .val (.long q1), .second, .val (.long q2), .second, .val (.int p3), .val (.long (5000000 : Int64)), .second, .val (.long xx), .second, .val (.long yy), .second, .val (.long rr), .second, .val (.long zz), .second, .val (.ref b2), .val (.ref b5)] []))
    refine own_goW (fun t k => XS.aload X8.here hx rfl (hb hby at_118) rfl rfl k) ?_
    show own_GoW p e below s _ _ _ (T8.setTop (mkF m 120 #[.val (.long q0), .second, .val (.long q1), .second, .val (.long q2), .second, .val (.int p3), .val (.long (5000000 : Int64)), .second, .val (.long xx), .second, .val (.long yy), .second, .val (.long rr), .second, .val (.long zz), .second, .val (.ref b2), .val (.ref b5)] [(.ref b5)]))
    refine own_goW (fun t k => XS.lload X8.here hx rfl (hb hby at_120) rfl k) ?_
    show own_GoW p e below s _ _ _ (T8.setTop (mkF m 122 #[.val (.long q0), .second, .val (.long q1), .second, .val (.long q2), .second, .val (.int p3), .val (.long (5000000 : Int64)), .second, .val (.long xx), .second, .val (.long yy), .second, .val (.long rr), .second, .val (.long zz), .second, .val (.ref b2), .val (.ref b5)] [(.long zz), (.ref b5)]))
    refine own_goW (fun t k => XS.aload X8.here hx rfl (hb hby at_122) rfl rfl k) ?_
    show own_GoW p e below s _ _ _ (T8.setTop (mkF m 124 #[.val (.long q0), .second, .val (.long q1), .second, .val (.long q2), .second, .val (.int p3), .val (.long (5000000 : Int64)), .second, .val (.long xx), .second, .val (.long yy), .second, .val (.long rr), .second, .val (.long zz), .second, .val (.ref b2), .val (.ref b5)] [(.ref b2), (.long zz), (.ref b5)]))
    obtain ⟨cq9, kq9, q9a, q9b, q9c⟩ := isOf hZ e8 E_b5_8
    obtain ⟨_, _, ⟨T9, L9, k9, n9⟩, -, X9, ⟨Lc9, hQ9, l9, y9, z9⟩, st9⟩ := X8.virtualBack hx (y := (⟨"com/example/lint_for_clocks/lintforclocks/rules/Steps", "spend", "(JLcom/example/lint_for_clocks/lintforclocks/model/Template;)V"⟩ : MethodName)) (z := (⟨"com/example/lint_for_clocks/lintforclocks/rules/Steps", "spend", "(JLcom/example/lint_for_clocks/lintforclocks/model/Template;)V"⟩ : MethodName)) hown (mvT hZ (hw _ (List.mem_of_getElem? (i := 45) rfl))) (mvT hZ (hw _ (List.mem_of_getElem? (i := 46) rfl))) (notFace_of_selects (args := #[]) (mvT hZ (hw _ (List.mem_of_getElem? (i := 48) rfl)))) (mvT hZ (hw _ (List.mem_of_getElem? (i := 48) rfl))) (mvT hZ (hw _ (List.mem_of_getElem? (i := 47) rfl))) (by decide) (backOf (W := 0) (rm5 l Z a0 hw [] (b5) (zz) (b2) ((((0 : Int64) + xx) + yy)) h8 n0 ZZ_8 Fq8 E_b5_8 gt_b5 hb124) hZ (hw _ (List.mem_of_getElem? (i := 49) rfl)) (hw _ (List.mem_of_getElem? (i := 40) rfl)) (by decide) (by decide)) q9a q9c (g := (mkF m 124 #[.val (.long q0), .second, .val (.long q1), .second, .val (.long q2), .second, .val (.int p3), .val (.long (5000000 : Int64)), .second, .val (.long xx), .second, .val (.long yy), .second, .val (.long rr), .second, .val (.long zz), .second, .val (.ref b2), .val (.ref b5)] [(.ref b2), (.long zz), (.ref b5)])) rfl (by rw [hml]; rfl) (Steps.refl _) (argsL := [(.long zz), (.ref b2)]) (rest := []) (lenOf pd_2 rfl) rfl (by show 2 * 0 + _ ≤ _; exact Nat.le_of_eq rfl) (hb hby at_124) (fun _ _ => ⟨rfl, e8, (by decide : 4 + 0 ≤ _), (by decide : 16 + 0 ≤ _)⟩)
    dsimp only [Pt.U, Pt.locs, Pt.cells, Pt.slots] at X9 l9 y9 z9 st9 hQ9
    subst l9 y9 z9
    obtain ⟨rfl, Nq9, Kq9, Fq9⟩ := hQ9
    have N9 := Fr.app N8 Nq9
    refine own_goW (fun t k => st9.trans k) ?_
    obtain ⟨h9, e9⟩ : ∃ z, T9.heap = z := ⟨_, rfl⟩
    rw [e9] at Kq9 Fq9
    have ZZ_9 : n0 ≤ h9.size := Nat.le_trans ZZ_8 Kq9.1
    have E_b2_9 : Exa Z h9 b2 "com/example/lint_for_clocks/lintforclocks/model/Template" := E_b2_8.keep Kq9
    have KS_9 : k3 ≤ h9.size := Nat.le_trans KS_8 Kq9.1
    have E_b5_9 : Exa Z h9 b5 "com/example/lint_for_clocks/lintforclocks/rules/Steps" := E_b5_8.keep Kq9
    show own_GoW p e below s _ _ _ (T9.setTop (mkF m 127 #[.val (.long q0), .second, .val (.long q1), .second, .val (.long q2), .second, .val (.int p3), .val (.long (5000000 : Int64)), .second, .val (.long xx), .second, .val (.long yy), .second, .val (.long rr), .second, .val (.long zz), .second, .val (.ref b2), .val (.ref b5)] []))
    refine own_goW (fun t k => XS.lload X9.here hx rfl (hb hby at_127) rfl k) ?_
    show own_GoW p e below s _ _ _ (T9.setTop (mkF m 129 #[.val (.long q0), .second, .val (.long q1), .second, .val (.long q2), .second, .val (.int p3), .val (.long (5000000 : Int64)), .second, .val (.long xx), .second, .val (.long yy), .second, .val (.long rr), .second, .val (.long zz), .second, .val (.ref b2), .val (.ref b5)] [(.long xx)]))
    refine own_goW (fun t k => XS.lconst X9.here hx rfl (hb hby at_129) k) ?_
    show own_GoW p e below s _ _ _ (T9.setTop (mkF m 130 #[.val (.long q0), .second, .val (.long q1), .second, .val (.long q2), .second, .val (.int p3), .val (.long (5000000 : Int64)), .second, .val (.long xx), .second, .val (.long yy), .second, .val (.long rr), .second, .val (.long zz), .second, .val (.ref b2), .val (.ref b5)] [(.long (0 : Int64)), (.long xx)]))
    refine own_goW (fun t k => XS.lcmp X9.here hx rfl (hb hby at_130) rfl k) ?_
    show own_GoW p e below s _ _ _ (T9.setTop (mkF m 131 #[.val (.long q0), .second, .val (.long q1), .second, .val (.long q2), .second, .val (.int p3), .val (.long (5000000 : Int64)), .second, .val (.long xx), .second, .val (.long yy), .second, .val (.long rr), .second, .val (.long zz), .second, .val (.ref b2), .val (.ref b5)] [(.int (lcmpW xx (0 : Int64)))]))
    refine own_goW (fun t k => XS.ifNo X9.here hx rfl (hb hby at_131) rfl ((if0 _ _).trans (flt (fun q => (own_nlt (show (0 : Int64).toInt ≤ xx.toInt from by rw [own_0]; omega)) ((lw_lt xx (0 : Int64)).mp q))).1) k) ?_
    show own_GoW p e below s _ _ _ (T9.setTop (mkF m 134 #[.val (.long q0), .second, .val (.long q1), .second, .val (.long q2), .second, .val (.int p3), .val (.long (5000000 : Int64)), .second, .val (.long xx), .second, .val (.long yy), .second, .val (.long rr), .second, .val (.long zz), .second, .val (.ref b2), .val (.ref b5)] []))
    refine own_goW (fun t k => XS.lload X9.here hx rfl (hb hby at_134) rfl k) ?_
    show own_GoW p e below s _ _ _ (T9.setTop (mkF m 136 #[.val (.long q0), .second, .val (.long q1), .second, .val (.long q2), .second, .val (.int p3), .val (.long (5000000 : Int64)), .second, .val (.long xx), .second, .val (.long yy), .second, .val (.long rr), .second, .val (.long zz), .second, .val (.ref b2), .val (.ref b5)] [(.long yy)]))
    refine own_goW (fun t k => XS.lconst X9.here hx rfl (hb hby at_136) k) ?_
    show own_GoW p e below s _ _ _ (T9.setTop (mkF m 137 #[.val (.long q0), .second, .val (.long q1), .second, .val (.long q2), .second, .val (.int p3), .val (.long (5000000 : Int64)), .second, .val (.long xx), .second, .val (.long yy), .second, .val (.long rr), .second, .val (.long zz), .second, .val (.ref b2), .val (.ref b5)] [(.long (0 : Int64)), (.long yy)]))
    refine own_goW (fun t k => XS.lcmp X9.here hx rfl (hb hby at_137) rfl k) ?_
    show own_GoW p e below s _ _ _ (T9.setTop (mkF m 138 #[.val (.long q0), .second, .val (.long q1), .second, .val (.long q2), .second, .val (.int p3), .val (.long (5000000 : Int64)), .second, .val (.long xx), .second, .val (.long yy), .second, .val (.long rr), .second, .val (.long zz), .second, .val (.ref b2), .val (.ref b5)] [(.int (lcmpW yy (0 : Int64)))]))
    refine own_goW (fun t k => XS.ifNo X9.here hx rfl (hb hby at_138) rfl ((if0 _ _).trans (flt (fun q => (own_nlt (show (0 : Int64).toInt ≤ yy.toInt from by rw [own_0]; omega)) ((lw_lt yy (0 : Int64)).mp q))).1) k) ?_
    show own_GoW p e below s _ _ _ (T9.setTop (mkF m 141 #[.val (.long q0), .second, .val (.long q1), .second, .val (.long q2), .second, .val (.int p3), .val (.long (5000000 : Int64)), .second, .val (.long xx), .second, .val (.long yy), .second, .val (.long rr), .second, .val (.long zz), .second, .val (.ref b2), .val (.ref b5)] []))
    refine own_goW (fun t k => XS.lload X9.here hx rfl (hb hby at_141) rfl k) ?_
    show own_GoW p e below s _ _ _ (T9.setTop (mkF m 143 #[.val (.long q0), .second, .val (.long q1), .second, .val (.long q2), .second, .val (.int p3), .val (.long (5000000 : Int64)), .second, .val (.long xx), .second, .val (.long yy), .second, .val (.long rr), .second, .val (.long zz), .second, .val (.ref b2), .val (.ref b5)] [(.long zz)]))
    refine own_goW (fun t k => XS.lconst X9.here hx rfl (hb hby at_143) k) ?_
    show own_GoW p e below s _ _ _ (T9.setTop (mkF m 144 #[.val (.long q0), .second, .val (.long q1), .second, .val (.long q2), .second, .val (.int p3), .val (.long (5000000 : Int64)), .second, .val (.long xx), .second, .val (.long yy), .second, .val (.long rr), .second, .val (.long zz), .second, .val (.ref b2), .val (.ref b5)] [(.long (0 : Int64)), (.long zz)]))
    refine own_goW (fun t k => XS.lcmp X9.here hx rfl (hb hby at_144) rfl k) ?_
    show own_GoW p e below s _ _ _ (T9.setTop (mkF m 145 #[.val (.long q0), .second, .val (.long q1), .second, .val (.long q2), .second, .val (.int p3), .val (.long (5000000 : Int64)), .second, .val (.long xx), .second, .val (.long yy), .second, .val (.long rr), .second, .val (.long zz), .second, .val (.ref b2), .val (.ref b5)] [(.int (lcmpW zz (0 : Int64)))]))
    refine own_goW (fun t k => XS.ifNo X9.here hx rfl (hb hby at_145) rfl ((if0 _ _).trans (flt (fun q => (own_nlt (show (0 : Int64).toInt ≤ zz.toInt from by rw [own_0]; omega)) ((lw_lt zz (0 : Int64)).mp q))).1) k) ?_
    show own_GoW p e below s _ _ _ (T9.setTop (mkF m 148 #[.val (.long q0), .second, .val (.long q1), .second, .val (.long q2), .second, .val (.int p3), .val (.long (5000000 : Int64)), .second, .val (.long xx), .second, .val (.long yy), .second, .val (.long rr), .second, .val (.long zz), .second, .val (.ref b2), .val (.ref b5)] []))
    refine own_goW (fun t k => XS.lload X9.here hx rfl (hb hby at_148) rfl k) ?_
    show own_GoW p e below s _ _ _ (T9.setTop (mkF m 150 #[.val (.long q0), .second, .val (.long q1), .second, .val (.long q2), .second, .val (.int p3), .val (.long (5000000 : Int64)), .second, .val (.long xx), .second, .val (.long yy), .second, .val (.long rr), .second, .val (.long zz), .second, .val (.ref b2), .val (.ref b5)] [(.long xx)]))
    refine own_goW (fun t k => XS.lload X9.here hx rfl (hb hby at_150) rfl k) ?_
    show own_GoW p e below s _ _ _ (T9.setTop (mkF m 152 #[.val (.long q0), .second, .val (.long q1), .second, .val (.long q2), .second, .val (.int p3), .val (.long (5000000 : Int64)), .second, .val (.long xx), .second, .val (.long yy), .second, .val (.long rr), .second, .val (.long zz), .second, .val (.ref b2), .val (.ref b5)] [(.long yy), (.long xx)]))
    refine own_goW (fun t k => XS.ladd X9.here hx rfl (hb hby at_152) rfl k) ?_
    show own_GoW p e below s _ _ _ (T9.setTop (mkF m 153 #[.val (.long q0), .second, .val (.long q1), .second, .val (.long q2), .second, .val (.int p3), .val (.long (5000000 : Int64)), .second, .val (.long xx), .second, .val (.long yy), .second, .val (.long rr), .second, .val (.long zz), .second, .val (.ref b2), .val (.ref b5)] [(.long (xx + yy))]))
    refine own_goW (fun t k => XS.lload X9.here hx rfl (hb hby at_153) rfl k) ?_
    show own_GoW p e below s _ _ _ (T9.setTop (mkF m 155 #[.val (.long q0), .second, .val (.long q1), .second, .val (.long q2), .second, .val (.int p3), .val (.long (5000000 : Int64)), .second, .val (.long xx), .second, .val (.long yy), .second, .val (.long rr), .second, .val (.long zz), .second, .val (.ref b2), .val (.ref b5)] [(.long zz), (.long (xx + yy))]))
    refine own_goW (fun t k => XS.ladd X9.here hx rfl (hb hby at_155) rfl k) ?_
    show own_GoW p e below s _ _ _ (T9.setTop (mkF m 156 #[.val (.long q0), .second, .val (.long q1), .second, .val (.long q2), .second, .val (.int p3), .val (.long (5000000 : Int64)), .second, .val (.long xx), .second, .val (.long yy), .second, .val (.long rr), .second, .val (.long zz), .second, .val (.ref b2), .val (.ref b5)] [(.long ((xx + yy) + zz))]))
    refine own_goW (fun t k => XS.lload X9.here hx rfl (hb hby at_156) rfl k) ?_
    show own_GoW p e below s _ _ _ (T9.setTop (mkF m 158 #[.val (.long q0), .second, .val (.long q1), .second, .val (.long q2), .second, .val (.int p3), .val (.long (5000000 : Int64)), .second, .val (.long xx), .second, .val (.long yy), .second, .val (.long rr), .second, .val (.long zz), .second, .val (.ref b2), .val (.ref b5)] [(.long (5000000 : Int64)), (.long ((xx + yy) + zz))]))
    refine own_goW (fun t k => XS.lcmp X9.here hx rfl (hb hby at_158) rfl k) ?_
    show own_GoW p e below s _ _ _ (T9.setTop (mkF m 159 #[.val (.long q0), .second, .val (.long q1), .second, .val (.long q2), .second, .val (.int p3), .val (.long (5000000 : Int64)), .second, .val (.long xx), .second, .val (.long yy), .second, .val (.long rr), .second, .val (.long zz), .second, .val (.ref b2), .val (.ref b5)] [(.int (lcmpW ((xx + yy) + zz) (5000000 : Int64)))]))
    refine own_goW (fun t k => XS.ifNo X9.here hx rfl (hb hby at_159) rfl ((if0 _ _).trans (flt (fun q => (own_nlt (show ((xx + yy) + zz).toInt ≤ (5000000 : Int64).toInt from by rw [own_5]; omega)) ((lw_gt ((xx + yy) + zz) (5000000 : Int64)).mp q))).2.2.1) k) ?_
    show own_GoW p e below s _ _ _ (T9.setTop (mkF m 162 #[.val (.long q0), .second, .val (.long q1), .second, .val (.long q2), .second, .val (.int p3), .val (.long (5000000 : Int64)), .second, .val (.long xx), .second, .val (.long yy), .second, .val (.long rr), .second, .val (.long zz), .second, .val (.ref b2), .val (.ref b5)] []))
    refine own_goW (fun t k => XS.iconst X9.here hx rfl (hb hby at_162) k) ?_
    show own_GoW p e below s _ _ _ (T9.setTop (mkF m 163 #[.val (.long q0), .second, .val (.long q1), .second, .val (.long q2), .second, .val (.int p3), .val (.long (5000000 : Int64)), .second, .val (.long xx), .second, .val (.long yy), .second, .val (.long rr), .second, .val (.long zz), .second, .val (.ref b2), .val (.ref b5)] [(.int (1 : Int32))]))
    refine own_goW (fun t k => XS.goto X9.here hx rfl (pc0 := 163) (pc' := 167) rfl (hb hby at_163) (by decide) (by decide) k) ?_
    show own_GoW p e below s _ _ _ (T9.setTop (mkF m 167 #[.val (.long q0), .second, .val (.long q1), .second, .val (.long q2), .second, .val (.int p3), .val (.long (5000000 : Int64)), .second, .val (.long xx), .second, .val (.long yy), .second, .val (.long rr), .second, .val (.long zz), .second, .val (.ref b2), .val (.ref b5)] [(.int (1 : Int32))]))
    refine own_retW X9 hS3 (by rw [e9]; exact KS_9) (v := some (.int (1 : Int32))) (fun h => by rw [hret] at h; cases h) hlk ?_ (by decide) (by decide) (fun fs hr => retN X9 hx (t := .boolean) hret (by simp) (hb hby at_167) hr)
    show Q0 Z q0 q1 q2 p3 h0 n0 (some (.int (1 : Int32))) T9.heap _
    rw [e9]
    exact ⟨rfl, N9⟩
  by_cases hc48 : (q2 &&& (1 : Int64)) = (0 : Int64)
  · skip
    have hi48 : ((q2 &&& (1 : Int64))).toInt = 0 := congrArg Int64.toInt hc48
    refine own_goW (fun t k => XS.ifYes X0.here hx rfl (pc0 := 48) (pc' := 58) rfl (hb hby at_48) rfl ((if0 _ _).trans (teq ((lw_eq (q2 &&& (1 : Int64)) (0 : Int64)).mpr hc48)).1) (by decide) (by decide) k) ?_
    show own_GoW p e below s _ _ _ (s₁.setTop (mkF m 58 #[.val (.long q0), .second, .val (.long q1), .second, .val (.long q2), .second, .val (.int p3), .val (.long (5000000 : Int64)), .second, .val (.long xx), .second, .val (.long yy), .second, .val (.long rr), .second, .unset, .unset, .unset, .unset] []))
    refine own_goW (fun t k => XS.lload X0.here hx rfl (hb hby at_58) rfl k) ?_
    show own_GoW p e below s _ _ _ (s₁.setTop (mkF m 60 #[.val (.long q0), .second, .val (.long q1), .second, .val (.long q2), .second, .val (.int p3), .val (.long (5000000 : Int64)), .second, .val (.long xx), .second, .val (.long yy), .second, .val (.long rr), .second, .unset, .unset, .unset, .unset] [(.long q2)]))
    refine own_goW (fun t k => XS.iconst X0.here hx rfl (hb hby at_60) k) ?_
    show own_GoW p e below s _ _ _ (s₁.setTop (mkF m 61 #[.val (.long q0), .second, .val (.long q1), .second, .val (.long q2), .second, .val (.int p3), .val (.long (5000000 : Int64)), .second, .val (.long xx), .second, .val (.long yy), .second, .val (.long rr), .second, .unset, .unset, .unset, .unset] [(.int (1 : Int32)), (.long q2)]))
    refine own_goW (fun t k => XS.lushr X0.here hx rfl (hb hby at_61) rfl k) ?_
    show own_GoW p e below s _ _ _ (s₁.setTop (mkF m 62 #[.val (.long q0), .second, .val (.long q1), .second, .val (.long q2), .second, .val (.int p3), .val (.long (5000000 : Int64)), .second, .val (.long xx), .second, .val (.long yy), .second, .val (.long rr), .second, .unset, .unset, .unset, .unset] [(.long ((q2.toUInt64 >>> ((1 : Int32) &&& 0x3f).toInt64.toUInt64).toInt64))]))
    refine own_goW (fun t k => X0.ldc2Long hx hown (mvT hZ (hw _ (List.mem_of_getElem? (i := 1) rfl))) (g := (mkF m 62 #[.val (.long q0), .second, .val (.long q1), .second, .val (.long q2), .second, .val (.int p3), .val (.long (5000000 : Int64)), .second, .val (.long xx), .second, .val (.long yy), .second, .val (.long rr), .second, .unset, .unset, .unset, .unset] [(.long ((q2.toUInt64 >>> ((1 : Int32) &&& 0x3f).toInt64.toUInt64).toInt64))])) rfl (hb hby at_62) _ k) ?_
    show own_GoW p e below s _ _ _ (s₁.setTop (mkF m 65 #[.val (.long q0), .second, .val (.long q1), .second, .val (.long q2), .second, .val (.int p3), .val (.long (5000000 : Int64)), .second, .val (.long xx), .second, .val (.long yy), .second, .val (.long rr), .second, .unset, .unset, .unset, .unset] [(.long (9223372036854775807 : Int64)), (.long ((q2.toUInt64 >>> ((1 : Int32) &&& 0x3f).toInt64.toUInt64).toInt64))]))
    refine own_goW (fun t k => XS.land X0.here hx rfl (hb hby at_65) rfl k) ?_
    show own_GoW p e below s _ _ _ (s₁.setTop (mkF m 66 #[.val (.long q0), .second, .val (.long q1), .second, .val (.long q2), .second, .val (.int p3), .val (.long (5000000 : Int64)), .second, .val (.long xx), .second, .val (.long yy), .second, .val (.long rr), .second, .unset, .unset, .unset, .unset] [(.long (((q2.toUInt64 >>> ((1 : Int32) &&& 0x3f).toInt64.toUInt64).toInt64) &&& (9223372036854775807 : Int64)))]))
    refine own_goW (fun t k => XS.lload X0.here hx rfl (hb hby at_66) rfl k) ?_
    show own_GoW p e below s _ _ _ (s₁.setTop (mkF m 68 #[.val (.long q0), .second, .val (.long q1), .second, .val (.long q2), .second, .val (.int p3), .val (.long (5000000 : Int64)), .second, .val (.long xx), .second, .val (.long yy), .second, .val (.long rr), .second, .unset, .unset, .unset, .unset] [(.long rr), (.long (((q2.toUInt64 >>> ((1 : Int32) &&& 0x3f).toInt64.toUInt64).toInt64) &&& (9223372036854775807 : Int64)))]))
    refine own_goW (fun t k => XS.lconst X0.here hx rfl (hb hby at_68) k) ?_
    show own_GoW p e below s _ _ _ (s₁.setTop (mkF m 69 #[.val (.long q0), .second, .val (.long q1), .second, .val (.long q2), .second, .val (.int p3), .val (.long (5000000 : Int64)), .second, .val (.long xx), .second, .val (.long yy), .second, .val (.long rr), .second, .unset, .unset, .unset, .unset] [(.long (1 : Int64)), (.long rr), (.long (((q2.toUInt64 >>> ((1 : Int32) &&& 0x3f).toInt64.toUInt64).toInt64) &&& (9223372036854775807 : Int64)))]))
    refine own_goW (fun t k => XS.ladd X0.here hx rfl (hb hby at_69) rfl k) ?_
    show own_GoW p e below s _ _ _ (s₁.setTop (mkF m 70 #[.val (.long q0), .second, .val (.long q1), .second, .val (.long q2), .second, .val (.int p3), .val (.long (5000000 : Int64)), .second, .val (.long xx), .second, .val (.long yy), .second, .val (.long rr), .second, .unset, .unset, .unset, .unset] [(.long (rr + (1 : Int64))), (.long (((q2.toUInt64 >>> ((1 : Int32) &&& 0x3f).toInt64.toUInt64).toInt64) &&& (9223372036854775807 : Int64)))]))
    refine own_goW (fun t k => own_lrem X0 hx rfl (hb hby at_70) rfl (own_nz (by omega)) k) ?_
    show own_GoW p e below s _ _ _ (s₁.setTop (mkF m 71 #[.val (.long q0), .second, .val (.long q1), .second, .val (.long q2), .second, .val (.int p3), .val (.long (5000000 : Int64)), .second, .val (.long xx), .second, .val (.long yy), .second, .val (.long rr), .second, .unset, .unset, .unset, .unset] [(.long ((((q2.toUInt64 >>> ((1 : Int32) &&& 0x3f).toInt64.toUInt64).toInt64) &&& (9223372036854775807 : Int64)) % (rr + (1 : Int64))))]))
    refine own_goW (fun t k => XS.lstore X0.here hx rfl (hb hby at_71) rfl (l' := #[.val (.long q0), .second, .val (.long q1), .second, .val (.long q2), .second, .val (.int p3), .val (.long (5000000 : Int64)), .second, .val (.long xx), .second, .val (.long yy), .second, .val (.long rr), .second, .val (.long ((((q2.toUInt64 >>> ((1 : Int32) &&& 0x3f).toInt64.toUInt64).toInt64) &&& (9223372036854775807 : Int64)) % (rr + (1 : Int64)))), .second, .unset, .unset]) rfl k) ?_
    show own_GoW p e below s _ _ _ (s₁.setTop (mkF m 73 #[.val (.long q0), .second, .val (.long q1), .second, .val (.long q2), .second, .val (.int p3), .val (.long (5000000 : Int64)), .second, .val (.long xx), .second, .val (.long yy), .second, .val (.long rr), .second, .val (.long ((((q2.toUInt64 >>> ((1 : Int32) &&& 0x3f).toInt64.toUInt64).toInt64) &&& (9223372036854775807 : Int64)) % (rr + (1 : Int64)))), .second, .unset, .unset] []))
    exact J73 s₁ _ X0 e0 N0  (((((q2.toUInt64 >>> ((1 : Int32) &&& 0x3f).toInt64.toUInt64).toInt64) &&& (9223372036854775807 : Int64)) % (rr + (1 : Int64)))) (by first | omega | (have q := own_rem ((q2.toUInt64 >>> ((1 : Int32) &&& 0x3f).toInt64.toUInt64).toInt64) (rr + (1 : Int64)) (by omega); omega))
  · skip
    have hi48 : ¬ ((q2 &&& (1 : Int64))).toInt = 0 := fun q => hc48 (Int64.toInt_inj.mp q)
    refine own_goW (fun t k => XS.ifNo X0.here hx rfl (hb hby at_48) rfl ((if0 _ _).trans (feq (fun q => hc48 ((lw_eq (q2 &&& (1 : Int64)) (0 : Int64)).mp q))).1) k) ?_
    show own_GoW p e below s _ _ _ (s₁.setTop (mkF m 51 #[.val (.long q0), .second, .val (.long q1), .second, .val (.long q2), .second, .val (.int p3), .val (.long (5000000 : Int64)), .second, .val (.long xx), .second, .val (.long yy), .second, .val (.long rr), .second, .unset, .unset, .unset, .unset] []))
    refine own_goW (fun t k => XS.lload X0.here hx rfl (hb hby at_51) rfl k) ?_
    show own_GoW p e below s _ _ _ (s₁.setTop (mkF m 53 #[.val (.long q0), .second, .val (.long q1), .second, .val (.long q2), .second, .val (.int p3), .val (.long (5000000 : Int64)), .second, .val (.long xx), .second, .val (.long yy), .second, .val (.long rr), .second, .unset, .unset, .unset, .unset] [(.long rr)]))
    refine own_goW (fun t k => XS.lstore X0.here hx rfl (hb hby at_53) rfl (l' := #[.val (.long q0), .second, .val (.long q1), .second, .val (.long q2), .second, .val (.int p3), .val (.long (5000000 : Int64)), .second, .val (.long xx), .second, .val (.long yy), .second, .val (.long rr), .second, .val (.long rr), .second, .unset, .unset]) rfl k) ?_
    show own_GoW p e below s _ _ _ (s₁.setTop (mkF m 55 #[.val (.long q0), .second, .val (.long q1), .second, .val (.long q2), .second, .val (.int p3), .val (.long (5000000 : Int64)), .second, .val (.long xx), .second, .val (.long yy), .second, .val (.long rr), .second, .val (.long rr), .second, .unset, .unset] []))
    refine own_goW (fun t k => XS.goto X0.here hx rfl (pc0 := 55) (pc' := 73) rfl (hb hby at_55) (by decide) (by decide) k) ?_
    show own_GoW p e below s _ _ _ (s₁.setTop (mkF m 73 #[.val (.long q0), .second, .val (.long q1), .second, .val (.long q2), .second, .val (.int p3), .val (.long (5000000 : Int64)), .second, .val (.long xx), .second, .val (.long yy), .second, .val (.long rr), .second, .val (.long rr), .second, .unset, .unset] []))
    exact J73 s₁ _ X0 e0 N0  (rr) (by first | omega | (have q := own_rem ((q2.toUInt64 >>> ((1 : Int32) &&& 0x3f).toInt64.toUInt64).toInt64) (rr + (1 : Int64)) (by omega); omega))
set_option maxRecDepth 65536 in
set_option maxHeartbeats 40000000 in
theorem comes_1 {Post : Tables → Env → Array Value → State → Outcome → State → Prop} (hpost : ∀ tb e args s v u, (limb_1_1.after args s (.returned v) u = true ∧ limb_1_2.after args s (.returned v) u = true ∧ True) → ReturnedEndW s (.returned v) u (Jvm.fieldLocs frame_1_writes args s ++ Jvm.arrayLocs frame_1_arrays args s ++ Jvm.staticLocs frame_1_statics s) 16 1152 → Post tb e args s (.returned v) u) :
    ArmFor flags0 classFile x code maxLocals ret World_1 tables_1 room_1 Calls_1 rest_1 Pre_1 Post := by
  intro l hfl _ _ p e ha hc hk s m args below hf hA hF happ hP
  obtain ⟨hcalls, hrest, hpre⟩ := hP
  obtain ⟨-, -, -, hnamed, -, -, -, hat⟩ := (Spec.applies_iff hf).mp happ
  obtain ⟨hg, hn⟩ := and_e (Cond.before_iff.mp (show (Jvm.Cond.and given_1 narrow_1).before args s = true from hpre))
  obtain ⟨g1, g2⟩ := and_e hg
  obtain ⟨g3, g4⟩ := and_e g2
  obtain ⟨g5, g6⟩ := and_e g4
  obtain ⟨g7, g8⟩ := and_e g6
  obtain ⟨w0, w1, w2, w3, rfl⟩ : ∃ w0 w1 w2 w3 : Value, args = #[w0, w1, w2, w3] := by
    have hs : args.size = 4 := by simpa [Cond.value, given_1] using g1
    obtain ⟨L⟩ := args
    match L, hs with
    | [w0, w1, w2, w3], _ => exact ⟨w0, w1, w2, w3, rfl⟩
  have hw := fun d (hd : d ∈ tables_1) => atoms_spec (ws := Jvm.Cond.code x code maxLocals ret :: tables_1) hat d (List.mem_cons_of_mem _ hd)
  have hfit : Fit s := fun {y c} hc i hi => by
    obtain ⟨ha, rfl⟩ := Array.getElem?_eq_some_iff.mp hc
    have q := List.all_eq_true.mp ((Array.all_eq_true_iff_forall_mem.mp hF) _ (Array.getElem_mem ha)) i (List.mem_range.mpr hi)
    simpa [Array.getElem?_eq_getElem hi] using q
  obtain ⟨i0, ei0⟩ := isL_v g3
  obtain rfl : w0 = (.long i0) := Option.some.inj ei0
  obtain ⟨i1, ei1⟩ := isL_v g5
  obtain rfl : w1 = (.long i1) := Option.some.inj ei1
  obtain ⟨i2, ei2⟩ := isL_v g7
  obtain rfl : w2 = (.long i2) := Option.some.inj ei2
  obtain ⟨i3, ei3⟩ := is_v g8
  obtain rfl : w3 = (.int i3) := Option.some.inj ei3
  obtain ⟨n, o, h1, h2, h3, _, L, rfl, ⟨rfl, N⟩, hq⟩ := rm0 l s _ hw tables_1 i0 i1 i2 i3  s.heap s.heap.size (Nat.le_refl _)  p e ha hc hk s m _ below hf ((Spec.applies_iff_loose hf).mp happ).1 ⟨rfl, State.Warmed39.refl s, rfl⟩ trivial
  refine ⟨n, _, h1, h2, h3, hpost _ _ _ _ _ _ ⟨Cond.after_iff.mpr rfl, Cond.after_iff.mpr (eq_i res_at (Term.int_eval (1)) rfl), trivial⟩ ⟨hq.1, hq.2.1, hq.2.2.1, (hq.2.2.2.sift fun y hy => Or.inr (N y hy)).mono (by decide) (by decide)⟩⟩
theorem main_1_1 : Claimed_1_1 := comes_1 fun _ _ _ _ _ _ h hF => ⟨h.1, hF⟩
theorem main_1_2 : Claimed_1_2 := comes_1 fun _ _ _ _ _ _ h hF => ⟨h.2.1, hF⟩
end Jvm.Pilot.@@N@@
namespace Jvm.Pilot.@@N@@
open Jvm Jvm.ClassFile Sem Op Lib Jvm.Free Jvm.Stand Jvm.Pilot.@@N@@.Jvm.D
/-! MADE BY PROGRAM (witnessworld.py) out of the Statement's table words and the real class files: 16 classes; the members and pool entries that the words name. The judged class is class 1, her method 1. -/
namespace start1
open Jvm.ClassFile
def u (s : String) : CpInfo := .utf8 (stringToUtf16 s)
/-- a pool by its gaps: so many unusable entries, then the entry; so many at the end -/
def gap : Nat → List CpInfo → List CpInfo
  | 0, r => r
  | n + 1, r => .unusable :: gap n r
def poolList (es : List (Nat × CpInfo)) (last : Nat) : List CpInfo := es.foldr (fun e r => gap e.1 (e.2 :: r)) (gap last [])
def pool (es : List (Nat × CpInfo)) (last : Nat) : Array CpInfo := ⟨poolList es last⟩
def fileOf (pool : Array CpInfo) (this : Nat) (attrs : Array Attribute := #[]) (ms : Array MethodInfo := #[]) (fl : Nat := 33) (sup : Nat := 0) (ifs : Array Nat := #[]) (fds : Array FieldInfo := #[]) : ClassFile where
  minorVersion := 0
  majorVersion := 65
  constantPool := pool
  accessFlags := fl
  thisClass := this
  superClass := sup
  interfaces := ifs
  fields := fds
  methods := ms
  attributes := attrs
def plain (name : String) (sup : Option ClassId) : Class where
  name := name
  kind := .ordinary
  loader := none
  accessFlags := 33
  super := sup
  interfaces := #[]
  cf := none
  fields := #[]
  methods := #[]
  instanceTypes := #[]
  staticTypes := #[]
  resolved := #[]
  callSites := []
  init := .initialized
  statics := none
  mirror := none

def pool0 : Array CpInfo := pool [(5, u "<init>"), (0, u "()V"), (1, .class_ 10), (1, u "java/lang/Object")] 113

def k0c0 : Code := { maxStack := 0, maxLocals := 1, code := object_method_1_code, exceptionTable := #[], attributes := #[] }
def k0m0 : Method := { name := "<init>", desc := "()V", sig := { parameters := [], returnType := none }, accessFlags := 1, code := some k0c0 }
/-- java/lang/Object -/
def k0 : Class := { plain "java/lang/Object" none with
  accessFlags := 33
  interfaces := #[]
  cf := some (fileOf pool0 8 #[] #[{ accessFlags := 1, nameIndex := 5, descriptorIndex := 6, attributes := #[] }] 33 0 #[] #[])
  fields := #[]
  methods := #[k0m0]
  instanceTypes := #[]
  staticTypes := #[]
  resolved := Array.replicate 124 none
  statics := none }

def pool1 : Array CpInfo := pool [(2, .class_ 4), (0, .nameAndType 5 6), (0, u "java/lang/Object"), (0, u "<init>"), (0, u "()V"), (0, .long 5000000), (3, .long 9223372036854775807), (1, .class_ 14), (0, u "com/example/lint_for_clocks/lintforclocks/model/Template"), (0, .string 16), (0, u "t"), (0, .methodref 13 18), (0, .nameAndType 5 19), (0, u "(Ljava/lang/String;ILjava/util/List;Ljava/util/List;Ljava/util/List;Ljava/util/List;Ljava/util/List;)V"), (0, .class_ 21), (0, u "com/example/lint_for_clocks/lintforclocks/rules/Steps"), (0, .methodref 20 3), (0, .methodref 20 24), (0, .nameAndType 25 26), (0, u "spend"), (0, u "(JLcom/example/lint_for_clocks/lintforclocks/model/Template;)V"), (0, .class_ 28), (0, u "com/example/lint_for_clocks/lintforclocks/rules/StepsSpendPinLaw"), (2, u "law"), (0, u "(JJJI)Z")] 6

def k1m0 : Method := { name := "<init>", desc := "()V", sig := { parameters := [], returnType := none }, accessFlags := 1, code := none }
def k1c1 : Code := { maxStack := 9, maxLocals := 19, code := code, exceptionTable := #[], attributes := #[] }
def k1m1 : Method := { name := "law", desc := "(JJJI)Z", sig := { parameters := [.long, .long, .long, .int], returnType := some .boolean }, accessFlags := 9, code := some k1c1 }
/-- com/example/lint_for_clocks/lintforclocks/rules/StepsSpendPinLaw -/
def k1 : Class := { plain "com/example/lint_for_clocks/lintforclocks/rules/StepsSpendPinLaw" (some 0) with
  accessFlags := 49
  interfaces := #[]
  cf := some (fileOf pool1 27 #[] #[{ accessFlags := 1, nameIndex := 5, descriptorIndex := 6, attributes := #[] }, { accessFlags := 9, nameIndex := 31, descriptorIndex := 32, attributes := #[] }] 49 2 #[] #[])
  fields := #[]
  methods := #[k1m0, k1m1]
  instanceTypes := #[]
  staticTypes := #[]
  resolved := Array.replicate 39 none
  statics := none }

def pool2 : Array CpInfo := pool [(1, .methodref 2 3), (0, .class_ 4), (0, .nameAndType 5 6), (0, u "java/lang/Object"), (0, u "<init>"), (0, u "()V"), (0, .class_ 8), (0, u "java/lang/Record")] 13

def k2c0 : Code := { maxStack := 1, maxLocals := 1, code := jdk_30_method_1_code, exceptionTable := #[], attributes := #[] }
def k2m0 : Method := { name := "<init>", desc := "()V", sig := { parameters := [], returnType := none }, accessFlags := 4, code := some k2c0 }
/-- java/lang/Record -/
def k2 : Class := { plain "java/lang/Record" (some 0) with
  accessFlags := 1057
  interfaces := #[]
  cf := some (fileOf pool2 7 #[] #[{ accessFlags := 4, nameIndex := 5, descriptorIndex := 6, attributes := #[] }] 1057 2 #[] #[])
  fields := #[]
  methods := #[k2m0]
  instanceTypes := #[]
  staticTypes := #[]
  resolved := Array.replicate 22 none
  statics := none }

def pool3 : Array CpInfo := pool [(1, .methodref 2 3), (0, .class_ 4), (0, .nameAndType 5 6), (0, u "java/lang/Record"), (0, u "<init>"), (0, u "()V"), (0, .fieldref 8 9), (0, .class_ 10), (0, .nameAndType 11 12), (0, u "com/example/lint_for_clocks/lintforclocks/model/Template"), (0, u "name"), (0, u "Ljava/lang/String;"), (0, .fieldref 8 14), (0, .nameAndType 15 16), (0, u "line"), (0, u "I"), (0, .fieldref 8 18), (0, .nameAndType 19 20), (0, u "parameters"), (0, u "Ljava/util/List;"), (0, .fieldref 8 22), (0, .nameAndType 23 20), (0, u "declarations"), (0, .fieldref 8 25), (0, .nameAndType 26 20), (0, u "locations"), (0, .fieldref 8 28), (0, .nameAndType 29 20), (0, u "branchpoints"), (0, .fieldref 8 31), (0, .nameAndType 32 20), (0, u "edges"), (18, u "(Ljava/lang/String;ILjava/util/List;Ljava/util/List;Ljava/util/List;Ljava/util/List;Ljava/util/List;)V")] 39

def k3c0 : Code := { maxStack := 2, maxLocals := 8, code := prog_60_method_1_code, exceptionTable := #[], attributes := #[] }
def k3m0 : Method := { name := "<init>", desc := "(Ljava/lang/String;ILjava/util/List;Ljava/util/List;Ljava/util/List;Ljava/util/List;Ljava/util/List;)V", sig := { parameters := [(.object "java/lang/String"), .int, (.object "java/util/List"), (.object "java/util/List"), (.object "java/util/List"), (.object "java/util/List"), (.object "java/util/List")], returnType := none }, accessFlags := 1, code := some k3c0 }
/-- com/example/lint_for_clocks/lintforclocks/model/Template -/
def k3 : Class := { plain "com/example/lint_for_clocks/lintforclocks/model/Template" (some 2) with
  accessFlags := 49
  interfaces := #[]
  cf := some (fileOf pool3 8 #[] #[{ accessFlags := 1, nameIndex := 5, descriptorIndex := 51, attributes := #[] }] 49 2 #[] #[{ accessFlags := 18, nameIndex := 11, descriptorIndex := 12, attributes := #[] }, { accessFlags := 18, nameIndex := 15, descriptorIndex := 16, attributes := #[] }, { accessFlags := 18, nameIndex := 19, descriptorIndex := 20, attributes := #[] }, { accessFlags := 18, nameIndex := 23, descriptorIndex := 20, attributes := #[] }, { accessFlags := 18, nameIndex := 26, descriptorIndex := 20, attributes := #[] }, { accessFlags := 18, nameIndex := 29, descriptorIndex := 20, attributes := #[] }, { accessFlags := 18, nameIndex := 32, descriptorIndex := 20, attributes := #[] }])
  fields := #[{ name := "name", type := (.object "java/lang/String"), accessFlags := 18, slot := 0, constantValue := 0 }, { name := "line", type := .int, accessFlags := 18, slot := 1, constantValue := 0 }, { name := "parameters", type := (.object "java/util/List"), accessFlags := 18, slot := 2, constantValue := 0 }, { name := "declarations", type := (.object "java/util/List"), accessFlags := 18, slot := 3, constantValue := 0 }, { name := "locations", type := (.object "java/util/List"), accessFlags := 18, slot := 4, constantValue := 0 }, { name := "branchpoints", type := (.object "java/util/List"), accessFlags := 18, slot := 5, constantValue := 0 }, { name := "edges", type := (.object "java/util/List"), accessFlags := 18, slot := 6, constantValue := 0 }]
  methods := #[k3m0]
  instanceTypes := #[(.object "java/lang/String"), .int, (.object "java/util/List"), (.object "java/util/List"), (.object "java/util/List"), (.object "java/util/List"), (.object "java/util/List")]
  staticTypes := #[]
  resolved := Array.replicate 91 none
  statics := none }

def pool4 : Array CpInfo := pool [(1, .class_ 2), (0, u "java/io/Serializable"), (0, .class_ 4), (0, u "java/lang/Object")] 2

/-- java/io/Serializable -/
def k4 : Class := { plain "java/io/Serializable" (some 0) with
  accessFlags := 1537
  interfaces := #[]
  cf := some (fileOf pool4 1 #[] #[] 1537 3 #[] #[])
  fields := #[]
  methods := #[]
  instanceTypes := #[]
  staticTypes := #[]
  resolved := Array.replicate 7 none
  statics := none }

def pool5 : Array CpInfo := pool [(1, .class_ 2), (0, u "java/lang/Comparable"), (0, .class_ 4), (0, u "java/lang/Object")] 7

/-- java/lang/Comparable -/
def k5 : Class := { plain "java/lang/Comparable" (some 0) with
  accessFlags := 1537
  interfaces := #[]
  cf := some (fileOf pool5 1 #[] #[] 1537 3 #[] #[])
  fields := #[]
  methods := #[]
  instanceTypes := #[]
  staticTypes := #[]
  resolved := Array.replicate 12 none
  statics := none }

def pool6 : Array CpInfo := pool [(2, .class_ 4), (1, u "java/lang/CharSequence"), (42, .class_ 48), (0, u "java/lang/CharSequence$1CodePointIterator"), (10, .class_ 60), (0, u "java/lang/CharSequence$1CharIterator"), (5, .class_ 67), (0, u "java/lang/Object")] 63

/-- java/lang/CharSequence -/
def k6 : Class := { plain "java/lang/CharSequence" (some 0) with
  accessFlags := 1537
  interfaces := #[]
  cf := some (fileOf pool6 2 #[.nestMembers #[47, 59]] #[] 1537 66 #[] #[])
  fields := #[]
  methods := #[]
  instanceTypes := #[]
  staticTypes := #[]
  resolved := Array.replicate 131 none
  statics := none }

def pool7 : Array CpInfo := pool [(1, .class_ 2), (0, u "java/lang/constant/Constable"), (0, .class_ 4), (0, u "java/lang/Object")] 6

/-- java/lang/constant/Constable -/
def k7 : Class := { plain "java/lang/constant/Constable" (some 0) with
  accessFlags := 1537
  interfaces := #[]
  cf := some (fileOf pool7 1 #[] #[] 1537 3 #[] #[])
  fields := #[]
  methods := #[]
  instanceTypes := #[]
  staticTypes := #[]
  resolved := Array.replicate 11 none
  statics := none }

def pool8 : Array CpInfo := pool [(1, .class_ 2), (0, u "java/lang/constant/ConstantDesc"), (0, .class_ 4), (0, u "java/lang/Object")] 32

/-- java/lang/constant/ConstantDesc -/
def k8 : Class := { plain "java/lang/constant/ConstantDesc" (some 0) with
  accessFlags := 1537
  interfaces := #[]
  cf := some (fileOf pool8 1 #[] #[] 1537 3 #[] #[])
  fields := #[]
  methods := #[]
  instanceTypes := #[]
  staticTypes := #[]
  resolved := Array.replicate 37 none
  statics := none }

def pool9 : Array CpInfo := pool [(2, .class_ 4), (1, u "java/lang/Object"), (0, u "<init>"), (0, u "()V"), (3, .class_ 12), (1, u "java/lang/String"), (0, u "value"), (0, u "[B"), (2, u "coder"), (0, u "B"), (2, u "hash"), (0, u "I"), (2, u "hashIsZero"), (0, u "Z"), (13, u "COMPACT_STRINGS"), (534, .class_ 576), (0, u "java/lang/CharSequence"), (22, u "CASE_INSENSITIVE_ORDER"), (0, u "Ljava/util/Comparator;"), (500, u "serialPersistentFields"), (0, u "[Ljava/io/ObjectStreamField;"), (0, .class_ 1104), (0, u "java/lang/String$CaseInsensitiveComparator"), (1, .class_ 1107), (0, u "java/io/Serializable"), (0, .class_ 1109), (0, u "java/lang/Comparable"), (0, .class_ 1111), (0, u "java/lang/constant/Constable"), (0, .class_ 1113), (0, u "java/lang/constant/ConstantDesc"), (2, u "serialVersionUID"), (0, u "J"), (3, u "REPL"), (0, u "C"), (2, u "LATIN1"), (1, u "UTF16")] 323

def k9m0 : Method := { name := "<init>", desc := "()V", sig := { parameters := [], returnType := none }, accessFlags := 1, code := none }
/-- java/lang/String -/
def k9 : Class := { plain "java/lang/String" (some 0) with
  accessFlags := 49
  interfaces := #[4, 5, 6, 7, 8]
  cf := some (fileOf pool9 10 #[.nestMembers #[1103]] #[{ accessFlags := 1, nameIndex := 5, descriptorIndex := 6, attributes := #[] }] 49 2 #[1106, 1108, 575, 1110, 1112] #[{ accessFlags := 18, nameIndex := 13, descriptorIndex := 14, attributes := #[] }, { accessFlags := 18, nameIndex := 17, descriptorIndex := 18, attributes := #[] }, { accessFlags := 2, nameIndex := 21, descriptorIndex := 22, attributes := #[] }, { accessFlags := 2, nameIndex := 25, descriptorIndex := 26, attributes := #[] }, { accessFlags := 26, nameIndex := 1116, descriptorIndex := 1117, attributes := #[] }, { accessFlags := 24, nameIndex := 40, descriptorIndex := 26, attributes := #[] }, { accessFlags := 26, nameIndex := 1101, descriptorIndex := 1102, attributes := #[] }, { accessFlags := 26, nameIndex := 1121, descriptorIndex := 1122, attributes := #[] }, { accessFlags := 25, nameIndex := 599, descriptorIndex := 600, attributes := #[] }, { accessFlags := 24, nameIndex := 1125, descriptorIndex := 18, attributes := #[] }, { accessFlags := 24, nameIndex := 1127, descriptorIndex := 18, attributes := #[] }])
  fields := #[{ name := "value", type := (.array .byte), accessFlags := 18, slot := 0, constantValue := 0 }, { name := "coder", type := .byte, accessFlags := 18, slot := 1, constantValue := 0 }, { name := "hash", type := .int, accessFlags := 2, slot := 2, constantValue := 0 }, { name := "hashIsZero", type := .boolean, accessFlags := 2, slot := 3, constantValue := 0 }, { name := "serialVersionUID", type := .long, accessFlags := 26, slot := 0, constantValue := 0 }, { name := "COMPACT_STRINGS", type := .boolean, accessFlags := 24, slot := 1, constantValue := 0 }, { name := "serialPersistentFields", type := (.array (.object "java/io/ObjectStreamField")), accessFlags := 26, slot := 2, constantValue := 0 }, { name := "REPL", type := .char, accessFlags := 26, slot := 3, constantValue := 0 }, { name := "CASE_INSENSITIVE_ORDER", type := (.object "java/util/Comparator"), accessFlags := 25, slot := 4, constantValue := 0 }, { name := "LATIN1", type := .byte, accessFlags := 24, slot := 5, constantValue := 0 }, { name := "UTF16", type := .byte, accessFlags := 24, slot := 6, constantValue := 0 }]
  methods := #[k9m0]
  instanceTypes := #[(.array .byte), .byte, .int, .boolean]
  staticTypes := #[.long, .boolean, (.array (.object "java/io/ObjectStreamField")), .char, (.object "java/util/Comparator"), .byte, .byte]
  resolved := Array.replicate 1451 none
  statics := none }

def pool10 : Array CpInfo := pool [(1, .methodref 2 3), (0, .class_ 4), (0, .nameAndType 5 6), (0, u "java/lang/Object"), (0, u "<init>"), (0, u "()V"), (0, .fieldref 8 9), (0, .class_ 10), (0, .nameAndType 11 12), (0, u "com/example/lint_for_clocks/lintforclocks/rules/Steps"), (0, u "spent"), (0, u "J"), (0, .long 5000000), (20, u "MAX_STEPS"), (3, u "spend"), (0, u "(JLcom/example/lint_for_clocks/lintforclocks/model/Template;)V")] 19

def k10c0 : Code := { maxStack := 1, maxLocals := 1, code := prog_88_method_1_code, exceptionTable := #[], attributes := #[] }
def k10m0 : Method := { name := "<init>", desc := "()V", sig := { parameters := [], returnType := none }, accessFlags := 0, code := some k10c0 }
def k10c1 : Code := { maxStack := 5, maxLocals := 4, code := prog_88_method_2_code, exceptionTable := #[], attributes := #[] }
def k10m1 : Method := { name := "spend", desc := "(JLcom/example/lint_for_clocks/lintforclocks/model/Template;)V", sig := { parameters := [.long, (.object "com/example/lint_for_clocks/lintforclocks/model/Template")], returnType := none }, accessFlags := 0, code := some k10c1 }
/-- com/example/lint_for_clocks/lintforclocks/rules/Steps -/
def k10 : Class := { plain "com/example/lint_for_clocks/lintforclocks/rules/Steps" (some 0) with
  accessFlags := 32
  interfaces := #[]
  cf := some (fileOf pool10 8 #[] #[{ accessFlags := 0, nameIndex := 5, descriptorIndex := 6, attributes := #[] }, { accessFlags := 0, nameIndex := 38, descriptorIndex := 39, attributes := #[] }] 32 2 #[] #[{ accessFlags := 24, nameIndex := 34, descriptorIndex := 12, attributes := #[] }, { accessFlags := 2, nameIndex := 11, descriptorIndex := 12, attributes := #[] }])
  fields := #[{ name := "MAX_STEPS", type := .long, accessFlags := 24, slot := 0, constantValue := 0 }, { name := "spent", type := .long, accessFlags := 2, slot := 0, constantValue := 0 }]
  methods := #[k10m0, k10m1]
  instanceTypes := #[.long]
  staticTypes := #[.long]
  resolved := Array.replicate 59 none
  statics := none }

def pool11 : Array CpInfo := pool [(1, u "java/lang/Cloneable"), (0, .class_ 1), (0, u "java/lang/Object"), (0, .class_ 3)] 3

/-- java/lang/Cloneable -/
def k11 : Class := { plain "java/lang/Cloneable" (some 0) with
  accessFlags := 1537
  interfaces := #[]
  cf := some (fileOf pool11 2 #[] #[] 1537 4 #[] #[])
  fields := #[]
  methods := #[]
  instanceTypes := #[]
  staticTypes := #[]
  resolved := Array.replicate 8 none
  statics := none }

/-- the primitive byte -/
def k12 : Class := { plain "byte" none with kind := .primitive 'B', accessFlags := 0x411 }
/-- [B -/
def k13 : Class := { plain "[B" (some 0) with kind := .array 12 .byte, interfaces := #[11, 4], accessFlags := 1041 }

/-- the primitive int -/
def k14 : Class := { plain "int" none with kind := .primitive 'I', accessFlags := 0x411 }
/-- [I -/
def k15 : Class := { plain "[I" (some 0) with kind := .array 14 .int, interfaces := #[11, 4], accessFlags := 1041 }

def heap : Heap := #[]
def classes : Array Class := #[k0, k1, k2, k3, k4, k5, k6, k7, k8, k9, k10, k11, k12, k13, k14, k15]
def interned : List (Array UInt16 × Addr) := []
def slotsUsed : Nat := 0
def theMethod : MethodId := ⟨1, 1⟩
def args0 : Array Value := #[.long 5, .long 3, .long 2, .int 3]
def aboutOver (below : List Frame) : State where
  vm := { classes := classes, interned := interned.toArray }
  heap := heap
  slotsUsed := slotsUsed
  threads := #[{ frames := .invoking theMethod args0 :: below }]
def below0 : List Frame := [.native { method := ⟨0, 0⟩, args := #[] }]
def about1 : State := aboutOver below0
def p0 : Program := .bare "" "" ""
def e0 : Env := launch0.env 0 0 0
theorem w_frames : about1.frames = Frame.invoking theMethod args0 :: below0 := rfl
set_option maxRecDepth 65536 in
theorem w_args : argsFit about1.vm theMethod args0 = true := by decide +kernel
set_option maxRecDepth 65536 in
theorem w_heap : heapFits about1 = true := by decide +kernel
set_option maxRecDepth 65536 in
theorem w_runnable : about1.curStatus? = some .runnable := by decide +kernel
set_option maxRecDepth 65536 in
theorem w_alone : about1.alone = true := by decide +kernel
set_option maxRecDepth 65536 in
theorem w_named : about1.methodNamed? x = some theMethod := by decide +kernel
set_option maxRecDepth 65536 in
theorem w_hears : about1.hears theMethod below0 = true := by decide +kernel
set_option maxRecDepth 65536 in
theorem w_ripe : about1.ripe theMethod args0 below0 = true := by decide +kernel
theorem w_running : about1.status = .running := rfl
set_option maxRecDepth 65536 in
theorem w_room : about1.hasRoom e0.platform room_1 = true :=
  launch0.hasRoom_least _ room_1 (by decide +kernel) (by decide +kernel) (by decide +kernel) (by decide +kernel) (by decide +kernel) (by decide +kernel)
theorem allAtoms_all (ts : List Jvm.Cond) (a : Array Jvm.Value) (st : Jvm.State) : (allAtoms ts).before a st = ts.all (fun c => c.before a st) := by
  induction ts with
  | nil => rfl
  | cons c t ih =>
    show (Jvm.Cond.and c (allAtoms t)).before a st = _
    rw [Jvm.Cond.before_and, ih, List.all_cons]
def words1 : List Jvm.Cond := Jvm.Cond.code x code maxLocals ret :: tables_1
/-- a 'code' word, met by the world's own term for the bytes: nothing is compared byte by byte -/
theorem code_word {y : MethodName} {bytes : ByteArray} {mx : Nat} {rt : Option FieldType} {a : Array Value} {s : State} {m : MethodId} {meth : Method} {c : Code} (h1 : s.methodNamed? y = some m) (h2 : s.vm.method? m = some meth) (h3 : meth.code = some c) (h4 : c.code = bytes)
    (h5 : (c.maxLocals == mx && c.exceptionTable.isEmpty && decide (c.maxStack ≤ mostOperands) && decide (meth.sig.returnType = rt) && !meth.locks && decide (parseMethodDescriptor y.desc = some meth.sig)) = true) : (Jvm.Cond.code y bytes mx rt).before a s = true := by
  simp only [Bool.and_eq_true, beq_iff_eq, Bool.not_eq_true', decide_eq_true_eq] at h5
  obtain ⟨⟨⟨⟨⟨g1, g2⟩, g3⟩, g4⟩, g5⟩, g6⟩ := h5
  simp [Cond.before, Cond.holds, Cond.value, h1, h2, h3, h4, g1, g2, g3, g4, g5, g6]
def isCode : Jvm.Cond → Bool
  | .code _ _ _ _ => true
  | _ => false
theorem all_split {L : List Jvm.Cond} {P : Jvm.Cond → Bool} (h1 : L.all (fun c => isCode c || P c) = true) (h2 : ∀ c ∈ L.filter isCode, P c = true) : L.all P = true := by
  refine List.all_eq_true.mpr fun c hc => ?_
  have h := List.all_eq_true.mp h1 c hc
  rcases Bool.eq_false_or_eq_true (isCode c) with hi | hi
  · exact h2 c (List.mem_filter.mpr ⟨hc, hi⟩)
  · simpa [hi] using h
set_option maxRecDepth 65536 in
theorem w_c0 : (Jvm.Cond.code x code maxLocals ret).before args0 about1 = true := code_word (m := ⟨1, 1⟩) (meth := k1m1) (c := k1c1) (by decide +kernel) rfl rfl rfl (by decide +kernel)
set_option maxRecDepth 65536 in
theorem w_c1 : (Jvm.Cond.code ({ cls := "com/example/lint_for_clocks/lintforclocks/model/Template", name := "<init>", desc := "(Ljava/lang/String;ILjava/util/List;Ljava/util/List;Ljava/util/List;Ljava/util/List;Ljava/util/List;)V" } : Jvm.MethodName) prog_60_method_1_code (8 : Nat) (Option.none : Option Jvm.ClassFile.FieldType)).before args0 about1 = true := code_word (m := ⟨3, 0⟩) (meth := k3m0) (c := k3c0) (by decide +kernel) rfl rfl rfl (by decide +kernel)
set_option maxRecDepth 65536 in
theorem w_c2 : (Jvm.Cond.code ({ cls := "java/lang/Record", name := "<init>", desc := "()V" } : Jvm.MethodName) jdk_30_method_1_code (1 : Nat) (Option.none : Option Jvm.ClassFile.FieldType)).before args0 about1 = true := code_word (m := ⟨2, 0⟩) (meth := k2m0) (c := k2c0) (by decide +kernel) rfl rfl rfl (by decide +kernel)
set_option maxRecDepth 65536 in
theorem w_c3 : (Jvm.Cond.code ({ cls := "java/lang/Object", name := "<init>", desc := "()V" } : Jvm.MethodName) object_method_1_code (1 : Nat) (Option.none : Option Jvm.ClassFile.FieldType)).before args0 about1 = true := code_word (m := ⟨0, 0⟩) (meth := k0m0) (c := k0c0) (by decide +kernel) rfl rfl rfl (by decide +kernel)
set_option maxRecDepth 65536 in
theorem w_c4 : (Jvm.Cond.code ({ cls := "com/example/lint_for_clocks/lintforclocks/rules/Steps", name := "<init>", desc := "()V" } : Jvm.MethodName) prog_88_method_1_code (1 : Nat) (Option.none : Option Jvm.ClassFile.FieldType)).before args0 about1 = true := code_word (m := ⟨10, 0⟩) (meth := k10m0) (c := k10c0) (by decide +kernel) rfl rfl rfl (by decide +kernel)
set_option maxRecDepth 65536 in
theorem w_c5 : (Jvm.Cond.code ({ cls := "com/example/lint_for_clocks/lintforclocks/rules/Steps", name := "spend", desc := "(JLcom/example/lint_for_clocks/lintforclocks/model/Template;)V" } : Jvm.MethodName) prog_88_method_2_code (4 : Nat) (Option.none : Option Jvm.ClassFile.FieldType)).before args0 about1 = true := code_word (m := ⟨10, 1⟩) (meth := k10m1) (c := k10c1) (by decide +kernel) rfl rfl rfl (by decide +kernel)
def codes1 : List Jvm.Cond := [Jvm.Cond.code x code maxLocals ret, Jvm.Cond.code ({ cls := "com/example/lint_for_clocks/lintforclocks/model/Template", name := "<init>", desc := "(Ljava/lang/String;ILjava/util/List;Ljava/util/List;Ljava/util/List;Ljava/util/List;Ljava/util/List;)V" } : Jvm.MethodName) prog_60_method_1_code (8 : Nat) (Option.none : Option Jvm.ClassFile.FieldType), Jvm.Cond.code ({ cls := "java/lang/Record", name := "<init>", desc := "()V" } : Jvm.MethodName) jdk_30_method_1_code (1 : Nat) (Option.none : Option Jvm.ClassFile.FieldType), Jvm.Cond.code ({ cls := "java/lang/Object", name := "<init>", desc := "()V" } : Jvm.MethodName) object_method_1_code (1 : Nat) (Option.none : Option Jvm.ClassFile.FieldType), Jvm.Cond.code ({ cls := "com/example/lint_for_clocks/lintforclocks/rules/Steps", name := "<init>", desc := "()V" } : Jvm.MethodName) prog_88_method_1_code (1 : Nat) (Option.none : Option Jvm.ClassFile.FieldType), Jvm.Cond.code ({ cls := "com/example/lint_for_clocks/lintforclocks/rules/Steps", name := "spend", desc := "(JLcom/example/lint_for_clocks/lintforclocks/model/Template;)V" } : Jvm.MethodName) prog_88_method_2_code (4 : Nat) (Option.none : Option Jvm.ClassFile.FieldType)]
set_option maxRecDepth 65536 in
theorem codes_eq : words1.filter isCode = codes1 := rfl
theorem w_codes : ∀ c ∈ words1.filter isCode, c.before args0 about1 = true := by
  rw [codes_eq]
  intro c hc
  simp only [codes1, List.mem_cons, List.not_mem_nil, or_false] at hc
  rcases hc with rfl | rfl | rfl | rfl | rfl | rfl
  · exact w_c0
  · exact w_c1
  · exact w_c2
  · exact w_c3
  · exact w_c4
  · exact w_c5
set_option maxRecDepth 65536 in
theorem w_t1 : (words1.take 24).all (fun c => isCode c || c.before args0 about1) = true := by decide +kernel
set_option maxRecDepth 65536 in
theorem w_t2 : ((words1.drop 24).take 24).all (fun c => isCode c || c.before args0 about1) = true := by decide +kernel
set_option maxRecDepth 65536 in
theorem w_t3 : ((words1.drop 24).drop 24).all (fun c => isCode c || c.before args0 about1) = true := by decide +kernel
theorem w_tables : (allAtoms (Jvm.Cond.code x code maxLocals ret :: tables_1)).before args0 about1 = true := by
  rw [allAtoms_all]
  show words1.all (fun c => c.before args0 about1) = true
  refine all_split ?_ w_codes
  rw [← List.take_append_drop 24 words1, List.all_append, w_t1, ← List.take_append_drop 24 (words1.drop 24), List.all_append, w_t2, w_t3]
  rfl
set_option maxRecDepth 65536 in
theorem w_case : (Jvm.Cond.and given_1 narrow_1).before args0 about1 = true := by decide +kernel
theorem w_applies : (headSpec (Jvm.Cond.code x code maxLocals ret :: tables_1) room_1).applies x e0.platform about1 = true :=
  (Spec.applies_iff w_frames).mpr ⟨w_running, w_runnable, w_alone, w_named, w_hears, w_ripe, w_room, w_tables⟩
theorem atStart : AtStart classFile x code maxLocals ret World_1 tables_1 room_1 Calls_1 rest_1 Pre_1 launch0 p0 e0 about1 theMethod args0 below0 :=
  ⟨lists_1, trivial, launch0.admits_env _ _ _, launch0.least_env, fairChoices_fair.cas, fairChoices_fair.clock, w_frames, w_args, w_heap, w_applies, trivial, trivial, w_case⟩
end start1
theorem witness_1 : WitnessClaimed_1 := ⟨start1.p0, start1.e0, start1.about1, start1.theMethod, start1.args0, start1.below0, start1.atStart⟩
end Jvm.Pilot.@@N@@
