import JvmDerived
import JvmDerived.Pilot.@@N@@Statement
import JvmDerived.Pilot.@@N@@Code
set_option linter.unusedVariables false
set_option linter.unusedSimpArgs false
namespace Jvm.RoadKit
open Sem ClassFile Op Lib Jvm.Stand Jvm.Free Jvm.LawKit
section New
variable {p : Program} {l : Launch} {e : Env} {R : Room} {s : State} {m : MethodId} {args : Array Value} {below : List Frame} {meth : Method} {c : Code} {T : State} {locs : List Loc} {cells slots : Nat}
theorem retI (X : Stand p l e R s m args below meth c T locs cells slots) (hx : p.tables.exec = Jvm.exec) {pc : Nat} {Ls : Array Slot} {z : Int32} {rest : List Value} (hret : meth.sig.returnType = some .int) (hd : decode c.code pc = .ok (.ireturn, 1)) {fs : List Frame}
    (hl : ∀ (f : JFrame) (acts : List Action), f.method = m → f.locked = none → f.entered = [] → (doReturn e (T.setTop f) acts (some (.int z))).1 = T.setFrames fs) : Steps p.tables e below (T.setTop (mkF m pc Ls (.int z :: rest))) (T.setFrames fs) := by
  have hm' : T.vm.method? m = some meth := X.method'
  have hn : narrow .int (.int z) = .int z := rfl
  show Steps p.tables e below (T.setTop { method := m, pc := pc, locals := Ls, stack := _ :: rest, locked := none }) _
  jvm_step X.here [X.here.top, hx, hd, hm', hret, hn]
  first | (intro acts; rw [hl _ acts rfl rfl rfl]) | rw [hl _ _ rfl rfl rfl]
  exact Steps.refl _
theorem own_lrem {g : JFrame} {target : State} (X : Stand p l e R s m args below meth c T locs cells slots) (hx : p.tables.exec = Jvm.exec) (hg : g.method = m) {x y : Int64} {rest : List Value} (hd : decode c.code g.pc = .ok (.lrem, 1)) (hs : g.stack = .long y :: .long x :: rest) (hy : y ≠ 0)
    (hr : Steps p.tables e below (T.setTop { g with pc := g.pc + 1, stack := .long (x % y) :: rest }) target) : Steps p.tables e below (T.setTop g) target :=
  XS.lrem X.here hx hg hd hs hy (by first | exact hr | (rw [lrem_mod]; exact hr))
end New
end Jvm.RoadKit
namespace Jvm.Pilot.@@N@@
open Jvm Jvm.ClassFile Sem Op Lib Jvm.Free Jvm.Stand Jvm.LawKit Jvm.RoadKit Bundle Jvm.Pilot.@@N@@.Jvm.D
/-- from the state A the body returns with QQ -/
def own_Go (p : Program) (e : Env) (below : List Frame) (s : State) (QQ : Option Value → Heap → List Loc → Prop) (k n : Nat) (A : State) : Prop :=
  ∃ U o, Steps p.tables e below A U ∧ U.status = .running ∧ Ended U below o ∧ ∃ v L, o = .returned v ∧ QQ v U.heap L ∧ FrameEnd s o U L k n
theorem own_go {p : Program} {e : Env} {below : List Frame} {s : State} {QQ : Option Value → Heap → List Loc → Prop} {k n : Nat} {A B : State} (h : ∀ t, Steps p.tables e below B t → Steps p.tables e below A t) (g : own_Go p e below s QQ k n B) : own_Go p e below s QQ k n A := by
  obtain ⟨U, o, h1, r⟩ := g
  exact ⟨U, o, h U h1, r⟩
theorem own_ret {p : Program} {l : Launch} {e : Env} {R : Room} {s : State} {m : MethodId} {args : Array Value} {below : List Frame} {meth : Method} {c : Code} {T : State} {locs : List Loc} {cells slots : Nat} {QQ : Option Value → Heap → List Loc → Prop} {k n : Nat} {A : State}
    (X : Stand p l e R s m args below meth c T locs cells slots) {v : Option Value} (hv : meth.sig.returnType = none → v = none) (hlk : meth.locks = false) (hQ : QQ v T.heap locs) (hk : cells ≤ k) (hn : slots ≤ n)
    (st : ∀ fs, (∀ (f : JFrame) (acts : List Action), f.method = m → f.locked = none → f.entered = [] → (doReturn e (T.setTop f) acts v).1 = T.setFrames fs) → Steps p.tables e below A (T.setFrames fs)) : own_Go p e below s QQ k n A := by
  obtain ⟨fs, hr, hrun, hended, hW, hsame⟩ := X.leave hv hlk
  exact ⟨_, _, st fs hr, hrun, hended, _, _, rfl, hQ, ⟨_, rfl⟩, hW, hsame.mono hk hn⟩
def own_GoW (p : Program) (e : Env) (below : List Frame) (s : State) (QQ : Option Value → Heap → List Loc → Prop) (k n : Nat) (A : State) : Prop :=
  ∃ U o, Steps p.tables e below A U ∧ U.status = .running ∧ Ended U below o ∧ ∃ v L, o = .returned v ∧ QQ v U.heap L ∧ ReturnedEndW s o U L k n
theorem own_goW {p : Program} {e : Env} {below : List Frame} {s : State} {QQ : Option Value → Heap → List Loc → Prop} {k n : Nat} {A B : State} (h : ∀ t, Steps p.tables e below B t → Steps p.tables e below A t) (g : own_GoW p e below s QQ k n B) : own_GoW p e below s QQ k n A := by
  obtain ⟨U, o, h1, r⟩ := g
  exact ⟨U, o, h U h1, r⟩
theorem own_retW {p : Program} {l : Launch} {e : Env} {R : Room} {s : State} {vm₁ : Vm} {m : MethodId} {args : Array Value} {below : List Frame} {meth : Method} {c : Code} {T : State} {locs : List Loc} {cells slots : Nat} {QQ : Option Value → Heap → List Loc → Prop} {k n : Nat} {A : State}
    (X : Stand p l e R (s.setVm vm₁) m args below meth c T locs cells slots) {n1 : Nat} (hS : s.Since vm₁ n1) (hn1 : n1 ≤ T.heap.size) {v : Option Value} (hv : meth.sig.returnType = none → v = none) (hlk : meth.locks = false) (hQ : QQ v T.heap locs) (hk : cells ≤ k) (hn : slots ≤ n)
    (st : ∀ fs, (∀ (f : JFrame) (acts : List Action), f.method = m → f.locked = none → f.entered = [] → (doReturn e (T.setTop f) acts v).1 = T.setFrames fs) → Steps p.tables e below A (T.setFrames fs)) : own_GoW p e below s QQ k n A := by
  obtain ⟨fs, hr, hrun, hended, hq⟩ := X.leaveW hS hn1 hv hlk
  exact ⟨_, _, st fs hr, hrun, hended, _, _, rfl, hQ, hq.1, hq.2.1, hq.2.2.1, hq.2.2.2.mono hk hn⟩
/-- an array by what its places hold -/
def own_Ary (Z : State) (h : Heap) (a : Addr) (ty : FieldType) (n : Nat) (f : Nat → Value) : Prop := ∃ c : Cell, Arr Z h a c ty ∧ c.slots.size = n ∧ ∀ j, j < n → c.slots[j]? = some (f j)
def own_set (f : Nat → Value) (i : Nat) (v : Value) : Nat → Value := fun j => if j = i then v else f j
section
variable {Z : State} {h h' : Heap} {a b : Addr} {ty : FieldType} {n : Nat} {f : Nat → Value}
theorem own_Ary.lt (F : own_Ary Z h a ty n f) : a < h.size := by obtain ⟨c, A, -⟩ := F; exact A.lt
theorem own_Ary.ext (F : own_Ary Z h a ty n f) (E : Ext h h') : own_Ary Z h' a ty n f := by obtain ⟨c, A, r⟩ := F; exact ⟨c, A.ext E, r⟩
theorem own_Ary.other {sl : Nat} {v : Value} (F : own_Ary Z h b ty n f) (W : Wr h h' a sl v) (q : b ≠ a) : own_Ary Z h' b ty n f := by obtain ⟨c, A, r⟩ := F; exact ⟨c, A.other W q, r⟩
theorem own_Ary.keep {ws : List Addr} (F : own_Ary Z h a ty n f) (K : Keep h h' ws) (q : a ∉ ws) : own_Ary Z h' a ty n f := by obtain ⟨c, A, r⟩ := F; exact ⟨c, ⟨K.2.1 a c A.1 q, A.2⟩, r⟩
theorem own_Ary.new {k : ClassId} {z : Int32} (A : Arr Z h a (newA k ty z) ty) (hz : z.toNatClampNeg = n) : own_Ary Z h a ty n (fun _ => defaultValue ty) :=
  ⟨_, A, by rw [sz_new]; exact hz, fun j hj => by simp [newA, hz, hj]⟩
theorem own_Ary.set {c : Cell} {i : Nat} {v : Value} (A : Arr Z h a c ty) (S : c.slots.size = n) (G : ∀ j, j < n → c.slots[j]? = some (f j)) (W : Wr h h' a i v) : own_Ary Z h' a ty n (own_set f i v) := by
  refine ⟨_, A.same W, by rw [sz_set]; exact S, fun j hj => ?_⟩
  simp only [Cell.setSlot, Array.getElem?_setIfInBounds, own_set]
  by_cases q : j = i
  · subst q; simp [S, hj]
  · have q' : ¬ i = j := fun z => q z.symm
    simp [q, q', G j hj]
theorem own_Ary.congr {g : Nat → Value} (F : own_Ary Z h a ty n f) (q : ∀ j, j < n → f j = g j) : own_Ary Z h a ty n g := by
  obtain ⟨c, A, S, G⟩ := F; exact ⟨c, A, S, fun j hj => by rw [G j hj, q j hj]⟩
theorem own_sta_keep {C m d : String} {v : Value} (F : Sta Z h C m d v) (K : Keep h h' []) : Sta Z h' C m d v := by
  obtain ⟨cf, i, k, g, st, cell, h1, h2, h3, h4, h5, r⟩ := F
  exact ⟨cf, i, k, g, st, cell, h1, h2, h3, h4, K.2.1 _ _ h5 nin0, r⟩
theorem own_cl {j : Int32} {i : Nat} (q : j.toInt = (i : Int)) : j.toNatClampNeg = i := by
  show j.toInt.toNat = i
  rw [q]; rfl
theorem own_in {c : Cell} {j : Int32} {i : Nat} (S : c.slots.size = n) (q : j.toInt = (i : Int)) (hi : i < n) : ¬ (j < 0 ∨ c.slots.size ≤ j.toNatClampNeg) := by
  rw [own_cl q, S]
  have h0 : (0 : Int32).toInt = 0 := by decide
  intro z
  rcases z with z | z
  · have := Int32.lt_iff_toInt_lt.mp z; omega
  · omega
end
def own_h (k : Nat) (x : Int32) : Int32 :=
  if (k = 0 ∧ x = 0) ∨ (k = 1 ∧ x ≠ 0) ∨ (k = 2 ∧ ¬ (0 : Int32) < x) ∨ (k = 3 ∧ x < 0) ∨ (k = 4 ∧ ¬ x < 0) ∨ (k = 5 ∧ (0 : Int32) < x) then 1 else 0
def own_w (x a b c : Int32) : Int32 := if x < 0 then a else if x = 0 then b else c
theorem own_i (P : Prop) [Decidable P] : (if P then (1 : Int32) else 0) = 0 ∨ (if P then (1 : Int32) else 0) = 1 := by split <;> simp
theorem own_t (x : Int32) : own_h 0 x = own_w x 0 1 0 ∧ own_h 1 x = own_w x 1 0 1 ∧ own_h 2 x = own_w x 1 1 0 ∧ own_h 3 x = own_w x 1 0 0 ∧ own_h 4 x = own_w x 0 1 1 ∧ own_h 5 x = own_w x 0 0 1 := by
  have e0 : (0 : Int32).toInt = 0 := by decide
  have e1 : ∀ y : Int32, y = 0 ↔ y.toInt = 0 := fun y => by rw [← Int32.toInt_inj, e0]
  unfold own_h own_w
  simp only [Int32.lt_iff_toInt_lt, e0, e1, ne_eq]
  by_cases h1 : x.toInt < 0
  · have h2 : ¬ x.toInt = 0 := by omega
    have h3 : ¬ 0 < x.toInt := by omega
    simp [h1, h2, h3]
  · by_cases h2 : x.toInt = 0
    · have h3 : ¬ 0 < x.toInt := by omega
      simp [h1, h2, h3]
    · have h3 : 0 < x.toInt := by omega
      simp [h1, h2, h3]
theorem pn_0 : plainName "java/lang/Enum" = true := by first | (simp [plainName, overriddenIn]; done) | decide +kernel
theorem d3_0 : decode jdk_37_method_2_code 0 = .ok (.aload_n 0, 1) := by decide +kernel
theorem d3_1 : decode jdk_37_method_2_code 1 = .ok (.getfield 7, 3) := by decide +kernel
theorem d3_4 : decode jdk_37_method_2_code 4 = .ok (.ireturn, 1) := by decide +kernel
theorem ef_3 (m : MethodId) (r0 : Addr) : entryFrame m #[(.ref r0)] 1 = mkF m 0 #[.val (.ref r0)] [] := by first | (simp [entryFrame, mkF, argsToLocals, Value.category]; done) | rfl
def Q3 (Z : State) (r0 : Addr) (od : Int32) (h0 : Heap) (n0 : Nat) (v : Option Value) (h : Heap) (L : List Loc) : Prop := v = some (.int od) ∧ Fr n0 L ∧ h = h0
set_option maxRecDepth 65536 in
set_option maxHeartbeats 40000000 in
theorem rm3 (l : Launch) (Z : State) (a0 : Array Value) (hw : ∀ d ∈ tables_1, d.before a0 Z = true) (ws : List Jvm.Cond) (r0 : Addr) (od : Int32) (h0 : Heap) (n0 : Nat) (Z0 : n0 ≤ h0.size) (F0 : Fld Z h0 r0 "java/lang/Enum" "ordinal" "I" (.int od)) :
    MetFree l (⟨"java/lang/Enum", "ordinal", "()I"⟩ : MethodName) (head1 (Jvm.Cond.code (⟨"java/lang/Enum", "ordinal", "()I"⟩ : MethodName) jdk_37_method_2_code 1 (some .int) :: ws) ({ frames := 0, cells := 0, slots := 0, locals := 0 } : Room)) (fun a U => a = #[(.ref r0)] ∧ Z.Warmed39 U.vm ∧ U.heap = h0) (fun _ _ _ _ _ => True) (fun _ U o U' => ∃ v L, o = .returned v ∧ Q3 Z r0 od h0 n0 v U'.heap L ∧ FrameEnd U o U' L (({ frames := 0, cells := 0, slots := 0, locals := 0 } : Room)).cells (({ frames := 0, cells := 0, slots := 0, locals := 0 } : Room)).slots) := by
  refine MetFree.of_bodySF (plainFor_of_name pn_0) hisR ?_
  intro p e s m args below meth c s₁ Bd hml0 hP hK
  obtain ⟨rfl, hZ, hh⟩ := hP
  have hx := Bd.exec
  have hby := Bd.bytes
  have hml : c.maxLocals = 1 := hml0
  have hown : s.vm.findClass "java/lang/Enum" = some m.cls := findClass_of_methodNamed Bd.named
  have hnm := (name_of_methodNamed Bd.named Bd.method).1
  have hlk : meth.locks = false := Bd.notSynchronized
  have X0 : Stand p l e ({ frames := 0, cells := 0, slots := 0, locals := 0 } : Room) s m #[(.ref r0)] below meth c s₁ [] 0 0 := Stand.of_body Bd
  have e0 : s₁.heap = h0 := by rw [← hh, Bd.state]; rfl
  have N0 := Fr.nil n0
  have hret := Bd.returns
  show own_Go p e below s (Q3 Z r0 od h0 n0) _ _ (s₁.setTop (entryFrame m #[(.ref r0)] 1))
  refine own_go (fun t k => castTop (ef_3 m r0) k) ?_
  show own_Go p e below s _ _ _ (s₁.setTop (mkF m 0 #[.val (.ref r0)] []))
  refine own_go (fun t_ kt_ => XS.aloadN X0.here hx rfl (hb hby d3_0) rfl rfl kt_) ?_
  show own_Go p e below s _ _ _ (s₁.setTop (mkF m 1 #[.val (.ref r0)] [(.ref r0)]))
  obtain ⟨T1, X1, e1, st1⟩ := getF X0 hx hZ hown (host := "") (Or.inl (hw _ (List.mem_of_getElem? (i := 19) rfl))) Via.refl e0 F0 (g := (mkF m 1 #[.val (.ref r0)] [(.ref r0)])) rfl rfl (hb hby d3_1)
  refine own_go (fun t_ kt_ => st1 _ kt_) ?_
  show own_Go p e below s _ _ _ (T1.setTop (mkF m 4 #[.val (.ref r0)] [(.int od)]))
  refine own_ret X1 (v := some (.int od)) (fun h => by rw [hret] at h; cases h) hlk ?_ (by decide) (by decide) (fun fs hr => retI X1 hx hret (hb hby d3_4) hr)
  show Q3 Z r0 od h0 n0 (some (.int od)) T1.heap _
  rw [e1]
  exact ⟨rfl, N0, rfl⟩
theorem pn_1 : plainName "com/example/provfold/provfold/Policy$Operator" = true := by first | (simp [plainName, overriddenIn]; done) | decide +kernel
theorem d2_0 : decode prog_30_method_5_code 0 = .ok (.aload_n 0, 1) := by decide +kernel
theorem d2_1 : decode prog_30_method_5_code 1 = .ok (.invokevirtual 45, 3) := by decide +kernel
theorem pd_0 : parseMethodDescriptor "()I" = some ⟨[], some .int⟩ := by decide +kernel
theorem d2_4 : decode prog_30_method_5_code 4 = .ok (.tableswitch 40 0 5 #[50, 62, 74, 86, 98, 110], 40) := by decide +kernel
theorem d2_54 : decode prog_30_method_5_code 54 = .ok (.iload_n 1, 1) := by decide +kernel
theorem d2_55 : decode prog_30_method_5_code 55 = .ok (.ifCond .ne 7, 3) := by decide +kernel
theorem d2_58 : decode prog_30_method_5_code 58 = .ok (.iconst 1, 1) := by decide +kernel
theorem d2_59 : decode prog_30_method_5_code 59 = .ok (.goto 64, 3) := by decide +kernel
theorem d2_123 : decode prog_30_method_5_code 123 = .ok (.ireturn, 1) := by decide +kernel
theorem d2_62 : decode prog_30_method_5_code 62 = .ok (.iconst 0, 1) := by decide +kernel
theorem d2_63 : decode prog_30_method_5_code 63 = .ok (.goto 60, 3) := by decide +kernel
theorem d2_66 : decode prog_30_method_5_code 66 = .ok (.iload_n 1, 1) := by decide +kernel
theorem d2_67 : decode prog_30_method_5_code 67 = .ok (.ifCond .eq 7, 3) := by decide +kernel
theorem d2_74 : decode prog_30_method_5_code 74 = .ok (.iconst 0, 1) := by decide +kernel
theorem d2_75 : decode prog_30_method_5_code 75 = .ok (.goto 48, 3) := by decide +kernel
theorem d2_70 : decode prog_30_method_5_code 70 = .ok (.iconst 1, 1) := by decide +kernel
theorem d2_71 : decode prog_30_method_5_code 71 = .ok (.goto 52, 3) := by decide +kernel
theorem d2_78 : decode prog_30_method_5_code 78 = .ok (.iload_n 1, 1) := by decide +kernel
theorem d2_79 : decode prog_30_method_5_code 79 = .ok (.ifCond .gt 7, 3) := by decide +kernel
theorem d2_86 : decode prog_30_method_5_code 86 = .ok (.iconst 0, 1) := by decide +kernel
theorem d2_87 : decode prog_30_method_5_code 87 = .ok (.goto 36, 3) := by decide +kernel
theorem d2_82 : decode prog_30_method_5_code 82 = .ok (.iconst 1, 1) := by decide +kernel
theorem d2_83 : decode prog_30_method_5_code 83 = .ok (.goto 40, 3) := by decide +kernel
theorem d2_90 : decode prog_30_method_5_code 90 = .ok (.iload_n 1, 1) := by decide +kernel
theorem d2_91 : decode prog_30_method_5_code 91 = .ok (.ifCond .ge 7, 3) := by decide +kernel
theorem d2_94 : decode prog_30_method_5_code 94 = .ok (.iconst 1, 1) := by decide +kernel
theorem d2_95 : decode prog_30_method_5_code 95 = .ok (.goto 28, 3) := by decide +kernel
theorem d2_98 : decode prog_30_method_5_code 98 = .ok (.iconst 0, 1) := by decide +kernel
theorem d2_99 : decode prog_30_method_5_code 99 = .ok (.goto 24, 3) := by decide +kernel
theorem d2_102 : decode prog_30_method_5_code 102 = .ok (.iload_n 1, 1) := by decide +kernel
theorem d2_103 : decode prog_30_method_5_code 103 = .ok (.ifCond .lt 7, 3) := by decide +kernel
theorem d2_110 : decode prog_30_method_5_code 110 = .ok (.iconst 0, 1) := by decide +kernel
theorem d2_111 : decode prog_30_method_5_code 111 = .ok (.goto 12, 3) := by decide +kernel
theorem d2_106 : decode prog_30_method_5_code 106 = .ok (.iconst 1, 1) := by decide +kernel
theorem d2_107 : decode prog_30_method_5_code 107 = .ok (.goto 16, 3) := by decide +kernel
theorem d2_114 : decode prog_30_method_5_code 114 = .ok (.iload_n 1, 1) := by decide +kernel
theorem d2_115 : decode prog_30_method_5_code 115 = .ok (.ifCond .le 7, 3) := by decide +kernel
theorem d2_118 : decode prog_30_method_5_code 118 = .ok (.iconst 1, 1) := by decide +kernel
theorem d2_119 : decode prog_30_method_5_code 119 = .ok (.goto 4, 3) := by decide +kernel
theorem d2_122 : decode prog_30_method_5_code 122 = .ok (.iconst 0, 1) := by decide +kernel
theorem ef_2 (m : MethodId) (r0 : Addr) (p1 : Int32) : entryFrame m #[(.ref r0), (.int p1)] 2 = mkF m 0 #[.val (.ref r0), .val (.int p1)] [] := by first | (simp [entryFrame, mkF, argsToLocals, Value.category]; done) | rfl
def Q2 (Z : State) (r0 : Addr) (p1 : Int32) (k : Nat) (h0 : Heap) (n0 : Nat) (v : Option Value) (h : Heap) (L : List Loc) : Prop := v = some (.int (own_h k p1)) ∧ Fr n0 L ∧ h = h0
set_option maxRecDepth 65536 in
set_option maxHeartbeats 40000000 in
theorem rm2 (l : Launch) (Z : State) (a0 : Array Value) (hw : ∀ d ∈ tables_1, d.before a0 Z = true) (ws : List Jvm.Cond) (r0 : Addr) (p1 : Int32) (k : Nat) (h0 : Heap) (n0 : Nat) (Z0 : n0 ≤ h0.size) (hk : k < 6) (F0 : Fld Z h0 r0 "java/lang/Enum" "ordinal" "I" (.int (Int32.ofNat k))) (E0 : Exa Z h0 r0 "com/example/provfold/provfold/Policy$Operator") :
    MetFree l (⟨"com/example/provfold/provfold/Policy$Operator", "holds", "(I)Z"⟩ : MethodName) (head1 (Jvm.Cond.code (⟨"com/example/provfold/provfold/Policy$Operator", "holds", "(I)Z"⟩ : MethodName) prog_30_method_5_code 2 (some .boolean) :: ws) ({ frames := 1, cells := 0, slots := 0, locals := 12 } : Room)) (fun a U => a = #[(.ref r0), (.int p1)] ∧ Z.Warmed39 U.vm ∧ U.heap = h0) (fun _ _ _ _ _ => True) (fun _ U o U' => ∃ v L, o = .returned v ∧ Q2 Z r0 p1 k h0 n0 v U'.heap L ∧ FrameEnd U o U' L (({ frames := 1, cells := 0, slots := 0, locals := 12 } : Room)).cells (({ frames := 1, cells := 0, slots := 0, locals := 12 } : Room)).slots) := by
  refine MetFree.of_bodySF (plainFor_of_name pn_1) hisR ?_
  intro p e s m args below meth c s₁ Bd hml0 hP hK
  obtain ⟨rfl, hZ, hh⟩ := hP
  have hx := Bd.exec
  have hby := Bd.bytes
  have hml : c.maxLocals = 2 := hml0
  have hown : s.vm.findClass "com/example/provfold/provfold/Policy$Operator" = some m.cls := findClass_of_methodNamed Bd.named
  have hnm := (name_of_methodNamed Bd.named Bd.method).1
  have hlk : meth.locks = false := Bd.notSynchronized
  have X0 : Stand p l e ({ frames := 1, cells := 0, slots := 0, locals := 12 } : Room) s m #[(.ref r0), (.int p1)] below meth c s₁ [] 0 0 := Stand.of_body Bd
  have e0 : s₁.heap = h0 := by rw [← hh, Bd.state]; rfl
  have N0 := Fr.nil n0
  have hret := Bd.returns
  show own_Go p e below s (Q2 Z r0 p1 k h0 n0) _ _ (s₁.setTop (entryFrame m #[(.ref r0), (.int p1)] 2))
  refine own_go (fun t k => castTop (ef_2 m r0 p1) k) ?_
  show own_Go p e below s _ _ _ (s₁.setTop (mkF m 0 #[.val (.ref r0), .val (.int p1)] []))
  refine own_go (fun t_ kt_ => XS.aloadN X0.here hx rfl (hb hby d2_0) rfl rfl kt_) ?_
  show own_Go p e below s _ _ _ (s₁.setTop (mkF m 1 #[.val (.ref r0), .val (.int p1)] [(.ref r0)]))
  obtain ⟨cq1, kq1, q1a, q1b, q1c⟩ := isOf hZ e0 E0
  obtain ⟨_, _, ⟨T1, L1, k1, n1⟩, -, X1, ⟨Lc1, hQ1, l1, y1, z1⟩, st1⟩ := X0.virtualBackUp hx (x := (⟨"com/example/provfold/provfold/Policy$Operator", "ordinal", "()I"⟩ : MethodName)) (y := (⟨"java/lang/Enum", "ordinal", "()I"⟩ : MethodName)) hown (mvT hZ (hw _ (List.mem_of_getElem? (i := 12) rfl))) (mvT hZ (hw _ (List.mem_of_getElem? (i := 13) rfl))) (mvT hZ (hw _ (List.mem_of_getElem? (i := 14) rfl))) (by decide) (mvT hZ (hw _ (List.mem_of_getElem? (i := 16) rfl))) (mvT hZ (hw _ (List.mem_of_getElem? (i := 15) rfl))) (backOf (W := 0) (rm3 l Z a0 hw [] (r0) (Int32.ofNat k) h0 n0 Z0 F0) hZ (hw _ (List.mem_of_getElem? (i := 18) rfl)) (hw _ (List.mem_of_getElem? (i := 17) rfl)) (by decide) (by decide)) q1a q1c (g := (mkF m 1 #[.val (.ref r0), .val (.int p1)] [(.ref r0)])) rfl (by rw [hml]; rfl) (Steps.refl _) (argsL := []) (rest := []) (lenOf pd_0 rfl) rfl (by show 2 * 0 + _ ≤ _; exact Nat.le_of_eq rfl) (hb hby d2_1) (fun _ _ => ⟨rfl, e0, (by decide : 0 + 0 ≤ _), (by decide : 0 + 0 ≤ _)⟩)
  dsimp only [Pt.U, Pt.locs, Pt.cells, Pt.slots] at X1 l1 y1 z1 st1 hQ1
  subst l1 y1 z1
  obtain ⟨rfl, Nq1, eh1⟩ := hQ1
  have N1 := Fr.app N0 Nq1
  refine own_go (fun t_ kt_ => st1.trans kt_) ?_
  have e1 : T1.heap = h0 := eh1
  show own_Go p e below s _ _ _ (T1.setTop (mkF m 4 #[.val (.ref r0), .val (.int p1)] [(.int (Int32.ofNat k))]))
  rcases (by omega : k = 0 ∨ k = 1 ∨ k = 2 ∨ k = 3 ∨ k = 4 ∨ k = 5) with hk' | hk' | hk' | hk' | hk' | hk'
  · skip
    rw [show Int32.ofNat k = (0 : Int32) from by rw [hk']; rfl]
    show own_Go p e below s _ _ _ (T1.setTop (mkF m 4 #[.val (.ref r0), .val (.int p1)] [(.int (0 : Int32))]))
    refine own_go (fun t_ kt_ => XS.tswIn X1.here hx rfl (pc0 := 4) (pc' := 54) rfl (hb hby d2_4) rfl (by decide) (o := 50) (by decide) (by decide) (by decide) kt_) ?_
    show own_Go p e below s _ _ _ (T1.setTop (mkF m 54 #[.val (.ref r0), .val (.int p1)] []))
    refine own_go (fun t_ kt_ => XS.iloadN X1.here hx rfl (hb hby d2_54) rfl kt_) ?_
    show own_Go p e below s _ _ _ (T1.setTop (mkF m 55 #[.val (.ref r0), .val (.int p1)] [(.int p1)]))
    by_cases hc55 : p1 = (0 : Int32)
    · skip
      have hi55 : p1.toInt = 0 := congrArg Int32.toInt hc55
      refine own_go (fun t_ kt_ => XS.ifNo X1.here hx rfl (hb hby d2_55) rfl ((if0 _ _).trans (teq hc55).2) kt_) ?_
      show own_Go p e below s _ _ _ (T1.setTop (mkF m 58 #[.val (.ref r0), .val (.int p1)] []))
      refine own_go (fun t_ kt_ => XS.iconst X1.here hx rfl (hb hby d2_58) kt_) ?_
      show own_Go p e below s _ _ _ (T1.setTop (mkF m 59 #[.val (.ref r0), .val (.int p1)] [(.int (1 : Int32))]))
      refine own_go (fun t_ kt_ => XS.goto X1.here hx rfl (pc0 := 59) (pc' := 123) rfl (hb hby d2_59) (by decide) (by decide) kt_) ?_
      show own_Go p e below s _ _ _ (T1.setTop (mkF m 123 #[.val (.ref r0), .val (.int p1)] [(.int (1 : Int32))]))
      refine own_ret X1 (v := some (.int (1 : Int32))) (fun h => by rw [hret] at h; cases h) hlk ?_ (by decide) (by decide) (fun fs hr => retN X1 hx (t := .boolean) hret (by simp) (hb hby d2_123) hr)
      show Q2 Z r0 p1 k h0 n0 (some (.int (1 : Int32))) T1.heap _
      rw [e1]
      exact ⟨congrArg (fun z => some (Value.int z)) (by unfold own_h; simp [*]), N1, rfl⟩
    · skip
      have hi55 : ¬ p1.toInt = 0 := fun q => hc55 (Int32.toInt_inj.mp q)
      refine own_go (fun t_ kt_ => XS.ifYes X1.here hx rfl (pc0 := 55) (pc' := 62) rfl (hb hby d2_55) rfl ((if0 _ _).trans (feq hc55).2) (by decide) (by decide) kt_) ?_
      show own_Go p e below s _ _ _ (T1.setTop (mkF m 62 #[.val (.ref r0), .val (.int p1)] []))
      refine own_go (fun t_ kt_ => XS.iconst X1.here hx rfl (hb hby d2_62) kt_) ?_
      show own_Go p e below s _ _ _ (T1.setTop (mkF m 63 #[.val (.ref r0), .val (.int p1)] [(.int (0 : Int32))]))
      refine own_go (fun t_ kt_ => XS.goto X1.here hx rfl (pc0 := 63) (pc' := 123) rfl (hb hby d2_63) (by decide) (by decide) kt_) ?_
      show own_Go p e below s _ _ _ (T1.setTop (mkF m 123 #[.val (.ref r0), .val (.int p1)] [(.int (0 : Int32))]))
      refine own_ret X1 (v := some (.int (0 : Int32))) (fun h => by rw [hret] at h; cases h) hlk ?_ (by decide) (by decide) (fun fs hr => retN X1 hx (t := .boolean) hret (by simp) (hb hby d2_123) hr)
      show Q2 Z r0 p1 k h0 n0 (some (.int (0 : Int32))) T1.heap _
      rw [e1]
      exact ⟨congrArg (fun z => some (Value.int z)) (by unfold own_h; simp [*]), N1, rfl⟩
  · skip
    rw [show Int32.ofNat k = (1 : Int32) from by rw [hk']; rfl]
    show own_Go p e below s _ _ _ (T1.setTop (mkF m 4 #[.val (.ref r0), .val (.int p1)] [(.int (1 : Int32))]))
    refine own_go (fun t_ kt_ => XS.tswIn X1.here hx rfl (pc0 := 4) (pc' := 66) rfl (hb hby d2_4) rfl (by decide) (o := 62) (by decide) (by decide) (by decide) kt_) ?_
    show own_Go p e below s _ _ _ (T1.setTop (mkF m 66 #[.val (.ref r0), .val (.int p1)] []))
    refine own_go (fun t_ kt_ => XS.iloadN X1.here hx rfl (hb hby d2_66) rfl kt_) ?_
    show own_Go p e below s _ _ _ (T1.setTop (mkF m 67 #[.val (.ref r0), .val (.int p1)] [(.int p1)]))
    by_cases hc67 : p1 = (0 : Int32)
    · skip
      have hi67 : p1.toInt = 0 := congrArg Int32.toInt hc67
      refine own_go (fun t_ kt_ => XS.ifYes X1.here hx rfl (pc0 := 67) (pc' := 74) rfl (hb hby d2_67) rfl ((if0 _ _).trans (teq hc67).1) (by decide) (by decide) kt_) ?_
      show own_Go p e below s _ _ _ (T1.setTop (mkF m 74 #[.val (.ref r0), .val (.int p1)] []))
      refine own_go (fun t_ kt_ => XS.iconst X1.here hx rfl (hb hby d2_74) kt_) ?_
      show own_Go p e below s _ _ _ (T1.setTop (mkF m 75 #[.val (.ref r0), .val (.int p1)] [(.int (0 : Int32))]))
      refine own_go (fun t_ kt_ => XS.goto X1.here hx rfl (pc0 := 75) (pc' := 123) rfl (hb hby d2_75) (by decide) (by decide) kt_) ?_
      show own_Go p e below s _ _ _ (T1.setTop (mkF m 123 #[.val (.ref r0), .val (.int p1)] [(.int (0 : Int32))]))
      refine own_ret X1 (v := some (.int (0 : Int32))) (fun h => by rw [hret] at h; cases h) hlk ?_ (by decide) (by decide) (fun fs hr => retN X1 hx (t := .boolean) hret (by simp) (hb hby d2_123) hr)
      show Q2 Z r0 p1 k h0 n0 (some (.int (0 : Int32))) T1.heap _
      rw [e1]
      exact ⟨congrArg (fun z => some (Value.int z)) (by unfold own_h; simp [*]), N1, rfl⟩
    · skip
      have hi67 : ¬ p1.toInt = 0 := fun q => hc67 (Int32.toInt_inj.mp q)
      refine own_go (fun t_ kt_ => XS.ifNo X1.here hx rfl (hb hby d2_67) rfl ((if0 _ _).trans (feq hc67).1) kt_) ?_
      show own_Go p e below s _ _ _ (T1.setTop (mkF m 70 #[.val (.ref r0), .val (.int p1)] []))
      refine own_go (fun t_ kt_ => XS.iconst X1.here hx rfl (hb hby d2_70) kt_) ?_
      show own_Go p e below s _ _ _ (T1.setTop (mkF m 71 #[.val (.ref r0), .val (.int p1)] [(.int (1 : Int32))]))
      refine own_go (fun t_ kt_ => XS.goto X1.here hx rfl (pc0 := 71) (pc' := 123) rfl (hb hby d2_71) (by decide) (by decide) kt_) ?_
      show own_Go p e below s _ _ _ (T1.setTop (mkF m 123 #[.val (.ref r0), .val (.int p1)] [(.int (1 : Int32))]))
      refine own_ret X1 (v := some (.int (1 : Int32))) (fun h => by rw [hret] at h; cases h) hlk ?_ (by decide) (by decide) (fun fs hr => retN X1 hx (t := .boolean) hret (by simp) (hb hby d2_123) hr)
      show Q2 Z r0 p1 k h0 n0 (some (.int (1 : Int32))) T1.heap _
      rw [e1]
      exact ⟨congrArg (fun z => some (Value.int z)) (by unfold own_h; simp [*]), N1, rfl⟩
  · skip
    rw [show Int32.ofNat k = (2 : Int32) from by rw [hk']; rfl]
    show own_Go p e below s _ _ _ (T1.setTop (mkF m 4 #[.val (.ref r0), .val (.int p1)] [(.int (2 : Int32))]))
    refine own_go (fun t_ kt_ => XS.tswIn X1.here hx rfl (pc0 := 4) (pc' := 78) rfl (hb hby d2_4) rfl (by decide) (o := 74) (by decide) (by decide) (by decide) kt_) ?_
    show own_Go p e below s _ _ _ (T1.setTop (mkF m 78 #[.val (.ref r0), .val (.int p1)] []))
    refine own_go (fun t_ kt_ => XS.iloadN X1.here hx rfl (hb hby d2_78) rfl kt_) ?_
    show own_Go p e below s _ _ _ (T1.setTop (mkF m 79 #[.val (.ref r0), .val (.int p1)] [(.int p1)]))
    by_cases hc79 : (0 : Int32) < p1
    · skip
      have hi79 : 0 < p1.toInt := Int32.lt_iff_toInt_lt.mp hc79
      refine own_go (fun t_ kt_ => XS.ifYes X1.here hx rfl (pc0 := 79) (pc' := 86) rfl (hb hby d2_79) rfl ((if0 _ _).trans (tlt hc79).2.2.1) (by decide) (by decide) kt_) ?_
      show own_Go p e below s _ _ _ (T1.setTop (mkF m 86 #[.val (.ref r0), .val (.int p1)] []))
      refine own_go (fun t_ kt_ => XS.iconst X1.here hx rfl (hb hby d2_86) kt_) ?_
      show own_Go p e below s _ _ _ (T1.setTop (mkF m 87 #[.val (.ref r0), .val (.int p1)] [(.int (0 : Int32))]))
      refine own_go (fun t_ kt_ => XS.goto X1.here hx rfl (pc0 := 87) (pc' := 123) rfl (hb hby d2_87) (by decide) (by decide) kt_) ?_
      show own_Go p e below s _ _ _ (T1.setTop (mkF m 123 #[.val (.ref r0), .val (.int p1)] [(.int (0 : Int32))]))
      refine own_ret X1 (v := some (.int (0 : Int32))) (fun h => by rw [hret] at h; cases h) hlk ?_ (by decide) (by decide) (fun fs hr => retN X1 hx (t := .boolean) hret (by simp) (hb hby d2_123) hr)
      show Q2 Z r0 p1 k h0 n0 (some (.int (0 : Int32))) T1.heap _
      rw [e1]
      exact ⟨congrArg (fun z => some (Value.int z)) (by unfold own_h; simp [*]), N1, rfl⟩
    · skip
      have hi79 : ¬ 0 < p1.toInt := fun q => hc79 (Int32.lt_iff_toInt_lt.mpr q)
      refine own_go (fun t_ kt_ => XS.ifNo X1.here hx rfl (hb hby d2_79) rfl ((if0 _ _).trans (flt hc79).2.2.1) kt_) ?_
      show own_Go p e below s _ _ _ (T1.setTop (mkF m 82 #[.val (.ref r0), .val (.int p1)] []))
      refine own_go (fun t_ kt_ => XS.iconst X1.here hx rfl (hb hby d2_82) kt_) ?_
      show own_Go p e below s _ _ _ (T1.setTop (mkF m 83 #[.val (.ref r0), .val (.int p1)] [(.int (1 : Int32))]))
      refine own_go (fun t_ kt_ => XS.goto X1.here hx rfl (pc0 := 83) (pc' := 123) rfl (hb hby d2_83) (by decide) (by decide) kt_) ?_
      show own_Go p e below s _ _ _ (T1.setTop (mkF m 123 #[.val (.ref r0), .val (.int p1)] [(.int (1 : Int32))]))
      refine own_ret X1 (v := some (.int (1 : Int32))) (fun h => by rw [hret] at h; cases h) hlk ?_ (by decide) (by decide) (fun fs hr => retN X1 hx (t := .boolean) hret (by simp) (hb hby d2_123) hr)
      show Q2 Z r0 p1 k h0 n0 (some (.int (1 : Int32))) T1.heap _
      rw [e1]
      exact ⟨congrArg (fun z => some (Value.int z)) (by unfold own_h; simp [*]), N1, rfl⟩
  · skip
    rw [show Int32.ofNat k = (3 : Int32) from by rw [hk']; rfl]
    show own_Go p e below s _ _ _ (T1.setTop (mkF m 4 #[.val (.ref r0), .val (.int p1)] [(.int (3 : Int32))]))
    refine own_go (fun t_ kt_ => XS.tswIn X1.here hx rfl (pc0 := 4) (pc' := 90) rfl (hb hby d2_4) rfl (by decide) (o := 86) (by decide) (by decide) (by decide) kt_) ?_
    show own_Go p e below s _ _ _ (T1.setTop (mkF m 90 #[.val (.ref r0), .val (.int p1)] []))
    refine own_go (fun t_ kt_ => XS.iloadN X1.here hx rfl (hb hby d2_90) rfl kt_) ?_
    show own_Go p e below s _ _ _ (T1.setTop (mkF m 91 #[.val (.ref r0), .val (.int p1)] [(.int p1)]))
    by_cases hc91 : p1 < (0 : Int32)
    · skip
      have hi91 : p1.toInt < 0 := Int32.lt_iff_toInt_lt.mp hc91
      refine own_go (fun t_ kt_ => XS.ifNo X1.here hx rfl (hb hby d2_91) rfl ((if0 _ _).trans (tlt hc91).2.1) kt_) ?_
      show own_Go p e below s _ _ _ (T1.setTop (mkF m 94 #[.val (.ref r0), .val (.int p1)] []))
      refine own_go (fun t_ kt_ => XS.iconst X1.here hx rfl (hb hby d2_94) kt_) ?_
      show own_Go p e below s _ _ _ (T1.setTop (mkF m 95 #[.val (.ref r0), .val (.int p1)] [(.int (1 : Int32))]))
      refine own_go (fun t_ kt_ => XS.goto X1.here hx rfl (pc0 := 95) (pc' := 123) rfl (hb hby d2_95) (by decide) (by decide) kt_) ?_
      show own_Go p e below s _ _ _ (T1.setTop (mkF m 123 #[.val (.ref r0), .val (.int p1)] [(.int (1 : Int32))]))
      refine own_ret X1 (v := some (.int (1 : Int32))) (fun h => by rw [hret] at h; cases h) hlk ?_ (by decide) (by decide) (fun fs hr => retN X1 hx (t := .boolean) hret (by simp) (hb hby d2_123) hr)
      show Q2 Z r0 p1 k h0 n0 (some (.int (1 : Int32))) T1.heap _
      rw [e1]
      exact ⟨congrArg (fun z => some (Value.int z)) (by unfold own_h; simp [*]), N1, rfl⟩
    · skip
      have hi91 : ¬ p1.toInt < 0 := fun q => hc91 (Int32.lt_iff_toInt_lt.mpr q)
      refine own_go (fun t_ kt_ => XS.ifYes X1.here hx rfl (pc0 := 91) (pc' := 98) rfl (hb hby d2_91) rfl ((if0 _ _).trans (flt hc91).2.1) (by decide) (by decide) kt_) ?_
      show own_Go p e below s _ _ _ (T1.setTop (mkF m 98 #[.val (.ref r0), .val (.int p1)] []))
      refine own_go (fun t_ kt_ => XS.iconst X1.here hx rfl (hb hby d2_98) kt_) ?_
      show own_Go p e below s _ _ _ (T1.setTop (mkF m 99 #[.val (.ref r0), .val (.int p1)] [(.int (0 : Int32))]))
      refine own_go (fun t_ kt_ => XS.goto X1.here hx rfl (pc0 := 99) (pc' := 123) rfl (hb hby d2_99) (by decide) (by decide) kt_) ?_
      show own_Go p e below s _ _ _ (T1.setTop (mkF m 123 #[.val (.ref r0), .val (.int p1)] [(.int (0 : Int32))]))
      refine own_ret X1 (v := some (.int (0 : Int32))) (fun h => by rw [hret] at h; cases h) hlk ?_ (by decide) (by decide) (fun fs hr => retN X1 hx (t := .boolean) hret (by simp) (hb hby d2_123) hr)
      show Q2 Z r0 p1 k h0 n0 (some (.int (0 : Int32))) T1.heap _
      rw [e1]
      exact ⟨congrArg (fun z => some (Value.int z)) (by unfold own_h; simp [*]), N1, rfl⟩
  · skip
    rw [show Int32.ofNat k = (4 : Int32) from by rw [hk']; rfl]
    show own_Go p e below s _ _ _ (T1.setTop (mkF m 4 #[.val (.ref r0), .val (.int p1)] [(.int (4 : Int32))]))
    refine own_go (fun t_ kt_ => XS.tswIn X1.here hx rfl (pc0 := 4) (pc' := 102) rfl (hb hby d2_4) rfl (by decide) (o := 98) (by decide) (by decide) (by decide) kt_) ?_
    show own_Go p e below s _ _ _ (T1.setTop (mkF m 102 #[.val (.ref r0), .val (.int p1)] []))
    refine own_go (fun t_ kt_ => XS.iloadN X1.here hx rfl (hb hby d2_102) rfl kt_) ?_
    show own_Go p e below s _ _ _ (T1.setTop (mkF m 103 #[.val (.ref r0), .val (.int p1)] [(.int p1)]))
    by_cases hc103 : p1 < (0 : Int32)
    · skip
      have hi103 : p1.toInt < 0 := Int32.lt_iff_toInt_lt.mp hc103
      refine own_go (fun t_ kt_ => XS.ifYes X1.here hx rfl (pc0 := 103) (pc' := 110) rfl (hb hby d2_103) rfl ((if0 _ _).trans (tlt hc103).1) (by decide) (by decide) kt_) ?_
      show own_Go p e below s _ _ _ (T1.setTop (mkF m 110 #[.val (.ref r0), .val (.int p1)] []))
      refine own_go (fun t_ kt_ => XS.iconst X1.here hx rfl (hb hby d2_110) kt_) ?_
      show own_Go p e below s _ _ _ (T1.setTop (mkF m 111 #[.val (.ref r0), .val (.int p1)] [(.int (0 : Int32))]))
      refine own_go (fun t_ kt_ => XS.goto X1.here hx rfl (pc0 := 111) (pc' := 123) rfl (hb hby d2_111) (by decide) (by decide) kt_) ?_
      show own_Go p e below s _ _ _ (T1.setTop (mkF m 123 #[.val (.ref r0), .val (.int p1)] [(.int (0 : Int32))]))
      refine own_ret X1 (v := some (.int (0 : Int32))) (fun h => by rw [hret] at h; cases h) hlk ?_ (by decide) (by decide) (fun fs hr => retN X1 hx (t := .boolean) hret (by simp) (hb hby d2_123) hr)
      show Q2 Z r0 p1 k h0 n0 (some (.int (0 : Int32))) T1.heap _
      rw [e1]
      exact ⟨congrArg (fun z => some (Value.int z)) (by unfold own_h; simp [*]), N1, rfl⟩
    · skip
      have hi103 : ¬ p1.toInt < 0 := fun q => hc103 (Int32.lt_iff_toInt_lt.mpr q)
      refine own_go (fun t_ kt_ => XS.ifNo X1.here hx rfl (hb hby d2_103) rfl ((if0 _ _).trans (flt hc103).1) kt_) ?_
      show own_Go p e below s _ _ _ (T1.setTop (mkF m 106 #[.val (.ref r0), .val (.int p1)] []))
      refine own_go (fun t_ kt_ => XS.iconst X1.here hx rfl (hb hby d2_106) kt_) ?_
      show own_Go p e below s _ _ _ (T1.setTop (mkF m 107 #[.val (.ref r0), .val (.int p1)] [(.int (1 : Int32))]))
      refine own_go (fun t_ kt_ => XS.goto X1.here hx rfl (pc0 := 107) (pc' := 123) rfl (hb hby d2_107) (by decide) (by decide) kt_) ?_
      show own_Go p e below s _ _ _ (T1.setTop (mkF m 123 #[.val (.ref r0), .val (.int p1)] [(.int (1 : Int32))]))
      refine own_ret X1 (v := some (.int (1 : Int32))) (fun h => by rw [hret] at h; cases h) hlk ?_ (by decide) (by decide) (fun fs hr => retN X1 hx (t := .boolean) hret (by simp) (hb hby d2_123) hr)
      show Q2 Z r0 p1 k h0 n0 (some (.int (1 : Int32))) T1.heap _
      rw [e1]
      exact ⟨congrArg (fun z => some (Value.int z)) (by unfold own_h; simp [*]), N1, rfl⟩
  · skip
    rw [show Int32.ofNat k = (5 : Int32) from by rw [hk']; rfl]
    show own_Go p e below s _ _ _ (T1.setTop (mkF m 4 #[.val (.ref r0), .val (.int p1)] [(.int (5 : Int32))]))
    refine own_go (fun t_ kt_ => XS.tswIn X1.here hx rfl (pc0 := 4) (pc' := 114) rfl (hb hby d2_4) rfl (by decide) (o := 110) (by decide) (by decide) (by decide) kt_) ?_
    show own_Go p e below s _ _ _ (T1.setTop (mkF m 114 #[.val (.ref r0), .val (.int p1)] []))
    refine own_go (fun t_ kt_ => XS.iloadN X1.here hx rfl (hb hby d2_114) rfl kt_) ?_
    show own_Go p e below s _ _ _ (T1.setTop (mkF m 115 #[.val (.ref r0), .val (.int p1)] [(.int p1)]))
    by_cases hc115 : (0 : Int32) < p1
    · skip
      have hi115 : 0 < p1.toInt := Int32.lt_iff_toInt_lt.mp hc115
      refine own_go (fun t_ kt_ => XS.ifNo X1.here hx rfl (hb hby d2_115) rfl ((if0 _ _).trans (tlt hc115).2.2.2) kt_) ?_
      show own_Go p e below s _ _ _ (T1.setTop (mkF m 118 #[.val (.ref r0), .val (.int p1)] []))
      refine own_go (fun t_ kt_ => XS.iconst X1.here hx rfl (hb hby d2_118) kt_) ?_
      show own_Go p e below s _ _ _ (T1.setTop (mkF m 119 #[.val (.ref r0), .val (.int p1)] [(.int (1 : Int32))]))
      refine own_go (fun t_ kt_ => XS.goto X1.here hx rfl (pc0 := 119) (pc' := 123) rfl (hb hby d2_119) (by decide) (by decide) kt_) ?_
      show own_Go p e below s _ _ _ (T1.setTop (mkF m 123 #[.val (.ref r0), .val (.int p1)] [(.int (1 : Int32))]))
      refine own_ret X1 (v := some (.int (1 : Int32))) (fun h => by rw [hret] at h; cases h) hlk ?_ (by decide) (by decide) (fun fs hr => retN X1 hx (t := .boolean) hret (by simp) (hb hby d2_123) hr)
      show Q2 Z r0 p1 k h0 n0 (some (.int (1 : Int32))) T1.heap _
      rw [e1]
      exact ⟨congrArg (fun z => some (Value.int z)) (by unfold own_h; simp [*]), N1, rfl⟩
    · skip
      have hi115 : ¬ 0 < p1.toInt := fun q => hc115 (Int32.lt_iff_toInt_lt.mpr q)
      refine own_go (fun t_ kt_ => XS.ifYes X1.here hx rfl (pc0 := 115) (pc' := 122) rfl (hb hby d2_115) rfl ((if0 _ _).trans (flt hc115).2.2.2) (by decide) (by decide) kt_) ?_
      show own_Go p e below s _ _ _ (T1.setTop (mkF m 122 #[.val (.ref r0), .val (.int p1)] []))
      refine own_go (fun t_ kt_ => XS.iconst X1.here hx rfl (hb hby d2_122) kt_) ?_
      show own_Go p e below s _ _ _ (T1.setTop (mkF m 123 #[.val (.ref r0), .val (.int p1)] [(.int (0 : Int32))]))
      refine own_ret X1 (v := some (.int (0 : Int32))) (fun h => by rw [hret] at h; cases h) hlk ?_ (by decide) (by decide) (fun fs hr => retN X1 hx (t := .boolean) hret (by simp) (hb hby d2_123) hr)
      show Q2 Z r0 p1 k h0 n0 (some (.int (0 : Int32))) T1.heap _
      rw [e1]
      exact ⟨congrArg (fun z => some (Value.int z)) (by unfold own_h; simp [*]), N1, rfl⟩
theorem pn_2 : plainName "com/example/provfold/provfold/OperatorHoldsPinLaw" = true := by first | (simp [plainName, overriddenIn]; done) | decide +kernel
theorem d1_24 : decode method_2_code 24 = .ok (.aload_n 0, 1) := by decide +kernel
theorem d1_25 : decode method_2_code 25 = .ok (.iload_n 1, 1) := by decide +kernel
theorem d1_26 : decode method_2_code 26 = .ok (.invokevirtual 7, 3) := by decide +kernel
theorem pd_1 : parseMethodDescriptor "(I)Z" = some ⟨[.int], some .boolean⟩ := by decide +kernel
theorem d1_29 : decode method_2_code 29 = .ok (.iload 5, 2) := by decide +kernel
theorem d1_31 : decode method_2_code 31 = .ok (.if_icmp .ne 7, 3) := by decide +kernel
theorem d1_34 : decode method_2_code 34 = .ok (.iconst 1, 1) := by decide +kernel
theorem d1_35 : decode method_2_code 35 = .ok (.goto 4, 3) := by decide +kernel
theorem d1_39 : decode method_2_code 39 = .ok (.ireturn, 1) := by decide +kernel
theorem d1_0 : decode method_2_code 0 = .ok (.iload_n 1, 1) := by decide +kernel
theorem d1_1 : decode method_2_code 1 = .ok (.ifCond .ge 9, 3) := by decide +kernel
theorem d1_4 : decode method_2_code 4 = .ok (.iload_n 2, 1) := by decide +kernel
theorem d1_5 : decode method_2_code 5 = .ok (.istore 5, 2) := by decide +kernel
theorem d1_7 : decode method_2_code 7 = .ok (.goto 17, 3) := by decide +kernel
theorem d1_10 : decode method_2_code 10 = .ok (.iload_n 1, 1) := by decide +kernel
theorem d1_11 : decode method_2_code 11 = .ok (.ifCond .ne 9, 3) := by decide +kernel
theorem d1_14 : decode method_2_code 14 = .ok (.iload_n 3, 1) := by decide +kernel
theorem d1_15 : decode method_2_code 15 = .ok (.istore 5, 2) := by decide +kernel
theorem d1_17 : decode method_2_code 17 = .ok (.goto 7, 3) := by decide +kernel
theorem d1_20 : decode method_2_code 20 = .ok (.iload 4, 2) := by decide +kernel
theorem d1_22 : decode method_2_code 22 = .ok (.istore 5, 2) := by decide +kernel
theorem ef_1 (m : MethodId) (r0 : Addr) (p1 : Int32) (p2 : Int32) (p3 : Int32) (p4 : Int32) : entryFrame m #[(.ref r0), (.int p1), (.int p2), (.int p3), (.int p4)] 6 = mkF m 0 #[.val (.ref r0), .val (.int p1), .val (.int p2), .val (.int p3), .val (.int p4), .unset] [] := by first | (simp [entryFrame, mkF, argsToLocals, Value.category]; done) | rfl
def Q1 (Z : State) (r0 : Addr) (p1 : Int32) (p2 : Int32) (p3 : Int32) (p4 : Int32) (k : Nat) (h0 : Heap) (n0 : Nat) (v : Option Value) (h : Heap) (L : List Loc) : Prop := v = some (.int 1) ∧ Fr n0 L ∧ h = h0
set_option maxRecDepth 65536 in
set_option maxHeartbeats 40000000 in
theorem rm1 (l : Launch) (Z : State) (a0 : Array Value) (hw : ∀ d ∈ tables_1, d.before a0 Z = true) (ws : List Jvm.Cond) (r0 : Addr) (p1 : Int32) (p2 : Int32) (p3 : Int32) (p4 : Int32) (k : Nat) (h0 : Heap) (n0 : Nat) (Z0 : n0 ≤ h0.size) (hk : k < 6) (F0 : Fld Z h0 r0 "java/lang/Enum" "ordinal" "I" (.int (Int32.ofNat k))) (E0 : Exa Z h0 r0 "com/example/provfold/provfold/Policy$Operator") (ht : own_h k p1 = own_w p1 p2 p3 p4) :
    MetFree l (⟨"com/example/provfold/provfold/OperatorHoldsPinLaw", "check", "(Lcom/example/provfold/provfold/Policy$Operator;IZZZ)Z"⟩ : MethodName) (head1 (Jvm.Cond.code (⟨"com/example/provfold/provfold/OperatorHoldsPinLaw", "check", "(Lcom/example/provfold/provfold/Policy$Operator;IZZZ)Z"⟩ : MethodName) method_2_code 6 (some .boolean) :: ws) ({ frames := 2, cells := 0, slots := 0, locals := 25 } : Room)) (fun a U => a = #[(.ref r0), (.int p1), (.int p2), (.int p3), (.int p4)] ∧ Z.Warmed39 U.vm ∧ U.heap = h0) (fun _ _ _ _ _ => True) (fun _ U o U' => ∃ v L, o = .returned v ∧ Q1 Z r0 p1 p2 p3 p4 k h0 n0 v U'.heap L ∧ FrameEnd U o U' L (({ frames := 2, cells := 0, slots := 0, locals := 25 } : Room)).cells (({ frames := 2, cells := 0, slots := 0, locals := 25 } : Room)).slots) := by
  refine MetFree.of_bodySF (plainFor_of_name pn_2) hisR ?_
  intro p e s m args below meth c s₁ Bd hml0 hP hK
  obtain ⟨rfl, hZ, hh⟩ := hP
  have hx := Bd.exec
  have hby := Bd.bytes
  have hml : c.maxLocals = 6 := hml0
  have hown : s.vm.findClass "com/example/provfold/provfold/OperatorHoldsPinLaw" = some m.cls := findClass_of_methodNamed Bd.named
  have hnm := (name_of_methodNamed Bd.named Bd.method).1
  have hlk : meth.locks = false := Bd.notSynchronized
  have X0 : Stand p l e ({ frames := 2, cells := 0, slots := 0, locals := 25 } : Room) s m #[(.ref r0), (.int p1), (.int p2), (.int p3), (.int p4)] below meth c s₁ [] 0 0 := Stand.of_body Bd
  have e0 : s₁.heap = h0 := by rw [← hh, Bd.state]; rfl
  have N0 := Fr.nil n0
  have hret := Bd.returns
  show own_Go p e below s (Q1 Z r0 p1 p2 p3 p4 k h0 n0) _ _ (s₁.setTop (entryFrame m #[(.ref r0), (.int p1), (.int p2), (.int p3), (.int p4)] 6))
  refine own_go (fun t k => castTop (ef_1 m r0 p1 p2 p3 p4) k) ?_
  show own_Go p e below s _ _ _ (s₁.setTop (mkF m 0 #[.val (.ref r0), .val (.int p1), .val (.int p2), .val (.int p3), .val (.int p4), .unset] []))
  have J24 : ∀ (T1 : State) (locs1 : List Loc) (X1 : Stand p l e ({ frames := 2, cells := 0, slots := 0, locals := 25 } : Room) s m #[(.ref r0), (.int p1), (.int p2), (.int p3), (.int p4)] below meth c T1 locs1 0 0) (e1 : T1.heap = h0) (N1 : Fr n0 locs1) (ex : Int32) (hex : ex = own_w p1 p2 p3 p4), own_Go p e below s (Q1 Z r0 p1 p2 p3 p4 k h0 n0) (({ frames := 2, cells := 0, slots := 0, locals := 25 } : Room)).cells (({ frames := 2, cells := 0, slots := 0, locals := 25 } : Room)).slots (T1.setTop (mkF m 24 #[.val (.ref r0), .val (.int p1), .val (.int p2), .val (.int p3), .val (.int p4), .val (.int ex)] [])) := by
    intro T1 locs1 X1 e1 N1 ex hex
    refine own_go (fun t_ kt_ => XS.aloadN X1.here hx rfl (hb hby d1_24) rfl rfl kt_) ?_
    show own_Go p e below s _ _ _ (T1.setTop (mkF m 25 #[.val (.ref r0), .val (.int p1), .val (.int p2), .val (.int p3), .val (.int p4), .val (.int ex)] [(.ref r0)]))
    refine own_go (fun t_ kt_ => XS.iloadN X1.here hx rfl (hb hby d1_25) rfl kt_) ?_
    show own_Go p e below s _ _ _ (T1.setTop (mkF m 26 #[.val (.ref r0), .val (.int p1), .val (.int p2), .val (.int p3), .val (.int p4), .val (.int ex)] [(.int p1), (.ref r0)]))
    obtain ⟨cq2, kq2, q2a, q2b, q2c⟩ := isOf hZ e1 E0
    obtain ⟨_, _, ⟨T2, L2, k2, n2⟩, -, X2, ⟨Lc2, hQ2, l2, y2, z2⟩, st2⟩ := X1.virtualBack hx (y := (⟨"com/example/provfold/provfold/Policy$Operator", "holds", "(I)Z"⟩ : MethodName)) (z := (⟨"com/example/provfold/provfold/Policy$Operator", "holds", "(I)Z"⟩ : MethodName)) hown (mvT hZ (hw _ (List.mem_of_getElem? (i := 7) rfl))) (mvT hZ (hw _ (List.mem_of_getElem? (i := 8) rfl))) (notFace_of_selects (args := #[]) (mvT hZ (hw _ (List.mem_of_getElem? (i := 10) rfl)))) (mvT hZ (hw _ (List.mem_of_getElem? (i := 10) rfl))) (mvT hZ (hw _ (List.mem_of_getElem? (i := 9) rfl))) (by decide) (backOf (W := 0) (rm2 l Z a0 hw [] (r0) (p1) (k) h0 n0 Z0 hk F0 E0) hZ (hw _ (List.mem_of_getElem? (i := 11) rfl)) (hw _ (List.mem_of_getElem? (i := 1) rfl)) (by decide) (by decide)) q2a q2c (g := (mkF m 26 #[.val (.ref r0), .val (.int p1), .val (.int p2), .val (.int p3), .val (.int p4), .val (.int ex)] [(.int p1), (.ref r0)])) rfl (by rw [hml]; rfl) (Steps.refl _) (argsL := [(.int p1)]) (rest := []) (lenOf pd_1 rfl) rfl (by show 2 * 0 + _ ≤ _; exact Nat.le_of_eq rfl) (hb hby d1_26) (fun _ _ => ⟨rfl, e1, (by decide : 0 + 0 ≤ _), (by decide : 0 + 0 ≤ _)⟩)
    dsimp only [Pt.U, Pt.locs, Pt.cells, Pt.slots] at X2 l2 y2 z2 st2 hQ2
    subst l2 y2 z2
    obtain ⟨rfl, Nq2, eh2⟩ := hQ2
    have N2 := Fr.app N1 Nq2
    refine own_go (fun t_ kt_ => st2.trans kt_) ?_
    have e2 : T2.heap = h0 := eh2
    show own_Go p e below s _ _ _ (T2.setTop (mkF m 29 #[.val (.ref r0), .val (.int p1), .val (.int p2), .val (.int p3), .val (.int p4), .val (.int ex)] [(.int (own_h k p1))]))
    refine own_go (fun t_ kt_ => XS.iload X2.here hx rfl (hb hby d1_29) rfl kt_) ?_
    show own_Go p e below s _ _ _ (T2.setTop (mkF m 31 #[.val (.ref r0), .val (.int p1), .val (.int p2), .val (.int p3), .val (.int p4), .val (.int ex)] [(.int ex), (.int (own_h k p1))]))
    refine own_go (fun t_ kt_ => XS.icmpNo X2.here hx rfl (hb hby d1_31) rfl (teq (ht.trans hex.symm)).2 kt_) ?_
    show own_Go p e below s _ _ _ (T2.setTop (mkF m 34 #[.val (.ref r0), .val (.int p1), .val (.int p2), .val (.int p3), .val (.int p4), .val (.int ex)] []))
    refine own_go (fun t_ kt_ => XS.iconst X2.here hx rfl (hb hby d1_34) kt_) ?_
    show own_Go p e below s _ _ _ (T2.setTop (mkF m 35 #[.val (.ref r0), .val (.int p1), .val (.int p2), .val (.int p3), .val (.int p4), .val (.int ex)] [(.int (1 : Int32))]))
    refine own_go (fun t_ kt_ => XS.goto X2.here hx rfl (pc0 := 35) (pc' := 39) rfl (hb hby d1_35) (by decide) (by decide) kt_) ?_
    show own_Go p e below s _ _ _ (T2.setTop (mkF m 39 #[.val (.ref r0), .val (.int p1), .val (.int p2), .val (.int p3), .val (.int p4), .val (.int ex)] [(.int (1 : Int32))]))
    refine own_ret X2 (v := some (.int (1 : Int32))) (fun h => by rw [hret] at h; cases h) hlk ?_ (by decide) (by decide) (fun fs hr => retN X2 hx (t := .boolean) hret (by simp) (hb hby d1_39) hr)
    show Q1 Z r0 p1 p2 p3 p4 k h0 n0 (some (.int (1 : Int32))) T2.heap _
    rw [e2]
    exact ⟨rfl, N2, rfl⟩
  refine own_go (fun t_ kt_ => XS.iloadN X0.here hx rfl (hb hby d1_0) rfl kt_) ?_
  show own_Go p e below s _ _ _ (s₁.setTop (mkF m 1 #[.val (.ref r0), .val (.int p1), .val (.int p2), .val (.int p3), .val (.int p4), .unset] [(.int p1)]))
  by_cases hc1 : p1 < (0 : Int32)
  · skip
    have hi1 : p1.toInt < 0 := Int32.lt_iff_toInt_lt.mp hc1
    refine own_go (fun t_ kt_ => XS.ifNo X0.here hx rfl (hb hby d1_1) rfl ((if0 _ _).trans (tlt hc1).2.1) kt_) ?_
    show own_Go p e below s _ _ _ (s₁.setTop (mkF m 4 #[.val (.ref r0), .val (.int p1), .val (.int p2), .val (.int p3), .val (.int p4), .unset] []))
    refine own_go (fun t_ kt_ => XS.iloadN X0.here hx rfl (hb hby d1_4) rfl kt_) ?_
    show own_Go p e below s _ _ _ (s₁.setTop (mkF m 5 #[.val (.ref r0), .val (.int p1), .val (.int p2), .val (.int p3), .val (.int p4), .unset] [(.int p2)]))
    refine own_go (fun t_ kt_ => XS.istore X0.here hx rfl (hb hby d1_5) rfl (l' := #[.val (.ref r0), .val (.int p1), .val (.int p2), .val (.int p3), .val (.int p4), .val (.int p2)]) rfl kt_) ?_
    show own_Go p e below s _ _ _ (s₁.setTop (mkF m 7 #[.val (.ref r0), .val (.int p1), .val (.int p2), .val (.int p3), .val (.int p4), .val (.int p2)] []))
    refine own_go (fun t_ kt_ => XS.goto X0.here hx rfl (pc0 := 7) (pc' := 24) rfl (hb hby d1_7) (by decide) (by decide) kt_) ?_
    show own_Go p e below s _ _ _ (s₁.setTop (mkF m 24 #[.val (.ref r0), .val (.int p1), .val (.int p2), .val (.int p3), .val (.int p4), .val (.int p2)] []))
    exact J24 s₁ _ X0 e0 N0  (p2) (by unfold own_w; simp [*])
  · skip
    have hi1 : ¬ p1.toInt < 0 := fun q => hc1 (Int32.lt_iff_toInt_lt.mpr q)
    refine own_go (fun t_ kt_ => XS.ifYes X0.here hx rfl (pc0 := 1) (pc' := 10) rfl (hb hby d1_1) rfl ((if0 _ _).trans (flt hc1).2.1) (by decide) (by decide) kt_) ?_
    show own_Go p e below s _ _ _ (s₁.setTop (mkF m 10 #[.val (.ref r0), .val (.int p1), .val (.int p2), .val (.int p3), .val (.int p4), .unset] []))
    refine own_go (fun t_ kt_ => XS.iloadN X0.here hx rfl (hb hby d1_10) rfl kt_) ?_
    show own_Go p e below s _ _ _ (s₁.setTop (mkF m 11 #[.val (.ref r0), .val (.int p1), .val (.int p2), .val (.int p3), .val (.int p4), .unset] [(.int p1)]))
    by_cases hc11 : p1 = (0 : Int32)
    · skip
      have hi11 : p1.toInt = 0 := congrArg Int32.toInt hc11
      refine own_go (fun t_ kt_ => XS.ifNo X0.here hx rfl (hb hby d1_11) rfl ((if0 _ _).trans (teq hc11).2) kt_) ?_
      show own_Go p e below s _ _ _ (s₁.setTop (mkF m 14 #[.val (.ref r0), .val (.int p1), .val (.int p2), .val (.int p3), .val (.int p4), .unset] []))
      refine own_go (fun t_ kt_ => XS.iloadN X0.here hx rfl (hb hby d1_14) rfl kt_) ?_
      show own_Go p e below s _ _ _ (s₁.setTop (mkF m 15 #[.val (.ref r0), .val (.int p1), .val (.int p2), .val (.int p3), .val (.int p4), .unset] [(.int p3)]))
      refine own_go (fun t_ kt_ => XS.istore X0.here hx rfl (hb hby d1_15) rfl (l' := #[.val (.ref r0), .val (.int p1), .val (.int p2), .val (.int p3), .val (.int p4), .val (.int p3)]) rfl kt_) ?_
      show own_Go p e below s _ _ _ (s₁.setTop (mkF m 17 #[.val (.ref r0), .val (.int p1), .val (.int p2), .val (.int p3), .val (.int p4), .val (.int p3)] []))
      refine own_go (fun t_ kt_ => XS.goto X0.here hx rfl (pc0 := 17) (pc' := 24) rfl (hb hby d1_17) (by decide) (by decide) kt_) ?_
      show own_Go p e below s _ _ _ (s₁.setTop (mkF m 24 #[.val (.ref r0), .val (.int p1), .val (.int p2), .val (.int p3), .val (.int p4), .val (.int p3)] []))
      exact J24 s₁ _ X0 e0 N0  (p3) (by unfold own_w; simp [*])
    · skip
      have hi11 : ¬ p1.toInt = 0 := fun q => hc11 (Int32.toInt_inj.mp q)
      refine own_go (fun t_ kt_ => XS.ifYes X0.here hx rfl (pc0 := 11) (pc' := 20) rfl (hb hby d1_11) rfl ((if0 _ _).trans (feq hc11).2) (by decide) (by decide) kt_) ?_
      show own_Go p e below s _ _ _ (s₁.setTop (mkF m 20 #[.val (.ref r0), .val (.int p1), .val (.int p2), .val (.int p3), .val (.int p4), .unset] []))
      refine own_go (fun t_ kt_ => XS.iload X0.here hx rfl (hb hby d1_20) rfl kt_) ?_
      show own_Go p e below s _ _ _ (s₁.setTop (mkF m 22 #[.val (.ref r0), .val (.int p1), .val (.int p2), .val (.int p3), .val (.int p4), .unset] [(.int p4)]))
      refine own_go (fun t_ kt_ => XS.istore X0.here hx rfl (hb hby d1_22) rfl (l' := #[.val (.ref r0), .val (.int p1), .val (.int p2), .val (.int p3), .val (.int p4), .val (.int p4)]) rfl kt_) ?_
      show own_Go p e below s _ _ _ (s₁.setTop (mkF m 24 #[.val (.ref r0), .val (.int p1), .val (.int p2), .val (.int p3), .val (.int p4), .val (.int p4)] []))
      exact J24 s₁ _ X0 e0 N0  (p4) (by unfold own_w; simp [*])
theorem pd_2 : parseMethodDescriptor "(Lcom/example/provfold/provfold/Policy$Operator;IZZZ)Z" = some ⟨[(.object "com/example/provfold/provfold/Policy$Operator"), .int, .boolean, .boolean, .boolean], some .boolean⟩ := by decide +kernel
theorem ef_0 (m : MethodId) (p0 : Int32) : entryFrame m #[(.int p0)] maxLocals = mkF m 0 #[.val (.int p0), .unset, .unset, .unset, .unset, .unset, .unset] [] := by first | (simp [entryFrame, mkF, argsToLocals, Value.category, maxLocals]; done) | rfl
def Q0 (Z : State) (p0 : Int32) (ad_EQUAL : Addr) (ad_NOT_EQUAL : Addr) (ad_AT_MOST : Addr) (ad_BELOW : Addr) (ad_AT_LEAST : Addr) (ad_ABOVE : Addr) (h0 : Heap) (n0 : Nat) (v : Option Value) (h : Heap) (L : List Loc) : Prop := v = some (.int 1) ∧ Fr n0 L
set_option maxRecDepth 65536 in
set_option maxHeartbeats 40000000 in
theorem rm0 (l : Launch) (Z : State) (a0 : Array Value) (hw : ∀ d ∈ tables_1, d.before a0 Z = true) (ws : List Jvm.Cond) (p0 : Int32) (ad_EQUAL : Addr) (ad_NOT_EQUAL : Addr) (ad_AT_MOST : Addr) (ad_BELOW : Addr) (ad_AT_LEAST : Addr) (ad_ABOVE : Addr) (h0 : Heap) (n0 : Nat) (Z0 : n0 ≤ h0.size) (S_EQUAL : Sta Z h0 "com/example/provfold/provfold/Policy$Operator" "EQUAL" "Lcom/example/provfold/provfold/Policy$Operator;" (.ref ad_EQUAL)) (E_EQUAL : Exa Z h0 ad_EQUAL "com/example/provfold/provfold/Policy$Operator") (F_EQUAL : Fld Z h0 ad_EQUAL "java/lang/Enum" "ordinal" "I" (.int (0 : Int32))) (S_NOT_EQUAL : Sta Z h0 "com/example/provfold/provfold/Policy$Operator" "NOT_EQUAL" "Lcom/example/provfold/provfold/Policy$Operator;" (.ref ad_NOT_EQUAL)) (E_NOT_EQUAL : Exa Z h0 ad_NOT_EQUAL "com/example/provfold/provfold/Policy$Operator") (F_NOT_EQUAL : Fld Z h0 ad_NOT_EQUAL "java/lang/Enum" "ordinal" "I" (.int (1 : Int32))) (S_AT_MOST : Sta Z h0 "com/example/provfold/provfold/Policy$Operator" "AT_MOST" "Lcom/example/provfold/provfold/Policy$Operator;" (.ref ad_AT_MOST)) (E_AT_MOST : Exa Z h0 ad_AT_MOST "com/example/provfold/provfold/Policy$Operator") (F_AT_MOST : Fld Z h0 ad_AT_MOST "java/lang/Enum" "ordinal" "I" (.int (2 : Int32))) (S_BELOW : Sta Z h0 "com/example/provfold/provfold/Policy$Operator" "BELOW" "Lcom/example/provfold/provfold/Policy$Operator;" (.ref ad_BELOW)) (E_BELOW : Exa Z h0 ad_BELOW "com/example/provfold/provfold/Policy$Operator") (F_BELOW : Fld Z h0 ad_BELOW "java/lang/Enum" "ordinal" "I" (.int (3 : Int32))) (S_AT_LEAST : Sta Z h0 "com/example/provfold/provfold/Policy$Operator" "AT_LEAST" "Lcom/example/provfold/provfold/Policy$Operator;" (.ref ad_AT_LEAST)) (E_AT_LEAST : Exa Z h0 ad_AT_LEAST "com/example/provfold/provfold/Policy$Operator") (F_AT_LEAST : Fld Z h0 ad_AT_LEAST "java/lang/Enum" "ordinal" "I" (.int (4 : Int32))) (S_ABOVE : Sta Z h0 "com/example/provfold/provfold/Policy$Operator" "ABOVE" "Lcom/example/provfold/provfold/Policy$Operator;" (.ref ad_ABOVE)) (E_ABOVE : Exa Z h0 ad_ABOVE "com/example/provfold/provfold/Policy$Operator") (F_ABOVE : Fld Z h0 ad_ABOVE "java/lang/Enum" "ordinal" "I" (.int (5 : Int32))) :
    MetFree l x (head1 (Jvm.Cond.code x code maxLocals ret :: ws) room_1) (fun a U => a = #[(.int p0)] ∧ Z.Warmed39 U.vm ∧ U.heap = h0) (fun _ _ _ _ _ => True) (fun _ U o U' => ∃ v L, o = .returned v ∧ Q0 Z p0 ad_EQUAL ad_NOT_EQUAL ad_AT_MOST ad_BELOW ad_AT_LEAST ad_ABOVE h0 n0 v U'.heap L ∧ FrameEnd U o U' L (room_1).cells (room_1).slots) := by
  refine MetFree.of_bodySF (plainFor_of_name pn_2) hisR ?_
  intro p e s m args below meth c s₁ Bd hml0 hP hK
  obtain ⟨rfl, hZ, hh⟩ := hP
  have hx := Bd.exec
  have hby := Bd.bytes
  have hml : c.maxLocals = 7 := hml0
  have hown : s.vm.findClass "com/example/provfold/provfold/OperatorHoldsPinLaw" = some m.cls := findClass_of_methodNamed Bd.named
  have hnm := (name_of_methodNamed Bd.named Bd.method).1
  have hlk : meth.locks = false := Bd.notSynchronized
  have X0 : Stand p l e room_1 s m #[(.int p0)] below meth c s₁ [] 0 0 := Stand.of_body Bd
  have e0 : s₁.heap = h0 := by rw [← hh, Bd.state]; rfl
  have N0 := Fr.nil n0
  have hret := Bd.returns
  show own_Go p e below s (Q0 Z p0 ad_EQUAL ad_NOT_EQUAL ad_AT_MOST ad_BELOW ad_AT_LEAST ad_ABOVE h0 n0) _ _ (s₁.setTop (entryFrame m #[(.int p0)] maxLocals))
  refine own_go (fun t k => castTop (ef_0 m p0) k) ?_
  show own_Go p e below s _ _ _ (s₁.setTop (mkF m 0 #[.val (.int p0), .unset, .unset, .unset, .unset, .unset, .unset] []))
  obtain ⟨T1, X1, e1, st1⟩ := getS2 X0 hx hZ hown (host := "") (Or.inl (hw _ (List.mem_of_getElem? (i := 0) rfl))) Via.refl e0 S_EQUAL (g := (mkF m 0 #[.val (.int p0), .unset, .unset, .unset, .unset, .unset, .unset] [])) rfl (hb hby at_0)
  refine own_go (fun t_ kt_ => st1 _ kt_) ?_
  show own_Go p e below s _ _ _ (T1.setTop (mkF m 3 #[.val (.int p0), .unset, .unset, .unset, .unset, .unset, .unset] [(.ref ad_EQUAL)]))
  refine own_go (fun t_ kt_ => XS.iloadN X1.here hx rfl (hb hby at_3) rfl kt_) ?_
  show own_Go p e below s _ _ _ (T1.setTop (mkF m 4 #[.val (.int p0), .unset, .unset, .unset, .unset, .unset, .unset] [(.int p0), (.ref ad_EQUAL)]))
  refine own_go (fun t_ kt_ => XS.iconst X1.here hx rfl (hb hby at_4) kt_) ?_
  show own_Go p e below s _ _ _ (T1.setTop (mkF m 5 #[.val (.int p0), .unset, .unset, .unset, .unset, .unset, .unset] [(.int (0 : Int32)), (.int p0), (.ref ad_EQUAL)]))
  refine own_go (fun t_ kt_ => XS.iconst X1.here hx rfl (hb hby at_5) kt_) ?_
  show own_Go p e below s _ _ _ (T1.setTop (mkF m 6 #[.val (.int p0), .unset, .unset, .unset, .unset, .unset, .unset] [(.int (1 : Int32)), (.int (0 : Int32)), (.int p0), (.ref ad_EQUAL)]))
  refine own_go (fun t_ kt_ => XS.iconst X1.here hx rfl (hb hby at_6) kt_) ?_
  show own_Go p e below s _ _ _ (T1.setTop (mkF m 7 #[.val (.int p0), .unset, .unset, .unset, .unset, .unset, .unset] [(.int (0 : Int32)), (.int (1 : Int32)), (.int (0 : Int32)), (.int p0), (.ref ad_EQUAL)]))
  obtain ⟨_, _, ⟨T2, L2, k2, n2⟩, -, X2, ⟨Lc2, hQ2, l2, y2, z2⟩, st2⟩ := Jvm.LawKit.callS X1 hx (y := (⟨"com/example/provfold/provfold/OperatorHoldsPinLaw", "check", "(Lcom/example/provfold/provfold/Policy$Operator;IZZZ)Z"⟩ : MethodName)) hown (mvT hZ (hw _ (List.mem_of_getElem? (i := 3) rfl))) (mvT hZ (hw _ (List.mem_of_getElem? (i := 4) rfl))) (mvT hZ (hw _ (List.mem_of_getElem? (i := 5) rfl))) (mvT hZ (hw _ (List.mem_of_getElem? (i := 6) rfl))) (by decide) (backOf (W := 0) (rm1 l Z a0 hw [] (ad_EQUAL) (p0) ((0 : Int32)) ((1 : Int32)) ((0 : Int32)) (0) h0 n0 Z0 (by decide) F_EQUAL E_EQUAL ((own_t p0).1)) hZ (hw _ (List.mem_of_getElem? (i := 6) rfl)) (hw _ (List.mem_of_getElem? (i := 5) rfl)) (by decide) (by decide)) (g := (mkF m 7 #[.val (.int p0), .unset, .unset, .unset, .unset, .unset, .unset] [(.int (0 : Int32)), (.int (1 : Int32)), (.int (0 : Int32)), (.int p0), (.ref ad_EQUAL)])) rfl (by rw [hml]; rfl) (argsL := [(.ref ad_EQUAL), (.int p0), (.int (0 : Int32)), (.int (1 : Int32)), (.int (0 : Int32))]) (rest := []) (lenOf pd_2 rfl) rfl (by show 2 * 0 + _ ≤ _; exact Nat.le_of_eq rfl) (hb hby at_7) (fun _ _ => ⟨rfl, e1, (by decide : 0 + 0 ≤ _), (by decide : 0 + 0 ≤ _)⟩)
  dsimp only [Pt.U, Pt.locs, Pt.cells, Pt.slots] at X2 l2 y2 z2 st2 hQ2
  subst l2 y2 z2
  obtain ⟨rfl, Nq2, eh2⟩ := hQ2
  have N2 := Fr.app N0 Nq2
  refine own_go (fun t_ kt_ => st2 _ kt_) ?_
  have e2 : T2.heap = h0 := eh2
  show own_Go p e below s _ _ _ (T2.setTop (mkF m 10 #[.val (.int p0), .unset, .unset, .unset, .unset, .unset, .unset] [(.int (1 : Int32))]))
  refine own_go (fun t_ kt_ => XS.istoreN X2.here hx rfl (hb hby at_10) rfl (l' := #[.val (.int p0), .val (.int (1 : Int32)), .unset, .unset, .unset, .unset, .unset]) rfl kt_) ?_
  show own_Go p e below s _ _ _ (T2.setTop (mkF m 11 #[.val (.int p0), .val (.int (1 : Int32)), .unset, .unset, .unset, .unset, .unset] []))
  obtain ⟨T3, X3, e3, st3⟩ := getS2 X2 hx hZ hown (host := "") (Or.inl (hw _ (List.mem_of_getElem? (i := 21) rfl))) Via.refl e2 S_NOT_EQUAL (g := (mkF m 11 #[.val (.int p0), .val (.int (1 : Int32)), .unset, .unset, .unset, .unset, .unset] [])) rfl (hb hby at_11)
  refine own_go (fun t_ kt_ => st3 _ kt_) ?_
  show own_Go p e below s _ _ _ (T3.setTop (mkF m 14 #[.val (.int p0), .val (.int (1 : Int32)), .unset, .unset, .unset, .unset, .unset] [(.ref ad_NOT_EQUAL)]))
  refine own_go (fun t_ kt_ => XS.iloadN X3.here hx rfl (hb hby at_14) rfl kt_) ?_
  show own_Go p e below s _ _ _ (T3.setTop (mkF m 15 #[.val (.int p0), .val (.int (1 : Int32)), .unset, .unset, .unset, .unset, .unset] [(.int p0), (.ref ad_NOT_EQUAL)]))
  refine own_go (fun t_ kt_ => XS.iconst X3.here hx rfl (hb hby at_15) kt_) ?_
  show own_Go p e below s _ _ _ (T3.setTop (mkF m 16 #[.val (.int p0), .val (.int (1 : Int32)), .unset, .unset, .unset, .unset, .unset] [(.int (1 : Int32)), (.int p0), (.ref ad_NOT_EQUAL)]))
  refine own_go (fun t_ kt_ => XS.iconst X3.here hx rfl (hb hby at_16) kt_) ?_
  show own_Go p e below s _ _ _ (T3.setTop (mkF m 17 #[.val (.int p0), .val (.int (1 : Int32)), .unset, .unset, .unset, .unset, .unset] [(.int (0 : Int32)), (.int (1 : Int32)), (.int p0), (.ref ad_NOT_EQUAL)]))
  refine own_go (fun t_ kt_ => XS.iconst X3.here hx rfl (hb hby at_17) kt_) ?_
  show own_Go p e below s _ _ _ (T3.setTop (mkF m 18 #[.val (.int p0), .val (.int (1 : Int32)), .unset, .unset, .unset, .unset, .unset] [(.int (1 : Int32)), (.int (0 : Int32)), (.int (1 : Int32)), (.int p0), (.ref ad_NOT_EQUAL)]))
  obtain ⟨_, _, ⟨T4, L4, k4, n4⟩, -, X4, ⟨Lc4, hQ4, l4, y4, z4⟩, st4⟩ := Jvm.LawKit.callS X3 hx (y := (⟨"com/example/provfold/provfold/OperatorHoldsPinLaw", "check", "(Lcom/example/provfold/provfold/Policy$Operator;IZZZ)Z"⟩ : MethodName)) hown (mvT hZ (hw _ (List.mem_of_getElem? (i := 3) rfl))) (mvT hZ (hw _ (List.mem_of_getElem? (i := 4) rfl))) (mvT hZ (hw _ (List.mem_of_getElem? (i := 5) rfl))) (mvT hZ (hw _ (List.mem_of_getElem? (i := 6) rfl))) (by decide) (backOf (W := 0) (rm1 l Z a0 hw [] (ad_NOT_EQUAL) (p0) ((1 : Int32)) ((0 : Int32)) ((1 : Int32)) (1) h0 n0 Z0 (by decide) F_NOT_EQUAL E_NOT_EQUAL ((own_t p0).2.1)) hZ (hw _ (List.mem_of_getElem? (i := 6) rfl)) (hw _ (List.mem_of_getElem? (i := 5) rfl)) (by decide) (by decide)) (g := (mkF m 18 #[.val (.int p0), .val (.int (1 : Int32)), .unset, .unset, .unset, .unset, .unset] [(.int (1 : Int32)), (.int (0 : Int32)), (.int (1 : Int32)), (.int p0), (.ref ad_NOT_EQUAL)])) rfl (by rw [hml]; rfl) (argsL := [(.ref ad_NOT_EQUAL), (.int p0), (.int (1 : Int32)), (.int (0 : Int32)), (.int (1 : Int32))]) (rest := []) (lenOf pd_2 rfl) rfl (by show 2 * 0 + _ ≤ _; exact Nat.le_of_eq rfl) (hb hby at_18) (fun _ _ => ⟨rfl, e3, (by decide : 0 + 0 ≤ _), (by decide : 0 + 0 ≤ _)⟩)
  dsimp only [Pt.U, Pt.locs, Pt.cells, Pt.slots] at X4 l4 y4 z4 st4 hQ4
  subst l4 y4 z4
  obtain ⟨rfl, Nq4, eh4⟩ := hQ4
  have N4 := Fr.app N2 Nq4
  refine own_go (fun t_ kt_ => st4 _ kt_) ?_
  have e4 : T4.heap = h0 := eh4
  show own_Go p e below s _ _ _ (T4.setTop (mkF m 21 #[.val (.int p0), .val (.int (1 : Int32)), .unset, .unset, .unset, .unset, .unset] [(.int (1 : Int32))]))
  refine own_go (fun t_ kt_ => XS.istoreN X4.here hx rfl (hb hby at_21) rfl (l' := #[.val (.int p0), .val (.int (1 : Int32)), .val (.int (1 : Int32)), .unset, .unset, .unset, .unset]) rfl kt_) ?_
  show own_Go p e below s _ _ _ (T4.setTop (mkF m 22 #[.val (.int p0), .val (.int (1 : Int32)), .val (.int (1 : Int32)), .unset, .unset, .unset, .unset] []))
  obtain ⟨T5, X5, e5, st5⟩ := getS2 X4 hx hZ hown (host := "") (Or.inl (hw _ (List.mem_of_getElem? (i := 23) rfl))) Via.refl e4 S_AT_MOST (g := (mkF m 22 #[.val (.int p0), .val (.int (1 : Int32)), .val (.int (1 : Int32)), .unset, .unset, .unset, .unset] [])) rfl (hb hby at_22)
  refine own_go (fun t_ kt_ => st5 _ kt_) ?_
  show own_Go p e below s _ _ _ (T5.setTop (mkF m 25 #[.val (.int p0), .val (.int (1 : Int32)), .val (.int (1 : Int32)), .unset, .unset, .unset, .unset] [(.ref ad_AT_MOST)]))
  refine own_go (fun t_ kt_ => XS.iloadN X5.here hx rfl (hb hby at_25) rfl kt_) ?_
  show own_Go p e below s _ _ _ (T5.setTop (mkF m 26 #[.val (.int p0), .val (.int (1 : Int32)), .val (.int (1 : Int32)), .unset, .unset, .unset, .unset] [(.int p0), (.ref ad_AT_MOST)]))
  refine own_go (fun t_ kt_ => XS.iconst X5.here hx rfl (hb hby at_26) kt_) ?_
  show own_Go p e below s _ _ _ (T5.setTop (mkF m 27 #[.val (.int p0), .val (.int (1 : Int32)), .val (.int (1 : Int32)), .unset, .unset, .unset, .unset] [(.int (1 : Int32)), (.int p0), (.ref ad_AT_MOST)]))
  refine own_go (fun t_ kt_ => XS.iconst X5.here hx rfl (hb hby at_27) kt_) ?_
  show own_Go p e below s _ _ _ (T5.setTop (mkF m 28 #[.val (.int p0), .val (.int (1 : Int32)), .val (.int (1 : Int32)), .unset, .unset, .unset, .unset] [(.int (1 : Int32)), (.int (1 : Int32)), (.int p0), (.ref ad_AT_MOST)]))
  refine own_go (fun t_ kt_ => XS.iconst X5.here hx rfl (hb hby at_28) kt_) ?_
  show own_Go p e below s _ _ _ (T5.setTop (mkF m 29 #[.val (.int p0), .val (.int (1 : Int32)), .val (.int (1 : Int32)), .unset, .unset, .unset, .unset] [(.int (0 : Int32)), (.int (1 : Int32)), (.int (1 : Int32)), (.int p0), (.ref ad_AT_MOST)]))
  obtain ⟨_, _, ⟨T6, L6, k6, n6⟩, -, X6, ⟨Lc6, hQ6, l6, y6, z6⟩, st6⟩ := Jvm.LawKit.callS X5 hx (y := (⟨"com/example/provfold/provfold/OperatorHoldsPinLaw", "check", "(Lcom/example/provfold/provfold/Policy$Operator;IZZZ)Z"⟩ : MethodName)) hown (mvT hZ (hw _ (List.mem_of_getElem? (i := 3) rfl))) (mvT hZ (hw _ (List.mem_of_getElem? (i := 4) rfl))) (mvT hZ (hw _ (List.mem_of_getElem? (i := 5) rfl))) (mvT hZ (hw _ (List.mem_of_getElem? (i := 6) rfl))) (by decide) (backOf (W := 0) (rm1 l Z a0 hw [] (ad_AT_MOST) (p0) ((1 : Int32)) ((1 : Int32)) ((0 : Int32)) (2) h0 n0 Z0 (by decide) F_AT_MOST E_AT_MOST ((own_t p0).2.2.1)) hZ (hw _ (List.mem_of_getElem? (i := 6) rfl)) (hw _ (List.mem_of_getElem? (i := 5) rfl)) (by decide) (by decide)) (g := (mkF m 29 #[.val (.int p0), .val (.int (1 : Int32)), .val (.int (1 : Int32)), .unset, .unset, .unset, .unset] [(.int (0 : Int32)), (.int (1 : Int32)), (.int (1 : Int32)), (.int p0), (.ref ad_AT_MOST)])) rfl (by rw [hml]; rfl) (argsL := [(.ref ad_AT_MOST), (.int p0), (.int (1 : Int32)), (.int (1 : Int32)), (.int (0 : Int32))]) (rest := []) (lenOf pd_2 rfl) rfl (by show 2 * 0 + _ ≤ _; exact Nat.le_of_eq rfl) (hb hby at_29) (fun _ _ => ⟨rfl, e5, (by decide : 0 + 0 ≤ _), (by decide : 0 + 0 ≤ _)⟩)
  dsimp only [Pt.U, Pt.locs, Pt.cells, Pt.slots] at X6 l6 y6 z6 st6 hQ6
  subst l6 y6 z6
  obtain ⟨rfl, Nq6, eh6⟩ := hQ6
  have N6 := Fr.app N4 Nq6
  refine own_go (fun t_ kt_ => st6 _ kt_) ?_
  have e6 : T6.heap = h0 := eh6
  show own_Go p e below s _ _ _ (T6.setTop (mkF m 32 #[.val (.int p0), .val (.int (1 : Int32)), .val (.int (1 : Int32)), .unset, .unset, .unset, .unset] [(.int (1 : Int32))]))
  refine own_go (fun t_ kt_ => XS.istoreN X6.here hx rfl (hb hby at_32) rfl (l' := #[.val (.int p0), .val (.int (1 : Int32)), .val (.int (1 : Int32)), .val (.int (1 : Int32)), .unset, .unset, .unset]) rfl kt_) ?_
  show own_Go p e below s _ _ _ (T6.setTop (mkF m 33 #[.val (.int p0), .val (.int (1 : Int32)), .val (.int (1 : Int32)), .val (.int (1 : Int32)), .unset, .unset, .unset] []))
  obtain ⟨T7, X7, e7, st7⟩ := getS2 X6 hx hZ hown (host := "") (Or.inl (hw _ (List.mem_of_getElem? (i := 25) rfl))) Via.refl e6 S_BELOW (g := (mkF m 33 #[.val (.int p0), .val (.int (1 : Int32)), .val (.int (1 : Int32)), .val (.int (1 : Int32)), .unset, .unset, .unset] [])) rfl (hb hby at_33)
  refine own_go (fun t_ kt_ => st7 _ kt_) ?_
  show own_Go p e below s _ _ _ (T7.setTop (mkF m 36 #[.val (.int p0), .val (.int (1 : Int32)), .val (.int (1 : Int32)), .val (.int (1 : Int32)), .unset, .unset, .unset] [(.ref ad_BELOW)]))
  refine own_go (fun t_ kt_ => XS.iloadN X7.here hx rfl (hb hby at_36) rfl kt_) ?_
  show own_Go p e below s _ _ _ (T7.setTop (mkF m 37 #[.val (.int p0), .val (.int (1 : Int32)), .val (.int (1 : Int32)), .val (.int (1 : Int32)), .unset, .unset, .unset] [(.int p0), (.ref ad_BELOW)]))
  refine own_go (fun t_ kt_ => XS.iconst X7.here hx rfl (hb hby at_37) kt_) ?_
  show own_Go p e below s _ _ _ (T7.setTop (mkF m 38 #[.val (.int p0), .val (.int (1 : Int32)), .val (.int (1 : Int32)), .val (.int (1 : Int32)), .unset, .unset, .unset] [(.int (1 : Int32)), (.int p0), (.ref ad_BELOW)]))
  refine own_go (fun t_ kt_ => XS.iconst X7.here hx rfl (hb hby at_38) kt_) ?_
  show own_Go p e below s _ _ _ (T7.setTop (mkF m 39 #[.val (.int p0), .val (.int (1 : Int32)), .val (.int (1 : Int32)), .val (.int (1 : Int32)), .unset, .unset, .unset] [(.int (0 : Int32)), (.int (1 : Int32)), (.int p0), (.ref ad_BELOW)]))
  refine own_go (fun t_ kt_ => XS.iconst X7.here hx rfl (hb hby at_39) kt_) ?_
  show own_Go p e below s _ _ _ (T7.setTop (mkF m 40 #[.val (.int p0), .val (.int (1 : Int32)), .val (.int (1 : Int32)), .val (.int (1 : Int32)), .unset, .unset, .unset] [(.int (0 : Int32)), (.int (0 : Int32)), (.int (1 : Int32)), (.int p0), (.ref ad_BELOW)]))
  obtain ⟨_, _, ⟨T8, L8, k8, n8⟩, -, X8, ⟨Lc8, hQ8, l8, y8, z8⟩, st8⟩ := Jvm.LawKit.callS X7 hx (y := (⟨"com/example/provfold/provfold/OperatorHoldsPinLaw", "check", "(Lcom/example/provfold/provfold/Policy$Operator;IZZZ)Z"⟩ : MethodName)) hown (mvT hZ (hw _ (List.mem_of_getElem? (i := 3) rfl))) (mvT hZ (hw _ (List.mem_of_getElem? (i := 4) rfl))) (mvT hZ (hw _ (List.mem_of_getElem? (i := 5) rfl))) (mvT hZ (hw _ (List.mem_of_getElem? (i := 6) rfl))) (by decide) (backOf (W := 0) (rm1 l Z a0 hw [] (ad_BELOW) (p0) ((1 : Int32)) ((0 : Int32)) ((0 : Int32)) (3) h0 n0 Z0 (by decide) F_BELOW E_BELOW ((own_t p0).2.2.2.1)) hZ (hw _ (List.mem_of_getElem? (i := 6) rfl)) (hw _ (List.mem_of_getElem? (i := 5) rfl)) (by decide) (by decide)) (g := (mkF m 40 #[.val (.int p0), .val (.int (1 : Int32)), .val (.int (1 : Int32)), .val (.int (1 : Int32)), .unset, .unset, .unset] [(.int (0 : Int32)), (.int (0 : Int32)), (.int (1 : Int32)), (.int p0), (.ref ad_BELOW)])) rfl (by rw [hml]; rfl) (argsL := [(.ref ad_BELOW), (.int p0), (.int (1 : Int32)), (.int (0 : Int32)), (.int (0 : Int32))]) (rest := []) (lenOf pd_2 rfl) rfl (by show 2 * 0 + _ ≤ _; exact Nat.le_of_eq rfl) (hb hby at_40) (fun _ _ => ⟨rfl, e7, (by decide : 0 + 0 ≤ _), (by decide : 0 + 0 ≤ _)⟩)
  dsimp only [Pt.U, Pt.locs, Pt.cells, Pt.slots] at X8 l8 y8 z8 st8 hQ8
  subst l8 y8 z8
  obtain ⟨rfl, Nq8, eh8⟩ := hQ8
  have N8 := Fr.app N6 Nq8
  refine own_go (fun t_ kt_ => st8 _ kt_) ?_
  have e8 : T8.heap = h0 := eh8
  show own_Go p e below s _ _ _ (T8.setTop (mkF m 43 #[.val (.int p0), .val (.int (1 : Int32)), .val (.int (1 : Int32)), .val (.int (1 : Int32)), .unset, .unset, .unset] [(.int (1 : Int32))]))
  refine own_go (fun t_ kt_ => XS.istore X8.here hx rfl (hb hby at_43) rfl (l' := #[.val (.int p0), .val (.int (1 : Int32)), .val (.int (1 : Int32)), .val (.int (1 : Int32)), .val (.int (1 : Int32)), .unset, .unset]) rfl kt_) ?_
  show own_Go p e below s _ _ _ (T8.setTop (mkF m 45 #[.val (.int p0), .val (.int (1 : Int32)), .val (.int (1 : Int32)), .val (.int (1 : Int32)), .val (.int (1 : Int32)), .unset, .unset] []))
  obtain ⟨T9, X9, e9, st9⟩ := getS2 X8 hx hZ hown (host := "") (Or.inl (hw _ (List.mem_of_getElem? (i := 27) rfl))) Via.refl e8 S_AT_LEAST (g := (mkF m 45 #[.val (.int p0), .val (.int (1 : Int32)), .val (.int (1 : Int32)), .val (.int (1 : Int32)), .val (.int (1 : Int32)), .unset, .unset] [])) rfl (hb hby at_45)
  refine own_go (fun t_ kt_ => st9 _ kt_) ?_
  show own_Go p e below s _ _ _ (T9.setTop (mkF m 48 #[.val (.int p0), .val (.int (1 : Int32)), .val (.int (1 : Int32)), .val (.int (1 : Int32)), .val (.int (1 : Int32)), .unset, .unset] [(.ref ad_AT_LEAST)]))
  refine own_go (fun t_ kt_ => XS.iloadN X9.here hx rfl (hb hby at_48) rfl kt_) ?_
  show own_Go p e below s _ _ _ (T9.setTop (mkF m 49 #[.val (.int p0), .val (.int (1 : Int32)), .val (.int (1 : Int32)), .val (.int (1 : Int32)), .val (.int (1 : Int32)), .unset, .unset] [(.int p0), (.ref ad_AT_LEAST)]))
  refine own_go (fun t_ kt_ => XS.iconst X9.here hx rfl (hb hby at_49) kt_) ?_
  show own_Go p e below s _ _ _ (T9.setTop (mkF m 50 #[.val (.int p0), .val (.int (1 : Int32)), .val (.int (1 : Int32)), .val (.int (1 : Int32)), .val (.int (1 : Int32)), .unset, .unset] [(.int (0 : Int32)), (.int p0), (.ref ad_AT_LEAST)]))
  refine own_go (fun t_ kt_ => XS.iconst X9.here hx rfl (hb hby at_50) kt_) ?_
  show own_Go p e below s _ _ _ (T9.setTop (mkF m 51 #[.val (.int p0), .val (.int (1 : Int32)), .val (.int (1 : Int32)), .val (.int (1 : Int32)), .val (.int (1 : Int32)), .unset, .unset] [(.int (1 : Int32)), (.int (0 : Int32)), (.int p0), (.ref ad_AT_LEAST)]))
  refine own_go (fun t_ kt_ => XS.iconst X9.here hx rfl (hb hby at_51) kt_) ?_
  show own_Go p e below s _ _ _ (T9.setTop (mkF m 52 #[.val (.int p0), .val (.int (1 : Int32)), .val (.int (1 : Int32)), .val (.int (1 : Int32)), .val (.int (1 : Int32)), .unset, .unset] [(.int (1 : Int32)), (.int (1 : Int32)), (.int (0 : Int32)), (.int p0), (.ref ad_AT_LEAST)]))
  obtain ⟨_, _, ⟨T10, L10, k10, n10⟩, -, X10, ⟨Lc10, hQ10, l10, y10, z10⟩, st10⟩ := Jvm.LawKit.callS X9 hx (y := (⟨"com/example/provfold/provfold/OperatorHoldsPinLaw", "check", "(Lcom/example/provfold/provfold/Policy$Operator;IZZZ)Z"⟩ : MethodName)) hown (mvT hZ (hw _ (List.mem_of_getElem? (i := 3) rfl))) (mvT hZ (hw _ (List.mem_of_getElem? (i := 4) rfl))) (mvT hZ (hw _ (List.mem_of_getElem? (i := 5) rfl))) (mvT hZ (hw _ (List.mem_of_getElem? (i := 6) rfl))) (by decide) (backOf (W := 0) (rm1 l Z a0 hw [] (ad_AT_LEAST) (p0) ((0 : Int32)) ((1 : Int32)) ((1 : Int32)) (4) h0 n0 Z0 (by decide) F_AT_LEAST E_AT_LEAST ((own_t p0).2.2.2.2.1)) hZ (hw _ (List.mem_of_getElem? (i := 6) rfl)) (hw _ (List.mem_of_getElem? (i := 5) rfl)) (by decide) (by decide)) (g := (mkF m 52 #[.val (.int p0), .val (.int (1 : Int32)), .val (.int (1 : Int32)), .val (.int (1 : Int32)), .val (.int (1 : Int32)), .unset, .unset] [(.int (1 : Int32)), (.int (1 : Int32)), (.int (0 : Int32)), (.int p0), (.ref ad_AT_LEAST)])) rfl (by rw [hml]; rfl) (argsL := [(.ref ad_AT_LEAST), (.int p0), (.int (0 : Int32)), (.int (1 : Int32)), (.int (1 : Int32))]) (rest := []) (lenOf pd_2 rfl) rfl (by show 2 * 0 + _ ≤ _; exact Nat.le_of_eq rfl) (hb hby at_52) (fun _ _ => ⟨rfl, e9, (by decide : 0 + 0 ≤ _), (by decide : 0 + 0 ≤ _)⟩)
  dsimp only [Pt.U, Pt.locs, Pt.cells, Pt.slots] at X10 l10 y10 z10 st10 hQ10
  subst l10 y10 z10
  obtain ⟨rfl, Nq10, eh10⟩ := hQ10
  have N10 := Fr.app N8 Nq10
  refine own_go (fun t_ kt_ => st10 _ kt_) ?_
  have e10 : T10.heap = h0 := eh10
  show own_Go p e below s _ _ _ (T10.setTop (mkF m 55 #[.val (.int p0), .val (.int (1 : Int32)), .val (.int (1 : Int32)), .val (.int (1 : Int32)), .val (.int (1 : Int32)), .unset, .unset] [(.int (1 : Int32))]))
  refine own_go (fun t_ kt_ => XS.istore X10.here hx rfl (hb hby at_55) rfl (l' := #[.val (.int p0), .val (.int (1 : Int32)), .val (.int (1 : Int32)), .val (.int (1 : Int32)), .val (.int (1 : Int32)), .val (.int (1 : Int32)), .unset]) rfl kt_) ?_
  show own_Go p e below s _ _ _ (T10.setTop (mkF m 57 #[.val (.int p0), .val (.int (1 : Int32)), .val (.int (1 : Int32)), .val (.int (1 : Int32)), .val (.int (1 : Int32)), .val (.int (1 : Int32)), .unset] []))
  obtain ⟨T11, X11, e11, st11⟩ := getS2 X10 hx hZ hown (host := "") (Or.inl (hw _ (List.mem_of_getElem? (i := 29) rfl))) Via.refl e10 S_ABOVE (g := (mkF m 57 #[.val (.int p0), .val (.int (1 : Int32)), .val (.int (1 : Int32)), .val (.int (1 : Int32)), .val (.int (1 : Int32)), .val (.int (1 : Int32)), .unset] [])) rfl (hb hby at_57)
  refine own_go (fun t_ kt_ => st11 _ kt_) ?_
  show own_Go p e below s _ _ _ (T11.setTop (mkF m 60 #[.val (.int p0), .val (.int (1 : Int32)), .val (.int (1 : Int32)), .val (.int (1 : Int32)), .val (.int (1 : Int32)), .val (.int (1 : Int32)), .unset] [(.ref ad_ABOVE)]))
  refine own_go (fun t_ kt_ => XS.iloadN X11.here hx rfl (hb hby at_60) rfl kt_) ?_
  show own_Go p e below s _ _ _ (T11.setTop (mkF m 61 #[.val (.int p0), .val (.int (1 : Int32)), .val (.int (1 : Int32)), .val (.int (1 : Int32)), .val (.int (1 : Int32)), .val (.int (1 : Int32)), .unset] [(.int p0), (.ref ad_ABOVE)]))
  refine own_go (fun t_ kt_ => XS.iconst X11.here hx rfl (hb hby at_61) kt_) ?_
  show own_Go p e below s _ _ _ (T11.setTop (mkF m 62 #[.val (.int p0), .val (.int (1 : Int32)), .val (.int (1 : Int32)), .val (.int (1 : Int32)), .val (.int (1 : Int32)), .val (.int (1 : Int32)), .unset] [(.int (0 : Int32)), (.int p0), (.ref ad_ABOVE)]))
  refine own_go (fun t_ kt_ => XS.iconst X11.here hx rfl (hb hby at_62) kt_) ?_
  show own_Go p e below s _ _ _ (T11.setTop (mkF m 63 #[.val (.int p0), .val (.int (1 : Int32)), .val (.int (1 : Int32)), .val (.int (1 : Int32)), .val (.int (1 : Int32)), .val (.int (1 : Int32)), .unset] [(.int (0 : Int32)), (.int (0 : Int32)), (.int p0), (.ref ad_ABOVE)]))
  refine own_go (fun t_ kt_ => XS.iconst X11.here hx rfl (hb hby at_63) kt_) ?_
  show own_Go p e below s _ _ _ (T11.setTop (mkF m 64 #[.val (.int p0), .val (.int (1 : Int32)), .val (.int (1 : Int32)), .val (.int (1 : Int32)), .val (.int (1 : Int32)), .val (.int (1 : Int32)), .unset] [(.int (1 : Int32)), (.int (0 : Int32)), (.int (0 : Int32)), (.int p0), (.ref ad_ABOVE)]))
  obtain ⟨_, _, ⟨T12, L12, k12, n12⟩, -, X12, ⟨Lc12, hQ12, l12, y12, z12⟩, st12⟩ := Jvm.LawKit.callS X11 hx (y := (⟨"com/example/provfold/provfold/OperatorHoldsPinLaw", "check", "(Lcom/example/provfold/provfold/Policy$Operator;IZZZ)Z"⟩ : MethodName)) hown (mvT hZ (hw _ (List.mem_of_getElem? (i := 3) rfl))) (mvT hZ (hw _ (List.mem_of_getElem? (i := 4) rfl))) (mvT hZ (hw _ (List.mem_of_getElem? (i := 5) rfl))) (mvT hZ (hw _ (List.mem_of_getElem? (i := 6) rfl))) (by decide) (backOf (W := 0) (rm1 l Z a0 hw [] (ad_ABOVE) (p0) ((0 : Int32)) ((0 : Int32)) ((1 : Int32)) (5) h0 n0 Z0 (by decide) F_ABOVE E_ABOVE ((own_t p0).2.2.2.2.2)) hZ (hw _ (List.mem_of_getElem? (i := 6) rfl)) (hw _ (List.mem_of_getElem? (i := 5) rfl)) (by decide) (by decide)) (g := (mkF m 64 #[.val (.int p0), .val (.int (1 : Int32)), .val (.int (1 : Int32)), .val (.int (1 : Int32)), .val (.int (1 : Int32)), .val (.int (1 : Int32)), .unset] [(.int (1 : Int32)), (.int (0 : Int32)), (.int (0 : Int32)), (.int p0), (.ref ad_ABOVE)])) rfl (by rw [hml]; rfl) (argsL := [(.ref ad_ABOVE), (.int p0), (.int (0 : Int32)), (.int (0 : Int32)), (.int (1 : Int32))]) (rest := []) (lenOf pd_2 rfl) rfl (by show 2 * 0 + _ ≤ _; exact Nat.le_of_eq rfl) (hb hby at_64) (fun _ _ => ⟨rfl, e11, (by decide : 0 + 0 ≤ _), (by decide : 0 + 0 ≤ _)⟩)
  dsimp only [Pt.U, Pt.locs, Pt.cells, Pt.slots] at X12 l12 y12 z12 st12 hQ12
  subst l12 y12 z12
  obtain ⟨rfl, Nq12, eh12⟩ := hQ12
  have N12 := Fr.app N10 Nq12
  refine own_go (fun t_ kt_ => st12 _ kt_) ?_
  have e12 : T12.heap = h0 := eh12
  show own_Go p e below s _ _ _ (T12.setTop (mkF m 67 #[.val (.int p0), .val (.int (1 : Int32)), .val (.int (1 : Int32)), .val (.int (1 : Int32)), .val (.int (1 : Int32)), .val (.int (1 : Int32)), .unset] [(.int (1 : Int32))]))
  refine own_go (fun t_ kt_ => XS.istore X12.here hx rfl (hb hby at_67) rfl (l' := #[.val (.int p0), .val (.int (1 : Int32)), .val (.int (1 : Int32)), .val (.int (1 : Int32)), .val (.int (1 : Int32)), .val (.int (1 : Int32)), .val (.int (1 : Int32))]) rfl kt_) ?_
  show own_Go p e below s _ _ _ (T12.setTop (mkF m 69 #[.val (.int p0), .val (.int (1 : Int32)), .val (.int (1 : Int32)), .val (.int (1 : Int32)), .val (.int (1 : Int32)), .val (.int (1 : Int32)), .val (.int (1 : Int32))] []))
  refine own_go (fun t_ kt_ => XS.iloadN X12.here hx rfl (hb hby at_69) rfl kt_) ?_
  show own_Go p e below s _ _ _ (T12.setTop (mkF m 70 #[.val (.int p0), .val (.int (1 : Int32)), .val (.int (1 : Int32)), .val (.int (1 : Int32)), .val (.int (1 : Int32)), .val (.int (1 : Int32)), .val (.int (1 : Int32))] [(.int (1 : Int32))]))
  refine own_go (fun t_ kt_ => XS.ifNo X12.here hx rfl (hb hby at_70) rfl ((if0 _ _).trans (feq (by decide)).1) kt_) ?_
  show own_Go p e below s _ _ _ (T12.setTop (mkF m 73 #[.val (.int p0), .val (.int (1 : Int32)), .val (.int (1 : Int32)), .val (.int (1 : Int32)), .val (.int (1 : Int32)), .val (.int (1 : Int32)), .val (.int (1 : Int32))] []))
  refine own_go (fun t_ kt_ => XS.iloadN X12.here hx rfl (hb hby at_73) rfl kt_) ?_
  show own_Go p e below s _ _ _ (T12.setTop (mkF m 74 #[.val (.int p0), .val (.int (1 : Int32)), .val (.int (1 : Int32)), .val (.int (1 : Int32)), .val (.int (1 : Int32)), .val (.int (1 : Int32)), .val (.int (1 : Int32))] [(.int (1 : Int32))]))
  refine own_go (fun t_ kt_ => XS.ifNo X12.here hx rfl (hb hby at_74) rfl ((if0 _ _).trans (feq (by decide)).1) kt_) ?_
  show own_Go p e below s _ _ _ (T12.setTop (mkF m 77 #[.val (.int p0), .val (.int (1 : Int32)), .val (.int (1 : Int32)), .val (.int (1 : Int32)), .val (.int (1 : Int32)), .val (.int (1 : Int32)), .val (.int (1 : Int32))] []))
  refine own_go (fun t_ kt_ => XS.iloadN X12.here hx rfl (hb hby at_77) rfl kt_) ?_
  show own_Go p e below s _ _ _ (T12.setTop (mkF m 78 #[.val (.int p0), .val (.int (1 : Int32)), .val (.int (1 : Int32)), .val (.int (1 : Int32)), .val (.int (1 : Int32)), .val (.int (1 : Int32)), .val (.int (1 : Int32))] [(.int (1 : Int32))]))
  refine own_go (fun t_ kt_ => XS.ifNo X12.here hx rfl (hb hby at_78) rfl ((if0 _ _).trans (feq (by decide)).1) kt_) ?_
  show own_Go p e below s _ _ _ (T12.setTop (mkF m 81 #[.val (.int p0), .val (.int (1 : Int32)), .val (.int (1 : Int32)), .val (.int (1 : Int32)), .val (.int (1 : Int32)), .val (.int (1 : Int32)), .val (.int (1 : Int32))] []))
  refine own_go (fun t_ kt_ => XS.iload X12.here hx rfl (hb hby at_81) rfl kt_) ?_
  show own_Go p e below s _ _ _ (T12.setTop (mkF m 83 #[.val (.int p0), .val (.int (1 : Int32)), .val (.int (1 : Int32)), .val (.int (1 : Int32)), .val (.int (1 : Int32)), .val (.int (1 : Int32)), .val (.int (1 : Int32))] [(.int (1 : Int32))]))
  refine own_go (fun t_ kt_ => XS.ifNo X12.here hx rfl (hb hby at_83) rfl ((if0 _ _).trans (feq (by decide)).1) kt_) ?_
  show own_Go p e below s _ _ _ (T12.setTop (mkF m 86 #[.val (.int p0), .val (.int (1 : Int32)), .val (.int (1 : Int32)), .val (.int (1 : Int32)), .val (.int (1 : Int32)), .val (.int (1 : Int32)), .val (.int (1 : Int32))] []))
  refine own_go (fun t_ kt_ => XS.iload X12.here hx rfl (hb hby at_86) rfl kt_) ?_
  show own_Go p e below s _ _ _ (T12.setTop (mkF m 88 #[.val (.int p0), .val (.int (1 : Int32)), .val (.int (1 : Int32)), .val (.int (1 : Int32)), .val (.int (1 : Int32)), .val (.int (1 : Int32)), .val (.int (1 : Int32))] [(.int (1 : Int32))]))
  refine own_go (fun t_ kt_ => XS.ifNo X12.here hx rfl (hb hby at_88) rfl ((if0 _ _).trans (feq (by decide)).1) kt_) ?_
  show own_Go p e below s _ _ _ (T12.setTop (mkF m 91 #[.val (.int p0), .val (.int (1 : Int32)), .val (.int (1 : Int32)), .val (.int (1 : Int32)), .val (.int (1 : Int32)), .val (.int (1 : Int32)), .val (.int (1 : Int32))] []))
  refine own_go (fun t_ kt_ => XS.iload X12.here hx rfl (hb hby at_91) rfl kt_) ?_
  show own_Go p e below s _ _ _ (T12.setTop (mkF m 93 #[.val (.int p0), .val (.int (1 : Int32)), .val (.int (1 : Int32)), .val (.int (1 : Int32)), .val (.int (1 : Int32)), .val (.int (1 : Int32)), .val (.int (1 : Int32))] [(.int (1 : Int32))]))
  refine own_go (fun t_ kt_ => XS.ifNo X12.here hx rfl (hb hby at_93) rfl ((if0 _ _).trans (feq (by decide)).1) kt_) ?_
  show own_Go p e below s _ _ _ (T12.setTop (mkF m 96 #[.val (.int p0), .val (.int (1 : Int32)), .val (.int (1 : Int32)), .val (.int (1 : Int32)), .val (.int (1 : Int32)), .val (.int (1 : Int32)), .val (.int (1 : Int32))] []))
  refine own_go (fun t_ kt_ => XS.iconst X12.here hx rfl (hb hby at_96) kt_) ?_
  show own_Go p e below s _ _ _ (T12.setTop (mkF m 97 #[.val (.int p0), .val (.int (1 : Int32)), .val (.int (1 : Int32)), .val (.int (1 : Int32)), .val (.int (1 : Int32)), .val (.int (1 : Int32)), .val (.int (1 : Int32))] [(.int (1 : Int32))]))
  refine own_go (fun t_ kt_ => XS.goto X12.here hx rfl (pc0 := 97) (pc' := 101) rfl (hb hby at_97) (by decide) (by decide) kt_) ?_
  show own_Go p e below s _ _ _ (T12.setTop (mkF m 101 #[.val (.int p0), .val (.int (1 : Int32)), .val (.int (1 : Int32)), .val (.int (1 : Int32)), .val (.int (1 : Int32)), .val (.int (1 : Int32)), .val (.int (1 : Int32))] [(.int (1 : Int32))]))
  refine own_ret X12 (v := some (.int (1 : Int32))) (fun h => by rw [hret] at h; cases h) hlk ?_ (by decide) (by decide) (fun fs hr => retN X12 hx (t := .boolean) hret (by simp) (hb hby at_101) hr)
  show Q0 Z p0 ad_EQUAL ad_NOT_EQUAL ad_AT_MOST ad_BELOW ad_AT_LEAST ad_ABOVE h0 n0 (some (.int (1 : Int32))) T12.heap _
  rw [e12]
  exact ⟨rfl, N12⟩
set_option maxRecDepth 65536 in
set_option maxHeartbeats 40000000 in
theorem comes_1 {Post : Tables → Env → Array Value → State → Outcome → State → Prop} (hpost : ∀ tb e args s v u, (limb_1_1.after args s (.returned v) u = true ∧ limb_1_2.after args s (.returned v) u = true ∧ True) → FrameEnd s (.returned v) u (Jvm.fieldLocs frame_1_writes args s ++ Jvm.arrayLocs frame_1_arrays args s ++ Jvm.staticLocs frame_1_statics s) 0 0 → Post tb e args s (.returned v) u) :
    ArmFor flags0 classFile x code maxLocals ret World_1 tables_1 room_1 Calls_1 rest_1 Pre_1 Post := by
  intro l hfl _ _ p e ha hc hk s m args below hf hA hF happ hP
  obtain ⟨hcalls, hrest, hpre⟩ := hP
  obtain ⟨-, -, -, hnamed, -, -, -, hat⟩ := (Spec.applies_iff hf).mp happ
  obtain ⟨hg, hn⟩ := and_e (Cond.before_iff.mp (show (Jvm.Cond.and given_1 narrow_1).before args s = true from hpre))
  obtain ⟨g1, g2⟩ := and_e hg
  obtain ⟨w0, rfl⟩ : ∃ w0 : Value, args = #[w0] := by
    have hs : args.size = 1 := by simpa [Cond.value, given_1] using g1
    obtain ⟨L⟩ := args
    match L, hs with
    | [w0], _ => exact ⟨w0, rfl⟩
  have hw := fun d (hd : d ∈ tables_1) => atoms_spec (ws := Jvm.Cond.code x code maxLocals ret :: tables_1) hat d (List.mem_cons_of_mem _ hd)
  have hfit : Fit s := fun {y c} hc i hi => by
    obtain ⟨ha, rfl⟩ := Array.getElem?_eq_some_iff.mp hc
    have q := List.all_eq_true.mp ((Array.all_eq_true_iff_forall_mem.mp hF) _ (Array.getElem_mem ha)) i (List.mem_range.mpr hi)
    simpa [Array.getElem?_eq_getElem hi] using q
  obtain ⟨i0, ei0⟩ := is_v g2
  obtain rfl : w0 = (.int i0) := Option.some.inj ei0
  obtain ⟨u1, u2⟩ := and_e hn
  obtain ⟨u3, u4⟩ := and_e u2
  obtain ⟨u5, u6⟩ := and_e u4
  obtain ⟨u7, u8⟩ := and_e u6
  obtain ⟨u9, u10⟩ := and_e u8
  obtain ⟨u11, u12⟩ := and_e u10
  obtain ⟨u13, u14⟩ := and_e u12
  obtain ⟨u15, u16⟩ := and_e u14
  obtain ⟨u17, u18⟩ := and_e u16
  obtain ⟨u19, u20⟩ := and_e u18
  obtain ⟨u21, u22⟩ := and_e u20
  obtain ⟨ad_EQUAL, es_EQUAL⟩ := exa_v u1
  have S_EQUAL := Sta.start es_EQUAL (Or.inr ⟨(hw _ (List.mem_of_getElem? (i := 1) rfl)), (hw _ (List.mem_of_getElem? (i := 2) rfl))⟩)
  have E_EQUAL := Exa.start es_EQUAL u1
  obtain ⟨ad_NOT_EQUAL, es_NOT_EQUAL⟩ := exa_v u5
  have S_NOT_EQUAL := Sta.start es_NOT_EQUAL (Or.inr ⟨(hw _ (List.mem_of_getElem? (i := 1) rfl)), (hw _ (List.mem_of_getElem? (i := 22) rfl))⟩)
  have E_NOT_EQUAL := Exa.start es_NOT_EQUAL u5
  obtain ⟨ad_AT_MOST, es_AT_MOST⟩ := exa_v u9
  have S_AT_MOST := Sta.start es_AT_MOST (Or.inr ⟨(hw _ (List.mem_of_getElem? (i := 1) rfl)), (hw _ (List.mem_of_getElem? (i := 24) rfl))⟩)
  have E_AT_MOST := Exa.start es_AT_MOST u9
  obtain ⟨ad_BELOW, es_BELOW⟩ := exa_v u13
  have S_BELOW := Sta.start es_BELOW (Or.inr ⟨(hw _ (List.mem_of_getElem? (i := 1) rfl)), (hw _ (List.mem_of_getElem? (i := 26) rfl))⟩)
  have E_BELOW := Exa.start es_BELOW u13
  obtain ⟨ad_AT_LEAST, es_AT_LEAST⟩ := exa_v u17
  have S_AT_LEAST := Sta.start es_AT_LEAST (Or.inr ⟨(hw _ (List.mem_of_getElem? (i := 1) rfl)), (hw _ (List.mem_of_getElem? (i := 28) rfl))⟩)
  have E_AT_LEAST := Exa.start es_AT_LEAST u17
  obtain ⟨ad_ABOVE, es_ABOVE⟩ := exa_v u21
  have S_ABOVE := Sta.start es_ABOVE (Or.inr ⟨(hw _ (List.mem_of_getElem? (i := 1) rfl)), (hw _ (List.mem_of_getElem? (i := 30) rfl))⟩)
  have E_ABOVE := Exa.start es_ABOVE u21
  have F_EQUAL_ordinal : Fld s s.heap ad_EQUAL "java/lang/Enum" "ordinal" "I" (.int (0 : Int32)) := Fld.start ((fld_at es_EQUAL).symm.trans (eqv_i (Term.int_eval _) u3))
  have F_NOT_EQUAL_ordinal : Fld s s.heap ad_NOT_EQUAL "java/lang/Enum" "ordinal" "I" (.int (1 : Int32)) := Fld.start ((fld_at es_NOT_EQUAL).symm.trans (eqv_i (Term.int_eval _) u7))
  have F_AT_MOST_ordinal : Fld s s.heap ad_AT_MOST "java/lang/Enum" "ordinal" "I" (.int (2 : Int32)) := Fld.start ((fld_at es_AT_MOST).symm.trans (eqv_i (Term.int_eval _) u11))
  have F_BELOW_ordinal : Fld s s.heap ad_BELOW "java/lang/Enum" "ordinal" "I" (.int (3 : Int32)) := Fld.start ((fld_at es_BELOW).symm.trans (eqv_i (Term.int_eval _) u15))
  have F_AT_LEAST_ordinal : Fld s s.heap ad_AT_LEAST "java/lang/Enum" "ordinal" "I" (.int (4 : Int32)) := Fld.start ((fld_at es_AT_LEAST).symm.trans (eqv_i (Term.int_eval _) u19))
  have F_ABOVE_ordinal : Fld s s.heap ad_ABOVE "java/lang/Enum" "ordinal" "I" (.int (5 : Int32)) := Fld.start ((fld_at es_ABOVE).symm.trans (eqv_i (Term.int_eval _) u22))
  obtain ⟨n, o, h1, h2, h3, _, L, rfl, ⟨rfl, N⟩, hq⟩ := rm0 l s _ hw tables_1 i0 ad_EQUAL ad_NOT_EQUAL ad_AT_MOST ad_BELOW ad_AT_LEAST ad_ABOVE s.heap s.heap.size (Nat.le_refl _) S_EQUAL E_EQUAL F_EQUAL_ordinal S_NOT_EQUAL E_NOT_EQUAL F_NOT_EQUAL_ordinal S_AT_MOST E_AT_MOST F_AT_MOST_ordinal S_BELOW E_BELOW F_BELOW_ordinal S_AT_LEAST E_AT_LEAST F_AT_LEAST_ordinal S_ABOVE E_ABOVE F_ABOVE_ordinal p e ha hc hk s m _ below hf ((Spec.applies_iff_loose hf).mp happ).1 ⟨rfl, State.Warmed39.refl s, rfl⟩ trivial
  refine ⟨n, _, h1, h2, h3, hpost _ _ _ _ _ _ ⟨Cond.after_iff.mpr rfl, Cond.after_iff.mpr (eq_i res_at (Term.int_eval (1)) rfl), trivial⟩ ⟨hq.1, hq.2.1, (hq.2.2.sift fun y hy => Or.inr (N y hy)).mono (by decide) (by decide)⟩⟩
theorem main_1_1 : Claimed_1_1 := comes_1 fun _ _ _ _ _ _ h hF => ⟨h.1, hF⟩
theorem main_1_2 : Claimed_1_2 := comes_1 fun _ _ _ _ _ _ h hF => ⟨h.2.1, hF⟩
end Jvm.Pilot.@@N@@
namespace Jvm.Pilot.@@N@@
open Jvm Jvm.ClassFile Sem Op Lib Jvm.Free Jvm.Stand Jvm.Pilot.@@N@@.Jvm.D
/-! MADE BY PROGRAM (witnessworld.py) out of the Statement's table words and the real class files: 12 classes; the members and pool entries that the words name. The judged class is class 1, her method 2. -/
namespace start1
open Jvm.ClassFile
def u (s : String) : CpInfo := .utf8 (stringToUtf16 s)
/-- a pool by its gaps: so many unusable entries, then the entry; so many at the end -/
def gap : Nat → List CpInfo → List CpInfo
  | 0, r => r
  | n + 1, r => .unusable :: gap n r
def poolList (es : List (Nat × CpInfo)) (last : Nat) : List CpInfo := es.foldr (fun e r => gap e.1 (e.2 :: r)) (gap last [])
def pool (es : List (Nat × CpInfo)) (last : Nat) : Array CpInfo := ⟨poolList es last⟩
def fileOf (pool : Array CpInfo) (this : Nat) (attrs : Array Attribute := #[]) (ms : Array MethodInfo := #[]) (fl : Nat := 33) (sup : Nat := 0) (ifs : Array Nat := #[]) (fds : Array FieldInfo := #[]) : ClassFile where
  minorVersion := 0
  majorVersion := 65
  constantPool := pool
  accessFlags := fl
  thisClass := this
  superClass := sup
  interfaces := ifs
  fields := fds
  methods := ms
  attributes := attrs
def plain (name : String) (sup : Option ClassId) : Class where
  name := name
  kind := .ordinary
  loader := none
  accessFlags := 33
  super := sup
  interfaces := #[]
  cf := none
  fields := #[]
  methods := #[]
  instanceTypes := #[]
  staticTypes := #[]
  resolved := #[]
  callSites := []
  init := .initialized
  statics := none
  mirror := none

def pool0 : Array CpInfo := pool [(5, u "<init>"), (0, u "()V"), (1, .class_ 10), (1, u "java/lang/Object")] 113

def k0m0 : Method := { name := "<init>", desc := "()V", sig := { parameters := [], returnType := none }, accessFlags := 1, code := none }
/-- java/lang/Object -/
def k0 : Class := { plain "java/lang/Object" none with
  accessFlags := 33
  interfaces := #[]
  cf := some (fileOf pool0 8 #[] #[{ accessFlags := 1, nameIndex := 5, descriptorIndex := 6, attributes := #[] }] 33 0 #[] #[])
  fields := #[]
  methods := #[k0m0]
  instanceTypes := #[]
  staticTypes := #[]
  resolved := Array.replicate 124 none
  statics := none }

def pool1 : Array CpInfo := pool [(2, .class_ 4), (1, u "java/lang/Object"), (0, u "<init>"), (0, u "()V"), (0, .methodref 8 9), (0, .class_ 10), (0, .nameAndType 11 12), (0, u "com/example/provfold/provfold/Policy$Operator"), (0, u "holds"), (0, u "(I)Z"), (0, .fieldref 8 14), (0, .nameAndType 15 16), (0, u "EQUAL"), (0, u "Lcom/example/provfold/provfold/Policy$Operator;"), (0, .methodref 18 19), (0, .class_ 20), (0, .nameAndType 21 22), (0, u "com/example/provfold/provfold/OperatorHoldsPinLaw"), (0, u "check"), (0, u "(Lcom/example/provfold/provfold/Policy$Operator;IZZZ)Z"), (0, .fieldref 8 24), (0, .nameAndType 25 16), (0, u "NOT_EQUAL"), (0, .fieldref 8 27), (0, .nameAndType 28 16), (0, u "AT_MOST"), (0, .fieldref 8 30), (0, .nameAndType 31 16), (0, u "BELOW"), (0, .fieldref 8 33), (0, .nameAndType 34 16), (0, u "AT_LEAST"), (0, .fieldref 8 36), (0, .nameAndType 37 16), (0, u "ABOVE"), (3, u "law")] 6

def k1m0 : Method := { name := "<init>", desc := "()V", sig := { parameters := [], returnType := none }, accessFlags := 2, code := none }
def k1c1 : Code := { maxStack := 2, maxLocals := 6, code := method_2_code, exceptionTable := #[], attributes := #[] }
def k1m1 : Method := { name := "check", desc := "(Lcom/example/provfold/provfold/Policy$Operator;IZZZ)Z", sig := { parameters := [(.object "com/example/provfold/provfold/Policy$Operator"), .int, .boolean, .boolean, .boolean], returnType := some .boolean }, accessFlags := 10, code := some k1c1 }
def k1c2 : Code := { maxStack := 5, maxLocals := 7, code := code, exceptionTable := #[], attributes := #[] }
def k1m2 : Method := { name := "law", desc := "(I)Z", sig := { parameters := [.int], returnType := some .boolean }, accessFlags := 9, code := some k1c2 }
/-- com/example/provfold/provfold/OperatorHoldsPinLaw -/
def k1 : Class := { plain "com/example/provfold/provfold/OperatorHoldsPinLaw" (some 0) with
  accessFlags := 49
  interfaces := #[]
  cf := some (fileOf pool1 18 #[] #[{ accessFlags := 2, nameIndex := 5, descriptorIndex := 6, attributes := #[] }, { accessFlags := 10, nameIndex := 21, descriptorIndex := 22, attributes := #[] }, { accessFlags := 9, nameIndex := 41, descriptorIndex := 12, attributes := #[] }] 49 2 #[] #[])
  fields := #[]
  methods := #[k1m0, k1m1, k1m2]
  instanceTypes := #[]
  staticTypes := #[]
  resolved := Array.replicate 48 none
  statics := none }

def pool2 : Array CpInfo := pool [(1, .class_ 2), (0, u "java/lang/constant/Constable"), (0, .class_ 4), (0, u "java/lang/Object")] 6

/-- java/lang/constant/Constable -/
def k2 : Class := { plain "java/lang/constant/Constable" (some 0) with
  accessFlags := 1537
  interfaces := #[]
  cf := some (fileOf pool2 1 #[] #[] 1537 3 #[] #[])
  fields := #[]
  methods := #[]
  instanceTypes := #[]
  staticTypes := #[]
  resolved := Array.replicate 11 none
  statics := none }

def pool3 : Array CpInfo := pool [(1, .class_ 2), (0, u "java/lang/Comparable"), (0, .class_ 4), (0, u "java/lang/Object")] 7

/-- java/lang/Comparable -/
def k3 : Class := { plain "java/lang/Comparable" (some 0) with
  accessFlags := 1537
  interfaces := #[]
  cf := some (fileOf pool3 1 #[] #[] 1537 3 #[] #[])
  fields := #[]
  methods := #[]
  instanceTypes := #[]
  staticTypes := #[]
  resolved := Array.replicate 12 none
  statics := none }

def pool4 : Array CpInfo := pool [(1, .class_ 2), (0, u "java/io/Serializable"), (0, .class_ 4), (0, u "java/lang/Object")] 2

/-- java/io/Serializable -/
def k4 : Class := { plain "java/io/Serializable" (some 0) with
  accessFlags := 1537
  interfaces := #[]
  cf := some (fileOf pool4 1 #[] #[] 1537 3 #[] #[])
  fields := #[]
  methods := #[]
  instanceTypes := #[]
  staticTypes := #[]
  resolved := Array.replicate 7 none
  statics := none }

def pool5 : Array CpInfo := pool [(2, .class_ 4), (1, u "java/lang/Enum"), (0, u "name"), (0, u "Ljava/lang/String;"), (0, .fieldref 2 8), (0, .nameAndType 9 10), (0, u "ordinal"), (0, u "I"), (1, .class_ 14), (1, u "java/lang/Object"), (4, u "hash"), (86, .class_ 108), (1, u "java/lang/Enum$EnumDesc"), (2, .class_ 112), (0, u "java/lang/constant/Constable"), (0, .class_ 114), (0, u "java/lang/Comparable"), (0, .class_ 116), (0, u "java/io/Serializable"), (9, u "()I")] 77

def k5c0 : Code := { maxStack := 1, maxLocals := 1, code := jdk_37_method_2_code, exceptionTable := #[], attributes := #[] }
def k5m0 : Method := { name := "ordinal", desc := "()I", sig := { parameters := [], returnType := some .int }, accessFlags := 17, code := some k5c0 }
/-- java/lang/Enum -/
def k5 : Class := { plain "java/lang/Enum" (some 0) with
  accessFlags := 1057
  interfaces := #[2, 3, 4]
  cf := some (fileOf pool5 2 #[.nestMembers #[106]] #[{ accessFlags := 17, nameIndex := 9, descriptorIndex := 126, attributes := #[] }] 1057 12 #[111, 113, 115] #[{ accessFlags := 18, nameIndex := 5, descriptorIndex := 6, attributes := #[] }, { accessFlags := 18, nameIndex := 9, descriptorIndex := 10, attributes := #[] }, { accessFlags := 2, nameIndex := 19, descriptorIndex := 10, attributes := #[] }])
  fields := #[{ name := "name", type := (.object "java/lang/String"), accessFlags := 18, slot := 0, constantValue := 0 }, { name := "ordinal", type := .int, accessFlags := 18, slot := 1, constantValue := 0 }, { name := "hash", type := .int, accessFlags := 2, slot := 2, constantValue := 0 }]
  methods := #[k5m0]
  instanceTypes := #[(.object "java/lang/String"), .int, .int]
  staticTypes := #[]
  resolved := Array.replicate 204 none
  statics := none }

def pool6 : Array CpInfo := pool [(1, .class_ 2), (0, u "com/example/provfold/provfold/Policy$Operator"), (2, u "EQUAL"), (0, u "Lcom/example/provfold/provfold/Policy$Operator;"), (2, u "NOT_EQUAL"), (2, u "AT_MOST"), (2, u "BELOW"), (2, u "AT_LEAST"), (2, u "ABOVE"), (2, u "$VALUES"), (0, u "[Lcom/example/provfold/provfold/Policy$Operator;"), (6, .class_ 34), (1, u "java/lang/Enum"), (8, u "symbol"), (0, u "Ljava/lang/String;"), (0, .methodref 1 46), (0, .nameAndType 47 48), (0, u "ordinal"), (0, u "()I"), (38, u "holds"), (0, u "(I)Z"), (7, .class_ 97), (0, u "com/example/provfold/provfold/Policy")] 2

def k6c0 : Code := { maxStack := 4, maxLocals := 2, code := prog_30_method_5_code, exceptionTable := #[], attributes := #[] }
def k6m0 : Method := { name := "holds", desc := "(I)Z", sig := { parameters := [.int], returnType := some .boolean }, accessFlags := 0, code := some k6c0 }
/-- com/example/provfold/provfold/Policy$Operator -/
def k6 : Class := { plain "com/example/provfold/provfold/Policy$Operator" (some 5) with
  accessFlags := 16432
  interfaces := #[]
  cf := some (fileOf pool6 1 #[.nestHost 96] #[{ accessFlags := 0, nameIndex := 87, descriptorIndex := 88, attributes := #[] }] 16432 32 #[] #[{ accessFlags := 16409, nameIndex := 5, descriptorIndex := 6, attributes := #[] }, { accessFlags := 16409, nameIndex := 9, descriptorIndex := 6, attributes := #[] }, { accessFlags := 16409, nameIndex := 12, descriptorIndex := 6, attributes := #[] }, { accessFlags := 16409, nameIndex := 15, descriptorIndex := 6, attributes := #[] }, { accessFlags := 16409, nameIndex := 18, descriptorIndex := 6, attributes := #[] }, { accessFlags := 16409, nameIndex := 21, descriptorIndex := 6, attributes := #[] }, { accessFlags := 18, nameIndex := 43, descriptorIndex := 44, attributes := #[] }, { accessFlags := 4122, nameIndex := 24, descriptorIndex := 25, attributes := #[] }])
  fields := #[{ name := "EQUAL", type := (.object "com/example/provfold/provfold/Policy$Operator"), accessFlags := 16409, slot := 0, constantValue := 0 }, { name := "NOT_EQUAL", type := (.object "com/example/provfold/provfold/Policy$Operator"), accessFlags := 16409, slot := 1, constantValue := 0 }, { name := "AT_MOST", type := (.object "com/example/provfold/provfold/Policy$Operator"), accessFlags := 16409, slot := 2, constantValue := 0 }, { name := "BELOW", type := (.object "com/example/provfold/provfold/Policy$Operator"), accessFlags := 16409, slot := 3, constantValue := 0 }, { name := "AT_LEAST", type := (.object "com/example/provfold/provfold/Policy$Operator"), accessFlags := 16409, slot := 4, constantValue := 0 }, { name := "ABOVE", type := (.object "com/example/provfold/provfold/Policy$Operator"), accessFlags := 16409, slot := 5, constantValue := 0 }, { name := "symbol", type := (.object "java/lang/String"), accessFlags := 18, slot := 3, constantValue := 0 }, { name := "$VALUES", type := (.array (.object "com/example/provfold/provfold/Policy$Operator")), accessFlags := 4122, slot := 6, constantValue := 0 }]
  methods := #[k6m0]
  instanceTypes := #[(.object "java/lang/String"), .int, .int, (.object "java/lang/String")]
  staticTypes := #[(.object "com/example/provfold/provfold/Policy$Operator"), (.object "com/example/provfold/provfold/Policy$Operator"), (.object "com/example/provfold/provfold/Policy$Operator"), (.object "com/example/provfold/provfold/Policy$Operator"), (.object "com/example/provfold/provfold/Policy$Operator"), (.object "com/example/provfold/provfold/Policy$Operator"), (.array (.object "com/example/provfold/provfold/Policy$Operator"))]
  resolved := Array.replicate 100 none
  statics := some 0 }

def pool7 : Array CpInfo := pool [(1, u "java/lang/Cloneable"), (0, .class_ 1), (0, u "java/lang/Object"), (0, .class_ 3)] 3

/-- java/lang/Cloneable -/
def k7 : Class := { plain "java/lang/Cloneable" (some 0) with
  accessFlags := 1537
  interfaces := #[]
  cf := some (fileOf pool7 2 #[] #[] 1537 4 #[] #[])
  fields := #[]
  methods := #[]
  instanceTypes := #[]
  staticTypes := #[]
  resolved := Array.replicate 8 none
  statics := none }

/-- the primitive byte -/
def k8 : Class := { plain "byte" none with kind := .primitive 'B', accessFlags := 0x411 }
/-- [B -/
def k9 : Class := { plain "[B" (some 0) with kind := .array 8 .byte, interfaces := #[7, 4], accessFlags := 1041 }

/-- the primitive int -/
def k10 : Class := { plain "int" none with kind := .primitive 'I', accessFlags := 0x411 }
/-- [I -/
def k11 : Class := { plain "[I" (some 0) with kind := .array 10 .int, interfaces := #[7, 4], accessFlags := 1041 }

def heap : Heap := #[{ cls := 6, slots := #[.ref 1, .ref 2, .ref 3, .ref 4, .ref 5, .ref 6, .null], vm := .statics 6 },
  { cls := 6, slots := #[.null, .int 0, .int 0, .null], vm := .none },
  { cls := 6, slots := #[.null, .int 1, .int 0, .null], vm := .none },
  { cls := 6, slots := #[.null, .int 2, .int 0, .null], vm := .none },
  { cls := 6, slots := #[.null, .int 3, .int 0, .null], vm := .none },
  { cls := 6, slots := #[.null, .int 4, .int 0, .null], vm := .none },
  { cls := 6, slots := #[.null, .int 5, .int 0, .null], vm := .none }]
def classes : Array Class := #[k0, k1, k2, k3, k4, k5, k6, k7, k8, k9, k10, k11]
def interned : List (Array UInt16 × Addr) := []
def slotsUsed : Nat := 31
def theMethod : MethodId := ⟨1, 2⟩
def args0 : Array Value := #[.int 5]
def aboutOver (below : List Frame) : State where
  vm := { classes := classes, interned := interned.toArray }
  heap := heap
  slotsUsed := slotsUsed
  threads := #[{ frames := .invoking theMethod args0 :: below }]
def below0 : List Frame := [.native { method := ⟨0, 0⟩, args := #[] }]
def about1 : State := aboutOver below0
def p0 : Program := .bare "" "" ""
def e0 : Env := launch0.env 0 0 0
theorem w_frames : about1.frames = Frame.invoking theMethod args0 :: below0 := rfl
set_option maxRecDepth 65536 in
theorem w_args : argsFit about1.vm theMethod args0 = true := by decide +kernel
set_option maxRecDepth 65536 in
theorem w_heap : heapFits about1 = true := by decide +kernel
set_option maxRecDepth 65536 in
theorem w_runnable : about1.curStatus? = some .runnable := by decide +kernel
set_option maxRecDepth 65536 in
theorem w_alone : about1.alone = true := by decide +kernel
set_option maxRecDepth 65536 in
theorem w_named : about1.methodNamed? x = some theMethod := by decide +kernel
set_option maxRecDepth 65536 in
theorem w_hears : about1.hears theMethod below0 = true := by decide +kernel
set_option maxRecDepth 65536 in
theorem w_ripe : about1.ripe theMethod args0 below0 = true := by decide +kernel
theorem w_running : about1.status = .running := rfl
set_option maxRecDepth 65536 in
theorem w_room : about1.hasRoom e0.platform room_1 = true :=
  launch0.hasRoom_least _ room_1 (by decide +kernel) (by decide +kernel) (by decide +kernel) (by decide +kernel) (by decide +kernel) (by decide +kernel)
theorem allAtoms_all (ts : List Jvm.Cond) (a : Array Jvm.Value) (st : Jvm.State) : (allAtoms ts).before a st = ts.all (fun c => c.before a st) := by
  induction ts with
  | nil => rfl
  | cons c t ih =>
    show (Jvm.Cond.and c (allAtoms t)).before a st = _
    rw [Jvm.Cond.before_and, ih, List.all_cons]
def words1 : List Jvm.Cond := Jvm.Cond.code x code maxLocals ret :: tables_1
/-- a 'code' word, met by the world's own term for the bytes: nothing is compared byte by byte -/
theorem code_word {y : MethodName} {bytes : ByteArray} {mx : Nat} {rt : Option FieldType} {a : Array Value} {s : State} {m : MethodId} {meth : Method} {c : Code} (h1 : s.methodNamed? y = some m) (h2 : s.vm.method? m = some meth) (h3 : meth.code = some c) (h4 : c.code = bytes)
    (h5 : (c.maxLocals == mx && c.exceptionTable.isEmpty && decide (c.maxStack ≤ mostOperands) && decide (meth.sig.returnType = rt) && !meth.locks && decide (parseMethodDescriptor y.desc = some meth.sig)) = true) : (Jvm.Cond.code y bytes mx rt).before a s = true := by
  simp only [Bool.and_eq_true, beq_iff_eq, Bool.not_eq_true', decide_eq_true_eq] at h5
  obtain ⟨⟨⟨⟨⟨g1, g2⟩, g3⟩, g4⟩, g5⟩, g6⟩ := h5
  simp [Cond.before, Cond.holds, Cond.value, h1, h2, h3, h4, g1, g2, g3, g4, g5, g6]
def isCode : Jvm.Cond → Bool
  | .code _ _ _ _ => true
  | _ => false
theorem all_split {L : List Jvm.Cond} {P : Jvm.Cond → Bool} (h1 : L.all (fun c => isCode c || P c) = true) (h2 : ∀ c ∈ L.filter isCode, P c = true) : L.all P = true := by
  refine List.all_eq_true.mpr fun c hc => ?_
  have h := List.all_eq_true.mp h1 c hc
  rcases Bool.eq_false_or_eq_true (isCode c) with hi | hi
  · exact h2 c (List.mem_filter.mpr ⟨hc, hi⟩)
  · simpa [hi] using h
set_option maxRecDepth 65536 in
theorem w_c0 : (Jvm.Cond.code x code maxLocals ret).before args0 about1 = true := code_word (m := ⟨1, 2⟩) (meth := k1m2) (c := k1c2) (by decide +kernel) rfl rfl rfl (by decide +kernel)
set_option maxRecDepth 65536 in
theorem w_c1 : (Jvm.Cond.code ({ cls := "com/example/provfold/provfold/OperatorHoldsPinLaw", name := "check", desc := "(Lcom/example/provfold/provfold/Policy$Operator;IZZZ)Z" } : Jvm.MethodName) method_2_code (6 : Nat) (Option.some Jvm.ClassFile.FieldType.boolean)).before args0 about1 = true := code_word (m := ⟨1, 1⟩) (meth := k1m1) (c := k1c1) (by decide +kernel) rfl rfl rfl (by decide +kernel)
set_option maxRecDepth 65536 in
theorem w_c2 : (Jvm.Cond.code ({ cls := "com/example/provfold/provfold/Policy$Operator", name := "holds", desc := "(I)Z" } : Jvm.MethodName) prog_30_method_5_code (2 : Nat) (Option.some Jvm.ClassFile.FieldType.boolean)).before args0 about1 = true := code_word (m := ⟨6, 0⟩) (meth := k6m0) (c := k6c0) (by decide +kernel) rfl rfl rfl (by decide +kernel)
set_option maxRecDepth 65536 in
theorem w_c3 : (Jvm.Cond.code ({ cls := "java/lang/Enum", name := "ordinal", desc := "()I" } : Jvm.MethodName) jdk_37_method_2_code (1 : Nat) (Option.some Jvm.ClassFile.FieldType.int)).before args0 about1 = true := code_word (m := ⟨5, 0⟩) (meth := k5m0) (c := k5c0) (by decide +kernel) rfl rfl rfl (by decide +kernel)
def codes1 : List Jvm.Cond := [Jvm.Cond.code x code maxLocals ret, Jvm.Cond.code ({ cls := "com/example/provfold/provfold/OperatorHoldsPinLaw", name := "check", desc := "(Lcom/example/provfold/provfold/Policy$Operator;IZZZ)Z" } : Jvm.MethodName) method_2_code (6 : Nat) (Option.some Jvm.ClassFile.FieldType.boolean), Jvm.Cond.code ({ cls := "com/example/provfold/provfold/Policy$Operator", name := "holds", desc := "(I)Z" } : Jvm.MethodName) prog_30_method_5_code (2 : Nat) (Option.some Jvm.ClassFile.FieldType.boolean), Jvm.Cond.code ({ cls := "java/lang/Enum", name := "ordinal", desc := "()I" } : Jvm.MethodName) jdk_37_method_2_code (1 : Nat) (Option.some Jvm.ClassFile.FieldType.int)]
set_option maxRecDepth 65536 in
theorem codes_eq : words1.filter isCode = codes1 := rfl
theorem w_codes : ∀ c ∈ words1.filter isCode, c.before args0 about1 = true := by
  rw [codes_eq]
  intro c hc
  simp only [codes1, List.mem_cons, List.not_mem_nil, or_false] at hc
  rcases hc with rfl | rfl | rfl | rfl
  · exact w_c0
  · exact w_c1
  · exact w_c2
  · exact w_c3
set_option maxRecDepth 65536 in
theorem w_t1 : (words1.take 24).all (fun c => isCode c || c.before args0 about1) = true := by decide +kernel
set_option maxRecDepth 65536 in
theorem w_t2 : (words1.drop 24).all (fun c => isCode c || c.before args0 about1) = true := by decide +kernel
theorem w_tables : (allAtoms (Jvm.Cond.code x code maxLocals ret :: tables_1)).before args0 about1 = true := by
  rw [allAtoms_all]
  show words1.all (fun c => c.before args0 about1) = true
  refine all_split ?_ w_codes
  rw [← List.take_append_drop 24 words1, List.all_append, w_t1, w_t2]
  rfl
set_option maxRecDepth 65536 in
theorem w_case : (Jvm.Cond.and given_1 narrow_1).before args0 about1 = true := by decide +kernel
theorem w_applies : (headSpec (Jvm.Cond.code x code maxLocals ret :: tables_1) room_1).applies x e0.platform about1 = true :=
  (Spec.applies_iff w_frames).mpr ⟨w_running, w_runnable, w_alone, w_named, w_hears, w_ripe, w_room, w_tables⟩
theorem atStart : AtStart classFile x code maxLocals ret World_1 tables_1 room_1 Calls_1 rest_1 Pre_1 launch0 p0 e0 about1 theMethod args0 below0 :=
  ⟨lists_1, trivial, launch0.admits_env _ _ _, launch0.least_env, fairChoices_fair.cas, fairChoices_fair.clock, w_frames, w_args, w_heap, w_applies, trivial, trivial, w_case⟩
end start1
theorem witness_1 : WitnessClaimed_1 := ⟨start1.p0, start1.e0, start1.about1, start1.theMethod, start1.args0, start1.below0, start1.atStart⟩
end Jvm.Pilot.@@N@@
