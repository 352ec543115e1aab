import JvmDerived
import JvmDerived.Pilot.@@N@@Statement
import JvmDerived.Pilot.@@N@@Code
set_option linter.unusedVariables false
set_option linter.unusedSimpArgs false
namespace Jvm.RoadKit
open Sem ClassFile Op Lib Jvm.Stand Jvm.Free Jvm.LawKit
section New
variable {p : Program} {l : Launch} {e : Env} {R : Room} {s : State} {m : MethodId} {args : Array Value} {below : List Frame} {meth : Method} {c : Code} {T : State} {locs : List Loc} {cells slots : Nat}
theorem retI (X : Stand p l e R s m args below meth c T locs cells slots) (hx : p.tables.exec = Jvm.exec) {pc : Nat} {Ls : Array Slot} {z : Int32} {rest : List Value} (hret : meth.sig.returnType = some .int) (hd : decode c.code pc = .ok (.ireturn, 1)) {fs : List Frame}
    (hl : ∀ (f : JFrame) (acts : List Action), f.method = m → f.locked = none → f.entered = [] → (doReturn e (T.setTop f) acts (some (.int z))).1 = T.setFrames fs) : Steps p.tables e below (T.setTop (mkF m pc Ls (.int z :: rest))) (T.setFrames fs) := by
  have hm' : T.vm.method? m = some meth := X.method'
  have hn : narrow .int (.int z) = .int z := rfl
  show Steps p.tables e below (T.setTop { method := m, pc := pc, locals := Ls, stack := _ :: rest, locked := none }) _
  jvm_step X.here [X.here.top, hx, hd, hm', hret, hn]
  first | (intro acts; rw [hl _ acts rfl rfl rfl]) | rw [hl _ _ rfl rfl rfl]
  exact Steps.refl _
theorem own_lrem {g : JFrame} {target : State} (X : Stand p l e R s m args below meth c T locs cells slots) (hx : p.tables.exec = Jvm.exec) (hg : g.method = m) {x y : Int64} {rest : List Value} (hd : decode c.code g.pc = .ok (.lrem, 1)) (hs : g.stack = .long y :: .long x :: rest) (hy : y ≠ 0)
    (hr : Steps p.tables e below (T.setTop { g with pc := g.pc + 1, stack := .long (x % y) :: rest }) target) : Steps p.tables e below (T.setTop g) target :=
  XS.lrem X.here hx hg hd hs hy (by first | exact hr | (rw [lrem_mod]; exact hr))
end New
end Jvm.RoadKit
namespace Jvm.Pilot.@@N@@
open Jvm Jvm.ClassFile Sem Op Lib Jvm.Free Jvm.Stand Jvm.LawKit Jvm.RoadKit Bundle Jvm.Pilot.@@N@@.Jvm.D
/-- from the state A the body returns with QQ -/
def own_Go (p : Program) (e : Env) (below : List Frame) (s : State) (QQ : Option Value → Heap → List Loc → Prop) (k n : Nat) (A : State) : Prop :=
  ∃ U o, Steps p.tables e below A U ∧ U.status = .running ∧ Ended U below o ∧ ∃ v L, o = .returned v ∧ QQ v U.heap L ∧ FrameEnd s o U L k n
theorem own_go {p : Program} {e : Env} {below : List Frame} {s : State} {QQ : Option Value → Heap → List Loc → Prop} {k n : Nat} {A B : State} (h : ∀ t, Steps p.tables e below B t → Steps p.tables e below A t) (g : own_Go p e below s QQ k n B) : own_Go p e below s QQ k n A := by
  obtain ⟨U, o, h1, r⟩ := g
  exact ⟨U, o, h U h1, r⟩
theorem own_ret {p : Program} {l : Launch} {e : Env} {R : Room} {s : State} {m : MethodId} {args : Array Value} {below : List Frame} {meth : Method} {c : Code} {T : State} {locs : List Loc} {cells slots : Nat} {QQ : Option Value → Heap → List Loc → Prop} {k n : Nat} {A : State}
    (X : Stand p l e R s m args below meth c T locs cells slots) {v : Option Value} (hv : meth.sig.returnType = none → v = none) (hlk : meth.locks = false) (hQ : QQ v T.heap locs) (hk : cells ≤ k) (hn : slots ≤ n)
    (st : ∀ fs, (∀ (f : JFrame) (acts : List Action), f.method = m → f.locked = none → f.entered = [] → (doReturn e (T.setTop f) acts v).1 = T.setFrames fs) → Steps p.tables e below A (T.setFrames fs)) : own_Go p e below s QQ k n A := by
  obtain ⟨fs, hr, hrun, hended, hW, hsame⟩ := X.leave hv hlk
  exact ⟨_, _, st fs hr, hrun, hended, _, _, rfl, hQ, ⟨_, rfl⟩, hW, hsame.mono hk hn⟩
def own_GoW (p : Program) (e : Env) (below : List Frame) (s : State) (QQ : Option Value → Heap → List Loc → Prop) (k n : Nat) (A : State) : Prop :=
  ∃ U o, Steps p.tables e below A U ∧ U.status = .running ∧ Ended U below o ∧ ∃ v L, o = .returned v ∧ QQ v U.heap L ∧ ReturnedEndW s o U L k n
theorem own_goW {p : Program} {e : Env} {below : List Frame} {s : State} {QQ : Option Value → Heap → List Loc → Prop} {k n : Nat} {A B : State} (h : ∀ t, Steps p.tables e below B t → Steps p.tables e below A t) (g : own_GoW p e below s QQ k n B) : own_GoW p e below s QQ k n A := by
  obtain ⟨U, o, h1, r⟩ := g
  exact ⟨U, o, h U h1, r⟩
theorem own_retW {p : Program} {l : Launch} {e : Env} {R : Room} {s : State} {vm₁ : Vm} {m : MethodId} {args : Array Value} {below : List Frame} {meth : Method} {c : Code} {T : State} {locs : List Loc} {cells slots : Nat} {QQ : Option Value → Heap → List Loc → Prop} {k n : Nat} {A : State}
    (X : Stand p l e R (s.setVm vm₁) m args below meth c T locs cells slots) {n1 : Nat} (hS : s.Since vm₁ n1) (hn1 : n1 ≤ T.heap.size) {v : Option Value} (hv : meth.sig.returnType = none → v = none) (hlk : meth.locks = false) (hQ : QQ v T.heap locs) (hk : cells ≤ k) (hn : slots ≤ n)
    (st : ∀ fs, (∀ (f : JFrame) (acts : List Action), f.method = m → f.locked = none → f.entered = [] → (doReturn e (T.setTop f) acts v).1 = T.setFrames fs) → Steps p.tables e below A (T.setFrames fs)) : own_GoW p e below s QQ k n A := by
  obtain ⟨fs, hr, hrun, hended, hq⟩ := X.leaveW hS hn1 hv hlk
  exact ⟨_, _, st fs hr, hrun, hended, _, _, rfl, hQ, hq.1, hq.2.1, hq.2.2.1, hq.2.2.2.mono hk hn⟩
/-- an array by what its places hold -/
def own_Ary (Z : State) (h : Heap) (a : Addr) (ty : FieldType) (n : Nat) (f : Nat → Value) : Prop := ∃ c : Cell, Arr Z h a c ty ∧ c.slots.size = n ∧ ∀ j, j < n → c.slots[j]? = some (f j)
def own_set (f : Nat → Value) (i : Nat) (v : Value) : Nat → Value := fun j => if j = i then v else f j
section
variable {Z : State} {h h' : Heap} {a b : Addr} {ty : FieldType} {n : Nat} {f : Nat → Value}
theorem own_Ary.lt (F : own_Ary Z h a ty n f) : a < h.size := by obtain ⟨c, A, -⟩ := F; exact A.lt
theorem own_Ary.ext (F : own_Ary Z h a ty n f) (E : Ext h h') : own_Ary Z h' a ty n f := by obtain ⟨c, A, r⟩ := F; exact ⟨c, A.ext E, r⟩
theorem own_Ary.other {sl : Nat} {v : Value} (F : own_Ary Z h b ty n f) (W : Wr h h' a sl v) (q : b ≠ a) : own_Ary Z h' b ty n f := by obtain ⟨c, A, r⟩ := F; exact ⟨c, A.other W q, r⟩
theorem own_Ary.keep {ws : List Addr} (F : own_Ary Z h a ty n f) (K : Keep h h' ws) (q : a ∉ ws) : own_Ary Z h' a ty n f := by obtain ⟨c, A, r⟩ := F; exact ⟨c, ⟨K.2.1 a c A.1 q, A.2⟩, r⟩
theorem own_Ary.new {k : ClassId} {z : Int32} (A : Arr Z h a (newA k ty z) ty) (hz : z.toNatClampNeg = n) : own_Ary Z h a ty n (fun _ => defaultValue ty) :=
  ⟨_, A, by rw [sz_new]; exact hz, fun j hj => by simp [newA, hz, hj]⟩
theorem own_Ary.set {c : Cell} {i : Nat} {v : Value} (A : Arr Z h a c ty) (S : c.slots.size = n) (G : ∀ j, j < n → c.slots[j]? = some (f j)) (W : Wr h h' a i v) : own_Ary Z h' a ty n (own_set f i v) := by
  refine ⟨_, A.same W, by rw [sz_set]; exact S, fun j hj => ?_⟩
  simp only [Cell.setSlot, Array.getElem?_setIfInBounds, own_set]
  by_cases q : j = i
  · subst q; simp [S, hj]
  · have q' : ¬ i = j := fun z => q z.symm
    simp [q, q', G j hj]
theorem own_Ary.congr {g : Nat → Value} (F : own_Ary Z h a ty n f) (q : ∀ j, j < n → f j = g j) : own_Ary Z h a ty n g := by
  obtain ⟨c, A, S, G⟩ := F; exact ⟨c, A, S, fun j hj => by rw [G j hj, q j hj]⟩
theorem own_sta_keep {C m d : String} {v : Value} (F : Sta Z h C m d v) (K : Keep h h' []) : Sta Z h' C m d v := by
  obtain ⟨cf, i, k, g, st, cell, h1, h2, h3, h4, h5, r⟩ := F
  exact ⟨cf, i, k, g, st, cell, h1, h2, h3, h4, K.2.1 _ _ h5 nin0, r⟩
theorem own_cl {j : Int32} {i : Nat} (q : j.toInt = (i : Int)) : j.toNatClampNeg = i := by
  show j.toInt.toNat = i
  rw [q]; rfl
theorem own_in {c : Cell} {j : Int32} {i : Nat} (S : c.slots.size = n) (q : j.toInt = (i : Int)) (hi : i < n) : ¬ (j < 0 ∨ c.slots.size ≤ j.toNatClampNeg) := by
  rw [own_cl q, S]
  have h0 : (0 : Int32).toInt = 0 := by decide
  intro z
  rcases z with z | z
  · have := Int32.lt_iff_toInt_lt.mp z; omega
  · omega
end
theorem pn_0 : plainName "com/example/orderwire/orderwire/venue/Account$Balance" = true := by first | (simp [plainName, overriddenIn]; done) | decide +kernel
theorem d1_0 : decode prog_35_method_1_code 0 = .ok (.aload_n 0, 1) := by decide +kernel
theorem d1_1 : decode prog_35_method_1_code 1 = .ok (.invokespecial 1, 3) := by decide +kernel
theorem d1_4 : decode prog_35_method_1_code 4 = .ok (.return_, 1) := by decide +kernel
theorem ef_1 (m : MethodId) (r0 : Addr) : entryFrame m #[(.ref r0)] 1 = mkF m 0 #[.val (.ref r0)] [] := by first | (simp [entryFrame, mkF, argsToLocals, Value.category]; done) | rfl
def Q1 (Z : State) (r0 : Addr) (h0 : Heap) (n0 : Nat) (v : Option Value) (h : Heap) (L : List Loc) : Prop := v = none ∧ Fr n0 L ∧ h = h0
set_option maxRecDepth 65536 in
set_option maxHeartbeats 40000000 in
theorem rm1 (l : Launch) (Z : State) (a0 : Array Value) (hw : ∀ d ∈ tables_1, d.before a0 Z = true) (ws : List Jvm.Cond) (r0 : Addr) (h0 : Heap) (n0 : Nat) (Z0 : n0 ≤ h0.size) :
    MetFree l (⟨"com/example/orderwire/orderwire/venue/Account$Balance", "<init>", "()V"⟩ : MethodName) (head1 (Jvm.Cond.code (⟨"com/example/orderwire/orderwire/venue/Account$Balance", "<init>", "()V"⟩ : MethodName) prog_35_method_1_code 1 none :: ws) ({ frames := 1, cells := 0, slots := 0, locals := 12 } : Room)) (fun a U => a = #[(.ref r0)] ∧ Z.Warmed39 U.vm ∧ U.heap = h0) (fun _ _ _ _ _ => True) (fun _ U o U' => ∃ v L, o = .returned v ∧ Q1 Z r0 h0 n0 v U'.heap L ∧ FrameEnd U o U' L (({ frames := 1, cells := 0, slots := 0, locals := 12 } : Room)).cells (({ frames := 1, cells := 0, slots := 0, locals := 12 } : Room)).slots) := by
  refine MetFree.of_bodySF (plainFor_of_name pn_0) hisR ?_
  intro p e s m args below meth c s₁ Bd hml0 hP hK
  obtain ⟨rfl, hZ, hh⟩ := hP
  have hx := Bd.exec
  have hby := Bd.bytes
  have hml : c.maxLocals = 1 := hml0
  have hown : s.vm.findClass "com/example/orderwire/orderwire/venue/Account$Balance" = some m.cls := findClass_of_methodNamed Bd.named
  have hnm := (name_of_methodNamed Bd.named Bd.method).1
  have hlk : meth.locks = false := Bd.notSynchronized
  have X0 : Stand p l e ({ frames := 1, cells := 0, slots := 0, locals := 12 } : Room) s m #[(.ref r0)] below meth c s₁ [] 0 0 := Stand.of_body Bd
  have e0 : s₁.heap = h0 := by rw [← hh, Bd.state]; rfl
  have N0 := Fr.nil n0
  have hret := Bd.returns
  show own_Go p e below s (Q1 Z r0 h0 n0) _ _ (s₁.setTop (entryFrame m #[(.ref r0)] 1))
  refine own_go (fun t k => castTop (ef_1 m r0) k) ?_
  show own_Go p e below s _ _ _ (s₁.setTop (mkF m 0 #[.val (.ref r0)] []))
  refine own_go (fun t k => XS.aloadN X0.here hx rfl (hb hby d1_0) rfl rfl k) ?_
  show own_Go p e below s _ _ _ (s₁.setTop (mkF m 1 #[.val (.ref r0)] [(.ref r0)]))
  obtain ⟨T1, X1, e1, st1⟩ := initO X0 hx hZ hown (hw _ (List.mem_of_getElem? (i := 6) rfl)) (hw _ (List.mem_of_getElem? (i := 7) rfl)) (hw _ (List.mem_of_getElem? (i := 8) rfl)) e0 (g := (mkF m 1 #[.val (.ref r0)] [(.ref r0)])) rfl (by rw [hml]; rfl) rfl (hb hby d1_1) (by decide) (W := 0) (by show 2 * 0 + _ ≤ _; exact Nat.le_of_eq rfl) (by decide)
  refine own_go (fun t k => st1 _ k) ?_
  show own_Go p e below s _ _ _ (T1.setTop (mkF m 4 #[.val (.ref r0)] []))
  refine own_ret X1 (v := none) (fun _ => rfl) hlk ?_ (by decide) (by decide) (fun fs hr => X1.returnOut hx hret (hb hby d1_4) hr)
  show Q1 Z r0 h0 n0 (none) T1.heap _
  rw [e1]
  exact ⟨rfl, N0, rfl⟩
theorem d3_0 : decode prog_35_method_4_code 0 = .ok (.aload_n 0, 1) := by decide +kernel
theorem d3_1 : decode prog_35_method_4_code 1 = .ok (.dup, 1) := by decide +kernel
theorem d3_2 : decode prog_35_method_4_code 2 = .ok (.getfield 7, 3) := by decide +kernel
theorem d3_5 : decode prog_35_method_4_code 5 = .ok (.lload_n 1, 1) := by decide +kernel
theorem d3_6 : decode prog_35_method_4_code 6 = .ok (.ladd, 1) := by decide +kernel
theorem d3_7 : decode prog_35_method_4_code 7 = .ok (.putfield 7, 3) := by decide +kernel
theorem d3_10 : decode prog_35_method_4_code 10 = .ok (.return_, 1) := by decide +kernel
theorem ef_3 (m : MethodId) (r0 : Addr) (q1 : Int64) : entryFrame m #[(.ref r0), (.long q1)] 3 = mkF m 0 #[.val (.ref r0), .val (.long q1), .second] [] := by first | (simp [entryFrame, mkF, argsToLocals, Value.category]; done) | rfl
def Q3 (Z : State) (r0 : Addr) (q1 : Int64) (wa : Int64) (wh : Int64) (h0 : Heap) (n0 : Nat) (v : Option Value) (h : Heap) (L : List Loc) : Prop := v = none ∧ Fr n0 L ∧ Keep h0 h [r0] ∧ Fld Z h r0 "com/example/orderwire/orderwire/venue/Account$Balance" "available" "J" (.long (wa + q1)) ∧ Fld Z h r0 "com/example/orderwire/orderwire/venue/Account$Balance" "held" "J" (.long wh)
set_option maxRecDepth 65536 in
set_option maxHeartbeats 40000000 in
theorem rm3 (l : Launch) (Z : State) (a0 : Array Value) (hw : ∀ d ∈ tables_1, d.before a0 Z = true) (ws : List Jvm.Cond) (r0 : Addr) (q1 : Int64) (wa : Int64) (wh : Int64) (h0 : Heap) (n0 : Nat) (Z0 : n0 ≤ h0.size) (A0 : Fld Z h0 r0 "com/example/orderwire/orderwire/venue/Account$Balance" "available" "J" (.long wa)) (H0 : Fld Z h0 r0 "com/example/orderwire/orderwire/venue/Account$Balance" "held" "J" (.long wh)) (E0 : Exa Z h0 r0 "com/example/orderwire/orderwire/venue/Account$Balance") (g0 : n0 ≤ r0) :
    MetFree l (⟨"com/example/orderwire/orderwire/venue/Account$Balance", "credit", "(J)V"⟩ : MethodName) (head1 (Jvm.Cond.code (⟨"com/example/orderwire/orderwire/venue/Account$Balance", "credit", "(J)V"⟩ : MethodName) prog_35_method_4_code 3 none :: ws) ({ frames := 0, cells := 0, slots := 0, locals := 0 } : Room)) (fun a U => a = #[(.ref r0), (.long q1)] ∧ Z.Warmed39 U.vm ∧ U.heap = h0) (fun _ _ _ _ _ => True) (fun _ U o U' => ∃ v L, o = .returned v ∧ Q3 Z r0 q1 wa wh h0 n0 v U'.heap L ∧ FrameEnd U o U' L (({ frames := 0, cells := 0, slots := 0, locals := 0 } : Room)).cells (({ frames := 0, cells := 0, slots := 0, locals := 0 } : Room)).slots) := by
  refine MetFree.of_bodySF (plainFor_of_name pn_0) hisR ?_
  intro p e s m args below meth c s₁ Bd hml0 hP hK
  obtain ⟨rfl, hZ, hh⟩ := hP
  have hx := Bd.exec
  have hby := Bd.bytes
  have hml : c.maxLocals = 3 := hml0
  have hown : s.vm.findClass "com/example/orderwire/orderwire/venue/Account$Balance" = some m.cls := findClass_of_methodNamed Bd.named
  have hnm := (name_of_methodNamed Bd.named Bd.method).1
  have hlk : meth.locks = false := Bd.notSynchronized
  have X0 : Stand p l e ({ frames := 0, cells := 0, slots := 0, locals := 0 } : Room) s m #[(.ref r0), (.long q1)] below meth c s₁ [] 0 0 := Stand.of_body Bd
  have e0 : s₁.heap = h0 := by rw [← hh, Bd.state]; rfl
  have N0 := Fr.nil n0
  have hret := Bd.returns
  show own_Go p e below s (Q3 Z r0 q1 wa wh h0 n0) _ _ (s₁.setTop (entryFrame m #[(.ref r0), (.long q1)] 3))
  refine own_go (fun t k => castTop (ef_3 m r0 q1) k) ?_
  show own_Go p e below s _ _ _ (s₁.setTop (mkF m 0 #[.val (.ref r0), .val (.long q1), .second] []))
  refine own_go (fun t k => XS.aloadN X0.here hx rfl (hb hby d3_0) rfl rfl k) ?_
  show own_Go p e below s _ _ _ (s₁.setTop (mkF m 1 #[.val (.ref r0), .val (.long q1), .second] [(.ref r0)]))
  refine own_go (fun t k => XS.dup X0.here hx rfl (hb hby d3_1) rfl rfl k) ?_
  show own_Go p e below s _ _ _ (s₁.setTop (mkF m 2 #[.val (.ref r0), .val (.long q1), .second] [(.ref r0), (.ref r0)]))
  obtain ⟨T1, X1, e1, st1⟩ := getF X0 hx hZ hown (host := "") (Or.inl (hw _ (List.mem_of_getElem? (i := 14) rfl))) Via.refl e0 A0 (g := (mkF m 2 #[.val (.ref r0), .val (.long q1), .second] [(.ref r0), (.ref r0)])) rfl rfl (hb hby d3_2)
  refine own_go (fun t k => st1 _ k) ?_
  show own_Go p e below s _ _ _ (T1.setTop (mkF m 5 #[.val (.ref r0), .val (.long q1), .second] [(.long wa), (.ref r0)]))
  refine own_go (fun t k => XS.lloadN X1.here hx rfl (hb hby d3_5) rfl k) ?_
  show own_Go p e below s _ _ _ (T1.setTop (mkF m 6 #[.val (.ref r0), .val (.long q1), .second] [(.long q1), (.long wa), (.ref r0)]))
  refine own_go (fun t k => XS.ladd X1.here hx rfl (hb hby d3_6) rfl k) ?_
  show own_Go p e below s _ _ _ (T1.setTop (mkF m 7 #[.val (.ref r0), .val (.long q1), .second] [(.long (wa + q1)), (.ref r0)]))
  obtain ⟨T2, h2, X2, e2, W2, st2⟩ := putF X1 hx hZ hown (host := "") (Or.inl (hw _ (List.mem_of_getElem? (i := 14) rfl))) Via.refl e1 A0 E0 (Or.inl (hw _ (List.mem_of_getElem? (i := 15) rfl))) (hw _ (List.mem_of_getElem? (i := 1) rfl)) (ty := .long) (by decide) rfl rfl (g := (mkF m 7 #[.val (.ref r0), .val (.long q1), .second] [(.long (wa + q1)), (.ref r0)])) rfl rfl (hb hby d3_7)
  refine own_go (fun t k => st2 _ k) ?_
  have N2 := Fr.snoc X2 N0 g0
  have ZZ_2 : n0 ≤ h2.size := Nat.le_trans Z0 (Nat.le_of_eq W2.size.symm)
  have FH_2 : Fld Z h2 r0 "com/example/orderwire/orderwire/venue/Account$Balance" "held" "J" (.long wh) := H0.other W2 (Or.inr (slot_ne (Or.inl (hw _ (List.mem_of_getElem? (i := 22) rfl))) (Or.inl (hw _ (List.mem_of_getElem? (i := 15) rfl))) (by decide) (t := .long) (t' := .long) (by decide) (by decide)))
  have EE_2 : Exa Z h2 r0 "com/example/orderwire/orderwire/venue/Account$Balance" := E0.wr W2
  have FA_2 : Fld Z h2 r0 "com/example/orderwire/orderwire/venue/Account$Balance" "available" "J" (.long (wa + q1)) := A0.same W2
  have K2 : Keep h0 h2 [r0] := (Keep.refl h0 [r0]).wr W2 (Or.inl (by simp))
  show own_Go p e below s _ _ _ (T2.setTop (mkF m 10 #[.val (.ref r0), .val (.long q1), .second] []))
  refine own_ret X2 (v := none) (fun _ => rfl) hlk ?_ (by decide) (by decide) (fun fs hr => X2.returnOut hx hret (hb hby d3_10) hr)
  show Q3 Z r0 q1 wa wh h0 n0 (none) T2.heap _
  rw [e2]
  exact ⟨rfl, N2, K2, FA_2, FH_2⟩
theorem d4_0 : decode prog_35_method_6_code 0 = .ok (.aload_n 0, 1) := by decide +kernel
theorem d4_1 : decode prog_35_method_6_code 1 = .ok (.dup, 1) := by decide +kernel
theorem d4_2 : decode prog_35_method_6_code 2 = .ok (.getfield 7, 3) := by decide +kernel
theorem d4_5 : decode prog_35_method_6_code 5 = .ok (.lload_n 1, 1) := by decide +kernel
theorem d4_6 : decode prog_35_method_6_code 6 = .ok (.lsub, 1) := by decide +kernel
theorem d4_7 : decode prog_35_method_6_code 7 = .ok (.putfield 7, 3) := by decide +kernel
theorem d4_10 : decode prog_35_method_6_code 10 = .ok (.aload_n 0, 1) := by decide +kernel
theorem d4_11 : decode prog_35_method_6_code 11 = .ok (.dup, 1) := by decide +kernel
theorem d4_12 : decode prog_35_method_6_code 12 = .ok (.getfield 13, 3) := by decide +kernel
theorem d4_15 : decode prog_35_method_6_code 15 = .ok (.lload_n 1, 1) := by decide +kernel
theorem d4_16 : decode prog_35_method_6_code 16 = .ok (.ladd, 1) := by decide +kernel
theorem d4_17 : decode prog_35_method_6_code 17 = .ok (.putfield 13, 3) := by decide +kernel
theorem d4_20 : decode prog_35_method_6_code 20 = .ok (.return_, 1) := by decide +kernel
theorem ef_4 (m : MethodId) (r0 : Addr) (q1 : Int64) : entryFrame m #[(.ref r0), (.long q1)] 3 = mkF m 0 #[.val (.ref r0), .val (.long q1), .second] [] := by first | (simp [entryFrame, mkF, argsToLocals, Value.category]; done) | rfl
def Q4 (Z : State) (r0 : Addr) (q1 : Int64) (wa : Int64) (wh : Int64) (h0 : Heap) (n0 : Nat) (v : Option Value) (h : Heap) (L : List Loc) : Prop := v = none ∧ Fr n0 L ∧ Keep h0 h [r0] ∧ Fld Z h r0 "com/example/orderwire/orderwire/venue/Account$Balance" "available" "J" (.long (wa - q1)) ∧ Fld Z h r0 "com/example/orderwire/orderwire/venue/Account$Balance" "held" "J" (.long (wh + q1))
set_option maxRecDepth 65536 in
set_option maxHeartbeats 40000000 in
theorem rm4 (l : Launch) (Z : State) (a0 : Array Value) (hw : ∀ d ∈ tables_1, d.before a0 Z = true) (ws : List Jvm.Cond) (r0 : Addr) (q1 : Int64) (wa : Int64) (wh : Int64) (h0 : Heap) (n0 : Nat) (Z0 : n0 ≤ h0.size) (A0 : Fld Z h0 r0 "com/example/orderwire/orderwire/venue/Account$Balance" "available" "J" (.long wa)) (H0 : Fld Z h0 r0 "com/example/orderwire/orderwire/venue/Account$Balance" "held" "J" (.long wh)) (E0 : Exa Z h0 r0 "com/example/orderwire/orderwire/venue/Account$Balance") (g0 : n0 ≤ r0) :
    MetFree l (⟨"com/example/orderwire/orderwire/venue/Account$Balance", "hold", "(J)V"⟩ : MethodName) (head1 (Jvm.Cond.code (⟨"com/example/orderwire/orderwire/venue/Account$Balance", "hold", "(J)V"⟩ : MethodName) prog_35_method_6_code 3 none :: ws) ({ frames := 0, cells := 0, slots := 0, locals := 0 } : Room)) (fun a U => a = #[(.ref r0), (.long q1)] ∧ Z.Warmed39 U.vm ∧ U.heap = h0) (fun _ _ _ _ _ => True) (fun _ U o U' => ∃ v L, o = .returned v ∧ Q4 Z r0 q1 wa wh h0 n0 v U'.heap L ∧ FrameEnd U o U' L (({ frames := 0, cells := 0, slots := 0, locals := 0 } : Room)).cells (({ frames := 0, cells := 0, slots := 0, locals := 0 } : Room)).slots) := by
  refine MetFree.of_bodySF (plainFor_of_name pn_0) hisR ?_
  intro p e s m args below meth c s₁ Bd hml0 hP hK
  obtain ⟨rfl, hZ, hh⟩ := hP
  have hx := Bd.exec
  have hby := Bd.bytes
  have hml : c.maxLocals = 3 := hml0
  have hown : s.vm.findClass "com/example/orderwire/orderwire/venue/Account$Balance" = some m.cls := findClass_of_methodNamed Bd.named
  have hnm := (name_of_methodNamed Bd.named Bd.method).1
  have hlk : meth.locks = false := Bd.notSynchronized
  have X0 : Stand p l e ({ frames := 0, cells := 0, slots := 0, locals := 0 } : Room) s m #[(.ref r0), (.long q1)] below meth c s₁ [] 0 0 := Stand.of_body Bd
  have e0 : s₁.heap = h0 := by rw [← hh, Bd.state]; rfl
  have N0 := Fr.nil n0
  have hret := Bd.returns
  show own_Go p e below s (Q4 Z r0 q1 wa wh h0 n0) _ _ (s₁.setTop (entryFrame m #[(.ref r0), (.long q1)] 3))
  refine own_go (fun t k => castTop (ef_4 m r0 q1) k) ?_
  show own_Go p e below s _ _ _ (s₁.setTop (mkF m 0 #[.val (.ref r0), .val (.long q1), .second] []))
  refine own_go (fun t k => XS.aloadN X0.here hx rfl (hb hby d4_0) rfl rfl k) ?_
  show own_Go p e below s _ _ _ (s₁.setTop (mkF m 1 #[.val (.ref r0), .val (.long q1), .second] [(.ref r0)]))
  refine own_go (fun t k => XS.dup X0.here hx rfl (hb hby d4_1) rfl rfl k) ?_
  show own_Go p e below s _ _ _ (s₁.setTop (mkF m 2 #[.val (.ref r0), .val (.long q1), .second] [(.ref r0), (.ref r0)]))
  obtain ⟨T1, X1, e1, st1⟩ := getF X0 hx hZ hown (host := "") (Or.inl (hw _ (List.mem_of_getElem? (i := 14) rfl))) Via.refl e0 A0 (g := (mkF m 2 #[.val (.ref r0), .val (.long q1), .second] [(.ref r0), (.ref r0)])) rfl rfl (hb hby d4_2)
  refine own_go (fun t k => st1 _ k) ?_
  show own_Go p e below s _ _ _ (T1.setTop (mkF m 5 #[.val (.ref r0), .val (.long q1), .second] [(.long wa), (.ref r0)]))
  refine own_go (fun t k => XS.lloadN X1.here hx rfl (hb hby d4_5) rfl k) ?_
  show own_Go p e below s _ _ _ (T1.setTop (mkF m 6 #[.val (.ref r0), .val (.long q1), .second] [(.long q1), (.long wa), (.ref r0)]))
  refine own_go (fun t k => XS.lsub X1.here hx rfl (hb hby d4_6) rfl k) ?_
  show own_Go p e below s _ _ _ (T1.setTop (mkF m 7 #[.val (.ref r0), .val (.long q1), .second] [(.long (wa - q1)), (.ref r0)]))
  obtain ⟨T2, h2, X2, e2, W2, st2⟩ := putF X1 hx hZ hown (host := "") (Or.inl (hw _ (List.mem_of_getElem? (i := 14) rfl))) Via.refl e1 A0 E0 (Or.inl (hw _ (List.mem_of_getElem? (i := 15) rfl))) (hw _ (List.mem_of_getElem? (i := 1) rfl)) (ty := .long) (by decide) rfl rfl (g := (mkF m 7 #[.val (.ref r0), .val (.long q1), .second] [(.long (wa - q1)), (.ref r0)])) rfl rfl (hb hby d4_7)
  refine own_go (fun t k => st2 _ k) ?_
  have N2 := Fr.snoc X2 N0 g0
  have ZZ_2 : n0 ≤ h2.size := Nat.le_trans Z0 (Nat.le_of_eq W2.size.symm)
  have FH_2 : Fld Z h2 r0 "com/example/orderwire/orderwire/venue/Account$Balance" "held" "J" (.long wh) := H0.other W2 (Or.inr (slot_ne (Or.inl (hw _ (List.mem_of_getElem? (i := 22) rfl))) (Or.inl (hw _ (List.mem_of_getElem? (i := 15) rfl))) (by decide) (t := .long) (t' := .long) (by decide) (by decide)))
  have EE_2 : Exa Z h2 r0 "com/example/orderwire/orderwire/venue/Account$Balance" := E0.wr W2
  have FA_2 : Fld Z h2 r0 "com/example/orderwire/orderwire/venue/Account$Balance" "available" "J" (.long (wa - q1)) := A0.same W2
  have K2 : Keep h0 h2 [r0] := (Keep.refl h0 [r0]).wr W2 (Or.inl (by simp))
  show own_Go p e below s _ _ _ (T2.setTop (mkF m 10 #[.val (.ref r0), .val (.long q1), .second] []))
  refine own_go (fun t k => XS.aloadN X2.here hx rfl (hb hby d4_10) rfl rfl k) ?_
  show own_Go p e below s _ _ _ (T2.setTop (mkF m 11 #[.val (.ref r0), .val (.long q1), .second] [(.ref r0)]))
  refine own_go (fun t k => XS.dup X2.here hx rfl (hb hby d4_11) rfl rfl k) ?_
  show own_Go p e below s _ _ _ (T2.setTop (mkF m 12 #[.val (.ref r0), .val (.long q1), .second] [(.ref r0), (.ref r0)]))
  obtain ⟨T3, X3, e3, st3⟩ := getF X2 hx hZ hown (host := "") (Or.inl (hw _ (List.mem_of_getElem? (i := 21) rfl))) Via.refl e2 FH_2 (g := (mkF m 12 #[.val (.ref r0), .val (.long q1), .second] [(.ref r0), (.ref r0)])) rfl rfl (hb hby d4_12)
  refine own_go (fun t k => st3 _ k) ?_
  show own_Go p e below s _ _ _ (T3.setTop (mkF m 15 #[.val (.ref r0), .val (.long q1), .second] [(.long wh), (.ref r0)]))
  refine own_go (fun t k => XS.lloadN X3.here hx rfl (hb hby d4_15) rfl k) ?_
  show own_Go p e below s _ _ _ (T3.setTop (mkF m 16 #[.val (.ref r0), .val (.long q1), .second] [(.long q1), (.long wh), (.ref r0)]))
  refine own_go (fun t k => XS.ladd X3.here hx rfl (hb hby d4_16) rfl k) ?_
  show own_Go p e below s _ _ _ (T3.setTop (mkF m 17 #[.val (.ref r0), .val (.long q1), .second] [(.long (wh + q1)), (.ref r0)]))
  obtain ⟨T4, h4, X4, e4, W4, st4⟩ := putF X3 hx hZ hown (host := "") (Or.inl (hw _ (List.mem_of_getElem? (i := 21) rfl))) Via.refl e3 FH_2 EE_2 (Or.inl (hw _ (List.mem_of_getElem? (i := 22) rfl))) (hw _ (List.mem_of_getElem? (i := 1) rfl)) (ty := .long) (by decide) rfl rfl (g := (mkF m 17 #[.val (.ref r0), .val (.long q1), .second] [(.long (wh + q1)), (.ref r0)])) rfl rfl (hb hby d4_17)
  refine own_go (fun t k => st4 _ k) ?_
  have N4 := Fr.snoc X4 N2 g0
  have ZZ_4 : n0 ≤ h4.size := Nat.le_trans ZZ_2 (Nat.le_of_eq W4.size.symm)
  have FA_4 : Fld Z h4 r0 "com/example/orderwire/orderwire/venue/Account$Balance" "available" "J" (.long (wa - q1)) := FA_2.other W4 (Or.inr (slot_ne (Or.inl (hw _ (List.mem_of_getElem? (i := 15) rfl))) (Or.inl (hw _ (List.mem_of_getElem? (i := 22) rfl))) (by decide) (t := .long) (t' := .long) (by decide) (by decide)))
  have EE_4 : Exa Z h4 r0 "com/example/orderwire/orderwire/venue/Account$Balance" := EE_2.wr W4
  have FH_4 : Fld Z h4 r0 "com/example/orderwire/orderwire/venue/Account$Balance" "held" "J" (.long (wh + q1)) := FH_2.same W4
  have K4 : Keep h0 h4 [r0] := K2.wr W4 (Or.inl (by simp))
  show own_Go p e below s _ _ _ (T4.setTop (mkF m 20 #[.val (.ref r0), .val (.long q1), .second] []))
  refine own_ret X4 (v := none) (fun _ => rfl) hlk ?_ (by decide) (by decide) (fun fs hr => X4.returnOut hx hret (hb hby d4_20) hr)
  show Q4 Z r0 q1 wa wh h0 n0 (none) T4.heap _
  rw [e4]
  exact ⟨rfl, N4, K4, FA_4, FH_4⟩
theorem d7_0 : decode prog_35_method_7_code 0 = .ok (.aload_n 0, 1) := by decide +kernel
theorem d7_1 : decode prog_35_method_7_code 1 = .ok (.dup, 1) := by decide +kernel
theorem d7_2 : decode prog_35_method_7_code 2 = .ok (.getfield 13, 3) := by decide +kernel
theorem d7_5 : decode prog_35_method_7_code 5 = .ok (.lload_n 1, 1) := by decide +kernel
theorem d7_6 : decode prog_35_method_7_code 6 = .ok (.lsub, 1) := by decide +kernel
theorem d7_7 : decode prog_35_method_7_code 7 = .ok (.putfield 13, 3) := by decide +kernel
theorem d7_10 : decode prog_35_method_7_code 10 = .ok (.aload_n 0, 1) := by decide +kernel
theorem d7_11 : decode prog_35_method_7_code 11 = .ok (.dup, 1) := by decide +kernel
theorem d7_12 : decode prog_35_method_7_code 12 = .ok (.getfield 7, 3) := by decide +kernel
theorem d7_15 : decode prog_35_method_7_code 15 = .ok (.lload_n 1, 1) := by decide +kernel
theorem d7_16 : decode prog_35_method_7_code 16 = .ok (.ladd, 1) := by decide +kernel
theorem d7_17 : decode prog_35_method_7_code 17 = .ok (.putfield 7, 3) := by decide +kernel
theorem d7_20 : decode prog_35_method_7_code 20 = .ok (.return_, 1) := by decide +kernel
theorem ef_7 (m : MethodId) (r0 : Addr) (q1 : Int64) : entryFrame m #[(.ref r0), (.long q1)] 3 = mkF m 0 #[.val (.ref r0), .val (.long q1), .second] [] := by first | (simp [entryFrame, mkF, argsToLocals, Value.category]; done) | rfl
def Q7 (Z : State) (r0 : Addr) (q1 : Int64) (wa : Int64) (wh : Int64) (h0 : Heap) (n0 : Nat) (v : Option Value) (h : Heap) (L : List Loc) : Prop := v = none ∧ Fr n0 L ∧ Keep h0 h [r0] ∧ Fld Z h r0 "com/example/orderwire/orderwire/venue/Account$Balance" "available" "J" (.long (wa + q1)) ∧ Fld Z h r0 "com/example/orderwire/orderwire/venue/Account$Balance" "held" "J" (.long (wh - q1))
set_option maxRecDepth 65536 in
set_option maxHeartbeats 40000000 in
theorem rm7 (l : Launch) (Z : State) (a0 : Array Value) (hw : ∀ d ∈ tables_1, d.before a0 Z = true) (ws : List Jvm.Cond) (r0 : Addr) (q1 : Int64) (wa : Int64) (wh : Int64) (h0 : Heap) (n0 : Nat) (Z0 : n0 ≤ h0.size) (A0 : Fld Z h0 r0 "com/example/orderwire/orderwire/venue/Account$Balance" "available" "J" (.long wa)) (H0 : Fld Z h0 r0 "com/example/orderwire/orderwire/venue/Account$Balance" "held" "J" (.long wh)) (E0 : Exa Z h0 r0 "com/example/orderwire/orderwire/venue/Account$Balance") (g0 : n0 ≤ r0) :
    MetFree l (⟨"com/example/orderwire/orderwire/venue/Account$Balance", "release", "(J)V"⟩ : MethodName) (head1 (Jvm.Cond.code (⟨"com/example/orderwire/orderwire/venue/Account$Balance", "release", "(J)V"⟩ : MethodName) prog_35_method_7_code 3 none :: ws) ({ frames := 0, cells := 0, slots := 0, locals := 0 } : Room)) (fun a U => a = #[(.ref r0), (.long q1)] ∧ Z.Warmed39 U.vm ∧ U.heap = h0) (fun _ _ _ _ _ => True) (fun _ U o U' => ∃ v L, o = .returned v ∧ Q7 Z r0 q1 wa wh h0 n0 v U'.heap L ∧ FrameEnd U o U' L (({ frames := 0, cells := 0, slots := 0, locals := 0 } : Room)).cells (({ frames := 0, cells := 0, slots := 0, locals := 0 } : Room)).slots) := by
  refine MetFree.of_bodySF (plainFor_of_name pn_0) hisR ?_
  intro p e s m args below meth c s₁ Bd hml0 hP hK
  obtain ⟨rfl, hZ, hh⟩ := hP
  have hx := Bd.exec
  have hby := Bd.bytes
  have hml : c.maxLocals = 3 := hml0
  have hown : s.vm.findClass "com/example/orderwire/orderwire/venue/Account$Balance" = some m.cls := findClass_of_methodNamed Bd.named
  have hnm := (name_of_methodNamed Bd.named Bd.method).1
  have hlk : meth.locks = false := Bd.notSynchronized
  have X0 : Stand p l e ({ frames := 0, cells := 0, slots := 0, locals := 0 } : Room) s m #[(.ref r0), (.long q1)] below meth c s₁ [] 0 0 := Stand.of_body Bd
  have e0 : s₁.heap = h0 := by rw [← hh, Bd.state]; rfl
  have N0 := Fr.nil n0
  have hret := Bd.returns
  show own_Go p e below s (Q7 Z r0 q1 wa wh h0 n0) _ _ (s₁.setTop (entryFrame m #[(.ref r0), (.long q1)] 3))
  refine own_go (fun t k => castTop (ef_7 m r0 q1) k) ?_
  show own_Go p e below s _ _ _ (s₁.setTop (mkF m 0 #[.val (.ref r0), .val (.long q1), .second] []))
  refine own_go (fun t k => XS.aloadN X0.here hx rfl (hb hby d7_0) rfl rfl k) ?_
  show own_Go p e below s _ _ _ (s₁.setTop (mkF m 1 #[.val (.ref r0), .val (.long q1), .second] [(.ref r0)]))
  refine own_go (fun t k => XS.dup X0.here hx rfl (hb hby d7_1) rfl rfl k) ?_
  show own_Go p e below s _ _ _ (s₁.setTop (mkF m 2 #[.val (.ref r0), .val (.long q1), .second] [(.ref r0), (.ref r0)]))
  obtain ⟨T1, X1, e1, st1⟩ := getF X0 hx hZ hown (host := "") (Or.inl (hw _ (List.mem_of_getElem? (i := 21) rfl))) Via.refl e0 H0 (g := (mkF m 2 #[.val (.ref r0), .val (.long q1), .second] [(.ref r0), (.ref r0)])) rfl rfl (hb hby d7_2)
  refine own_go (fun t k => st1 _ k) ?_
  show own_Go p e below s _ _ _ (T1.setTop (mkF m 5 #[.val (.ref r0), .val (.long q1), .second] [(.long wh), (.ref r0)]))
  refine own_go (fun t k => XS.lloadN X1.here hx rfl (hb hby d7_5) rfl k) ?_
  show own_Go p e below s _ _ _ (T1.setTop (mkF m 6 #[.val (.ref r0), .val (.long q1), .second] [(.long q1), (.long wh), (.ref r0)]))
  refine own_go (fun t k => XS.lsub X1.here hx rfl (hb hby d7_6) rfl k) ?_
  show own_Go p e below s _ _ _ (T1.setTop (mkF m 7 #[.val (.ref r0), .val (.long q1), .second] [(.long (wh - q1)), (.ref r0)]))
  obtain ⟨T2, h2, X2, e2, W2, st2⟩ := putF X1 hx hZ hown (host := "") (Or.inl (hw _ (List.mem_of_getElem? (i := 21) rfl))) Via.refl e1 H0 E0 (Or.inl (hw _ (List.mem_of_getElem? (i := 22) rfl))) (hw _ (List.mem_of_getElem? (i := 1) rfl)) (ty := .long) (by decide) rfl rfl (g := (mkF m 7 #[.val (.ref r0), .val (.long q1), .second] [(.long (wh - q1)), (.ref r0)])) rfl rfl (hb hby d7_7)
  refine own_go (fun t k => st2 _ k) ?_
  have N2 := Fr.snoc X2 N0 g0
  have ZZ_2 : n0 ≤ h2.size := Nat.le_trans Z0 (Nat.le_of_eq W2.size.symm)
  have FA_2 : Fld Z h2 r0 "com/example/orderwire/orderwire/venue/Account$Balance" "available" "J" (.long wa) := A0.other W2 (Or.inr (slot_ne (Or.inl (hw _ (List.mem_of_getElem? (i := 15) rfl))) (Or.inl (hw _ (List.mem_of_getElem? (i := 22) rfl))) (by decide) (t := .long) (t' := .long) (by decide) (by decide)))
  have EE_2 : Exa Z h2 r0 "com/example/orderwire/orderwire/venue/Account$Balance" := E0.wr W2
  have FH_2 : Fld Z h2 r0 "com/example/orderwire/orderwire/venue/Account$Balance" "held" "J" (.long (wh - q1)) := H0.same W2
  have K2 : Keep h0 h2 [r0] := (Keep.refl h0 [r0]).wr W2 (Or.inl (by simp))
  show own_Go p e below s _ _ _ (T2.setTop (mkF m 10 #[.val (.ref r0), .val (.long q1), .second] []))
  refine own_go (fun t k => XS.aloadN X2.here hx rfl (hb hby d7_10) rfl rfl k) ?_
  show own_Go p e below s _ _ _ (T2.setTop (mkF m 11 #[.val (.ref r0), .val (.long q1), .second] [(.ref r0)]))
  refine own_go (fun t k => XS.dup X2.here hx rfl (hb hby d7_11) rfl rfl k) ?_
  show own_Go p e below s _ _ _ (T2.setTop (mkF m 12 #[.val (.ref r0), .val (.long q1), .second] [(.ref r0), (.ref r0)]))
  obtain ⟨T3, X3, e3, st3⟩ := getF X2 hx hZ hown (host := "") (Or.inl (hw _ (List.mem_of_getElem? (i := 14) rfl))) Via.refl e2 FA_2 (g := (mkF m 12 #[.val (.ref r0), .val (.long q1), .second] [(.ref r0), (.ref r0)])) rfl rfl (hb hby d7_12)
  refine own_go (fun t k => st3 _ k) ?_
  show own_Go p e below s _ _ _ (T3.setTop (mkF m 15 #[.val (.ref r0), .val (.long q1), .second] [(.long wa), (.ref r0)]))
  refine own_go (fun t k => XS.lloadN X3.here hx rfl (hb hby d7_15) rfl k) ?_
  show own_Go p e below s _ _ _ (T3.setTop (mkF m 16 #[.val (.ref r0), .val (.long q1), .second] [(.long q1), (.long wa), (.ref r0)]))
  refine own_go (fun t k => XS.ladd X3.here hx rfl (hb hby d7_16) rfl k) ?_
  show own_Go p e below s _ _ _ (T3.setTop (mkF m 17 #[.val (.ref r0), .val (.long q1), .second] [(.long (wa + q1)), (.ref r0)]))
  obtain ⟨T4, h4, X4, e4, W4, st4⟩ := putF X3 hx hZ hown (host := "") (Or.inl (hw _ (List.mem_of_getElem? (i := 14) rfl))) Via.refl e3 FA_2 EE_2 (Or.inl (hw _ (List.mem_of_getElem? (i := 15) rfl))) (hw _ (List.mem_of_getElem? (i := 1) rfl)) (ty := .long) (by decide) rfl rfl (g := (mkF m 17 #[.val (.ref r0), .val (.long q1), .second] [(.long (wa + q1)), (.ref r0)])) rfl rfl (hb hby d7_17)
  refine own_go (fun t k => st4 _ k) ?_
  have N4 := Fr.snoc X4 N2 g0
  have ZZ_4 : n0 ≤ h4.size := Nat.le_trans ZZ_2 (Nat.le_of_eq W4.size.symm)
  have FH_4 : Fld Z h4 r0 "com/example/orderwire/orderwire/venue/Account$Balance" "held" "J" (.long (wh - q1)) := FH_2.other W4 (Or.inr (slot_ne (Or.inl (hw _ (List.mem_of_getElem? (i := 22) rfl))) (Or.inl (hw _ (List.mem_of_getElem? (i := 15) rfl))) (by decide) (t := .long) (t' := .long) (by decide) (by decide)))
  have EE_4 : Exa Z h4 r0 "com/example/orderwire/orderwire/venue/Account$Balance" := EE_2.wr W4
  have FA_4 : Fld Z h4 r0 "com/example/orderwire/orderwire/venue/Account$Balance" "available" "J" (.long (wa + q1)) := FA_2.same W4
  have K4 : Keep h0 h4 [r0] := K2.wr W4 (Or.inl (by simp))
  show own_Go p e below s _ _ _ (T4.setTop (mkF m 20 #[.val (.ref r0), .val (.long q1), .second] []))
  refine own_ret X4 (v := none) (fun _ => rfl) hlk ?_ (by decide) (by decide) (fun fs hr => X4.returnOut hx hret (hb hby d7_20) hr)
  show Q7 Z r0 q1 wa wh h0 n0 (none) T4.heap _
  rw [e4]
  exact ⟨rfl, N4, K4, FA_4, FH_4⟩
theorem d5_0 : decode prog_35_method_2_code 0 = .ok (.aload_n 0, 1) := by decide +kernel
theorem d5_1 : decode prog_35_method_2_code 1 = .ok (.getfield 7, 3) := by decide +kernel
theorem d5_4 : decode prog_35_method_2_code 4 = .ok (.lreturn, 1) := by decide +kernel
theorem ef_5 (m : MethodId) (r0 : Addr) : entryFrame m #[(.ref r0)] 1 = mkF m 0 #[.val (.ref r0)] [] := by first | (simp [entryFrame, mkF, argsToLocals, Value.category]; done) | rfl
def Q5 (Z : State) (r0 : Addr) (wa : Int64) (wh : Int64) (h0 : Heap) (n0 : Nat) (v : Option Value) (h : Heap) (L : List Loc) : Prop := v = some (.long wa) ∧ Fr n0 L ∧ h = h0
set_option maxRecDepth 65536 in
set_option maxHeartbeats 40000000 in
theorem rm5 (l : Launch) (Z : State) (a0 : Array Value) (hw : ∀ d ∈ tables_1, d.before a0 Z = true) (ws : List Jvm.Cond) (r0 : Addr) (wa : Int64) (wh : Int64) (h0 : Heap) (n0 : Nat) (Z0 : n0 ≤ h0.size) (A0 : Fld Z h0 r0 "com/example/orderwire/orderwire/venue/Account$Balance" "available" "J" (.long wa)) :
    MetFree l (⟨"com/example/orderwire/orderwire/venue/Account$Balance", "available", "()J"⟩ : MethodName) (head1 (Jvm.Cond.code (⟨"com/example/orderwire/orderwire/venue/Account$Balance", "available", "()J"⟩ : MethodName) prog_35_method_2_code 1 (some .long) :: ws) ({ frames := 0, cells := 0, slots := 0, locals := 0 } : Room)) (fun a U => a = #[(.ref r0)] ∧ Z.Warmed39 U.vm ∧ U.heap = h0) (fun _ _ _ _ _ => True) (fun _ U o U' => ∃ v L, o = .returned v ∧ Q5 Z r0 wa wh h0 n0 v U'.heap L ∧ FrameEnd U o U' L (({ frames := 0, cells := 0, slots := 0, locals := 0 } : Room)).cells (({ frames := 0, cells := 0, slots := 0, locals := 0 } : Room)).slots) := by
  refine MetFree.of_bodySF (plainFor_of_name pn_0) hisR ?_
  intro p e s m args below meth c s₁ Bd hml0 hP hK
  obtain ⟨rfl, hZ, hh⟩ := hP
  have hx := Bd.exec
  have hby := Bd.bytes
  have hml : c.maxLocals = 1 := hml0
  have hown : s.vm.findClass "com/example/orderwire/orderwire/venue/Account$Balance" = some m.cls := findClass_of_methodNamed Bd.named
  have hnm := (name_of_methodNamed Bd.named Bd.method).1
  have hlk : meth.locks = false := Bd.notSynchronized
  have X0 : Stand p l e ({ frames := 0, cells := 0, slots := 0, locals := 0 } : Room) s m #[(.ref r0)] below meth c s₁ [] 0 0 := Stand.of_body Bd
  have e0 : s₁.heap = h0 := by rw [← hh, Bd.state]; rfl
  have N0 := Fr.nil n0
  have hret := Bd.returns
  show own_Go p e below s (Q5 Z r0 wa wh h0 n0) _ _ (s₁.setTop (entryFrame m #[(.ref r0)] 1))
  refine own_go (fun t k => castTop (ef_5 m r0) k) ?_
  show own_Go p e below s _ _ _ (s₁.setTop (mkF m 0 #[.val (.ref r0)] []))
  refine own_go (fun t k => XS.aloadN X0.here hx rfl (hb hby d5_0) rfl rfl k) ?_
  show own_Go p e below s _ _ _ (s₁.setTop (mkF m 1 #[.val (.ref r0)] [(.ref r0)]))
  obtain ⟨T1, X1, e1, st1⟩ := getF X0 hx hZ hown (host := "") (Or.inl (hw _ (List.mem_of_getElem? (i := 14) rfl))) Via.refl e0 A0 (g := (mkF m 1 #[.val (.ref r0)] [(.ref r0)])) rfl rfl (hb hby d5_1)
  refine own_go (fun t k => st1 _ k) ?_
  show own_Go p e below s _ _ _ (T1.setTop (mkF m 4 #[.val (.ref r0)] [(.long wa)]))
  refine own_ret X1 (v := some (.long wa)) (fun h => by rw [hret] at h; cases h) hlk ?_ (by decide) (by decide) (fun fs hr => X1.lreturnOut hx hret (hb hby d5_4) hr)
  show Q5 Z r0 wa wh h0 n0 (some (.long wa)) T1.heap _
  rw [e1]
  exact ⟨rfl, N0, rfl⟩
theorem d6_0 : decode prog_35_method_3_code 0 = .ok (.aload_n 0, 1) := by decide +kernel
theorem d6_1 : decode prog_35_method_3_code 1 = .ok (.getfield 13, 3) := by decide +kernel
theorem d6_4 : decode prog_35_method_3_code 4 = .ok (.lreturn, 1) := by decide +kernel
theorem ef_6 (m : MethodId) (r0 : Addr) : entryFrame m #[(.ref r0)] 1 = mkF m 0 #[.val (.ref r0)] [] := by first | (simp [entryFrame, mkF, argsToLocals, Value.category]; done) | rfl
def Q6 (Z : State) (r0 : Addr) (wa : Int64) (wh : Int64) (h0 : Heap) (n0 : Nat) (v : Option Value) (h : Heap) (L : List Loc) : Prop := v = some (.long wh) ∧ Fr n0 L ∧ h = h0
set_option maxRecDepth 65536 in
set_option maxHeartbeats 40000000 in
theorem rm6 (l : Launch) (Z : State) (a0 : Array Value) (hw : ∀ d ∈ tables_1, d.before a0 Z = true) (ws : List Jvm.Cond) (r0 : Addr) (wa : Int64) (wh : Int64) (h0 : Heap) (n0 : Nat) (Z0 : n0 ≤ h0.size) (H0 : Fld Z h0 r0 "com/example/orderwire/orderwire/venue/Account$Balance" "held" "J" (.long wh)) :
    MetFree l (⟨"com/example/orderwire/orderwire/venue/Account$Balance", "held", "()J"⟩ : MethodName) (head1 (Jvm.Cond.code (⟨"com/example/orderwire/orderwire/venue/Account$Balance", "held", "()J"⟩ : MethodName) prog_35_method_3_code 1 (some .long) :: ws) ({ frames := 0, cells := 0, slots := 0, locals := 0 } : Room)) (fun a U => a = #[(.ref r0)] ∧ Z.Warmed39 U.vm ∧ U.heap = h0) (fun _ _ _ _ _ => True) (fun _ U o U' => ∃ v L, o = .returned v ∧ Q6 Z r0 wa wh h0 n0 v U'.heap L ∧ FrameEnd U o U' L (({ frames := 0, cells := 0, slots := 0, locals := 0 } : Room)).cells (({ frames := 0, cells := 0, slots := 0, locals := 0 } : Room)).slots) := by
  refine MetFree.of_bodySF (plainFor_of_name pn_0) hisR ?_
  intro p e s m args below meth c s₁ Bd hml0 hP hK
  obtain ⟨rfl, hZ, hh⟩ := hP
  have hx := Bd.exec
  have hby := Bd.bytes
  have hml : c.maxLocals = 1 := hml0
  have hown : s.vm.findClass "com/example/orderwire/orderwire/venue/Account$Balance" = some m.cls := findClass_of_methodNamed Bd.named
  have hnm := (name_of_methodNamed Bd.named Bd.method).1
  have hlk : meth.locks = false := Bd.notSynchronized
  have X0 : Stand p l e ({ frames := 0, cells := 0, slots := 0, locals := 0 } : Room) s m #[(.ref r0)] below meth c s₁ [] 0 0 := Stand.of_body Bd
  have e0 : s₁.heap = h0 := by rw [← hh, Bd.state]; rfl
  have N0 := Fr.nil n0
  have hret := Bd.returns
  show own_Go p e below s (Q6 Z r0 wa wh h0 n0) _ _ (s₁.setTop (entryFrame m #[(.ref r0)] 1))
  refine own_go (fun t k => castTop (ef_6 m r0) k) ?_
  show own_Go p e below s _ _ _ (s₁.setTop (mkF m 0 #[.val (.ref r0)] []))
  refine own_go (fun t k => XS.aloadN X0.here hx rfl (hb hby d6_0) rfl rfl k) ?_
  show own_Go p e below s _ _ _ (s₁.setTop (mkF m 1 #[.val (.ref r0)] [(.ref r0)]))
  obtain ⟨T1, X1, e1, st1⟩ := getF X0 hx hZ hown (host := "") (Or.inl (hw _ (List.mem_of_getElem? (i := 21) rfl))) Via.refl e0 H0 (g := (mkF m 1 #[.val (.ref r0)] [(.ref r0)])) rfl rfl (hb hby d6_1)
  refine own_go (fun t k => st1 _ k) ?_
  show own_Go p e below s _ _ _ (T1.setTop (mkF m 4 #[.val (.ref r0)] [(.long wh)]))
  refine own_ret X1 (v := some (.long wh)) (fun h => by rw [hret] at h; cases h) hlk ?_ (by decide) (by decide) (fun fs hr => X1.lreturnOut hx hret (hb hby d6_4) hr)
  show Q6 Z r0 wa wh h0 n0 (some (.long wh)) T1.heap _
  rw [e1]
  exact ⟨rfl, N0, rfl⟩
theorem pn_1 : plainName "com/example/orderwire/orderwire/venue/BalanceReleasePinLaw" = true := by first | (simp [plainName, overriddenIn]; done) | decide +kernel
theorem pd_0 : parseMethodDescriptor "()V" = some ⟨[], none⟩ := by decide +kernel
theorem pd_1 : parseMethodDescriptor "(J)V" = some ⟨[.long], none⟩ := by decide +kernel
theorem pd_2 : parseMethodDescriptor "()J" = some ⟨[], some .long⟩ := by decide +kernel
theorem ef_0 (m : MethodId) (q0 : Int64) (q1 : Int64) (q2 : Int64) : entryFrame m #[(.long q0), (.long q1), (.long q2)] maxLocals = mkF m 0 #[.val (.long q0), .second, .val (.long q1), .second, .val (.long q2), .second, .unset, .unset, .unset, .unset, .unset, .unset, .unset, .unset, .unset, .unset, .unset, .unset] [] := by first | (simp [entryFrame, mkF, argsToLocals, Value.category, maxLocals]; done) | rfl
def Q0 (Z : State) (q0 : Int64) (q1 : Int64) (q2 : Int64) (h0 : Heap) (n0 : Nat) (v : Option Value) (h : Heap) (L : List Loc) : Prop := v = some (.int 1) ∧ Fr n0 L
set_option maxRecDepth 65536 in
set_option maxHeartbeats 40000000 in
theorem rm0 (l : Launch) (Z : State) (a0 : Array Value) (hw : ∀ d ∈ tables_1, d.before a0 Z = true) (ws : List Jvm.Cond) (q0 : Int64) (q1 : Int64) (q2 : Int64) (h0 : Heap) (n0 : Nat) (Z0 : n0 ≤ h0.size) :
    MetFree l x (head1 (Jvm.Cond.code x code maxLocals ret :: ws) room_1) (fun a U => a = #[(.long q0), (.long q1), (.long q2)] ∧ Z.Warmed39 U.vm ∧ U.heap = h0) (fun _ _ _ _ _ => True) (fun _ U o U' => ∃ v L, o = .returned v ∧ Q0 Z q0 q1 q2 h0 n0 v U'.heap L ∧ FrameEnd U o U' L (room_1).cells (room_1).slots) := by
  refine MetFree.of_bodySF (plainFor_of_name pn_1) hisR ?_
  intro p e s m args below meth c s₁ Bd hml0 hP hK
  obtain ⟨rfl, hZ, hh⟩ := hP
  have hx := Bd.exec
  have hby := Bd.bytes
  have hml : c.maxLocals = 18 := hml0
  have hown : s.vm.findClass "com/example/orderwire/orderwire/venue/BalanceReleasePinLaw" = some m.cls := findClass_of_methodNamed Bd.named
  have hnm := (name_of_methodNamed Bd.named Bd.method).1
  have hlk : meth.locks = false := Bd.notSynchronized
  have X0 : Stand p l e room_1 s m #[(.long q0), (.long q1), (.long q2)] below meth c s₁ [] 0 0 := Stand.of_body Bd
  have e0 : s₁.heap = h0 := by rw [← hh, Bd.state]; rfl
  have N0 := Fr.nil n0
  have hret := Bd.returns
  show own_Go p e below s (Q0 Z q0 q1 q2 h0 n0) _ _ (s₁.setTop (entryFrame m #[(.long q0), (.long q1), (.long q2)] maxLocals))
  refine own_go (fun t k => castTop (ef_0 m q0 q1 q2) k) ?_
  show own_Go p e below s _ _ _ (s₁.setTop (mkF m 0 #[.val (.long q0), .second, .val (.long q1), .second, .val (.long q2), .second, .unset, .unset, .unset, .unset, .unset, .unset, .unset, .unset, .unset, .unset, .unset, .unset] []))
  obtain ⟨T1, h1, X1, e1, E1, A1, D1, U1, st1⟩ := newO X0 hx hZ hown (hw _ (List.mem_of_getElem? (i := 0) rfl)) (hw _ (List.mem_of_getElem? (i := 1) rfl)) (hw _ (List.mem_of_getElem? (i := 2) rfl)) e0 (g := (mkF m 0 #[.val (.long q0), .second, .val (.long q1), .second, .val (.long q2), .second, .unset, .unset, .unset, .unset, .unset, .unset, .unset, .unset, .unset, .unset, .unset, .unset] [])) rfl (hb hby at_0) (by decide) (by decide)
  obtain ⟨b1, g1⟩ : ∃ z, z = h0.size := ⟨_, rfl⟩
  rw [← g1] at A1 D1 U1 st1
  refine own_go (fun t k => st1 _ k) ?_
  have gt_b1 : n0 ≤ b1 := Nat.le_trans Z0 (Nat.le_of_eq g1.symm)
  have ZZ_1 : n0 ≤ h1.size := Nat.le_trans Z0 E1.1
  have F_available_b1 : Fld Z h1 b1 "com/example/orderwire/orderwire/venue/Account$Balance" "available" "J" (.long (0 : Int64)) := D1 (Or.inl (hw _ (List.mem_of_getElem? (i := 15) rfl))) (ty := .long) (by decide)
  have F_held_b1 : Fld Z h1 b1 "com/example/orderwire/orderwire/venue/Account$Balance" "held" "J" (.long (0 : Int64)) := D1 (Or.inl (hw _ (List.mem_of_getElem? (i := 22) rfl))) (ty := .long) (by decide)
  show own_Go p e below s _ _ _ (T1.setTop (mkF m 3 #[.val (.long q0), .second, .val (.long q1), .second, .val (.long q2), .second, .unset, .unset, .unset, .unset, .unset, .unset, .unset, .unset, .unset, .unset, .unset, .unset] [(.ref b1)]))
  refine own_go (fun t k => XS.dup X1.here hx rfl (hb hby at_3) rfl rfl k) ?_
  show own_Go p e below s _ _ _ (T1.setTop (mkF m 4 #[.val (.long q0), .second, .val (.long q1), .second, .val (.long q2), .second, .unset, .unset, .unset, .unset, .unset, .unset, .unset, .unset, .unset, .unset, .unset, .unset] [(.ref b1), (.ref b1)]))
  obtain ⟨_, _, ⟨T2, L2, k2, n2⟩, -, X2, ⟨Lc2, hQ2, l2, y2, z2⟩, st2⟩ := X1.specialBack hx (y := (⟨"com/example/orderwire/orderwire/venue/Account$Balance", "<init>", "()V"⟩ : MethodName)) rfl hown (mvT hZ (hw _ (List.mem_of_getElem? (i := 3) rfl))) (mvT hZ (hw _ (List.mem_of_getElem? (i := 4) rfl))) (mvT hZ (hw _ (List.mem_of_getElem? (i := 5) rfl))) (by decide) (backOf (W := 1) (rm1 l Z a0 hw [] (b1) h1 n0 ZZ_1 ) hZ (hw _ (List.mem_of_getElem? (i := 5) rfl)) (hw _ (List.mem_of_getElem? (i := 2) rfl)) (by decide) (by decide)) (g := (mkF m 4 #[.val (.long q0), .second, .val (.long q1), .second, .val (.long q2), .second, .unset, .unset, .unset, .unset, .unset, .unset, .unset, .unset, .unset, .unset, .unset, .unset] [(.ref b1), (.ref b1)])) rfl (by rw [hml]; rfl) (Steps.refl _) (a := b1) (argsL := []) (rest := [(.ref b1)]) (lenOf pd_0 rfl) rfl (by show 2 * 0 + _ ≤ _; exact Nat.le_of_eq rfl) (hb hby at_4) (fun _ _ => ⟨rfl, e1, (by decide : 1 + 0 ≤ _), (by decide : 2 + 0 ≤ _)⟩)
  dsimp only [Pt.U, Pt.locs, Pt.cells, Pt.slots] at X2 l2 y2 z2 st2 hQ2
  subst l2 y2 z2
  obtain ⟨rfl, Nq2, eh2⟩ := hQ2
  have N2 := Fr.app N0 Nq2
  refine own_go (fun t k => st2.trans k) ?_
  have e2 : T2.heap = h1 := eh2
  show own_Go p e below s _ _ _ (T2.setTop (mkF m 7 #[.val (.long q0), .second, .val (.long q1), .second, .val (.long q2), .second, .unset, .unset, .unset, .unset, .unset, .unset, .unset, .unset, .unset, .unset, .unset, .unset] [(.ref b1)]))
  refine own_go (fun t k => XS.astore X2.here hx rfl (hb hby at_7) rfl rfl (l' := #[.val (.long q0), .second, .val (.long q1), .second, .val (.long q2), .second, .val (.ref b1), .unset, .unset, .unset, .unset, .unset, .unset, .unset, .unset, .unset, .unset, .unset]) rfl k) ?_
  show own_Go p e below s _ _ _ (T2.setTop (mkF m 9 #[.val (.long q0), .second, .val (.long q1), .second, .val (.long q2), .second, .val (.ref b1), .unset, .unset, .unset, .unset, .unset, .unset, .unset, .unset, .unset, .unset, .unset] []))
  refine own_go (fun t k => XS.aload X2.here hx rfl (hb hby at_9) rfl rfl k) ?_
  show own_Go p e below s _ _ _ (T2.setTop (mkF m 11 #[.val (.long q0), .second, .val (.long q1), .second, .val (.long q2), .second, .val (.ref b1), .unset, .unset, .unset, .unset, .unset, .unset, .unset, .unset, .unset, .unset, .unset] [(.ref b1)]))
  refine own_go (fun t k => XS.lloadN X2.here hx rfl (hb hby at_11) rfl k) ?_
  show own_Go p e below s _ _ _ (T2.setTop (mkF m 12 #[.val (.long q0), .second, .val (.long q1), .second, .val (.long q2), .second, .val (.ref b1), .unset, .unset, .unset, .unset, .unset, .unset, .unset, .unset, .unset, .unset, .unset] [(.long q0), (.ref b1)]))
  obtain ⟨cq3, kq3, q3a, q3b, q3c⟩ := isOf hZ e2 A1
  obtain ⟨_, _, ⟨T3, L3, k3, n3⟩, -, X3, ⟨Lc3, hQ3, l3, y3, z3⟩, st3⟩ := X2.virtualBack hx (y := (⟨"com/example/orderwire/orderwire/venue/Account$Balance", "credit", "(J)V"⟩ : MethodName)) (z := (⟨"com/example/orderwire/orderwire/venue/Account$Balance", "credit", "(J)V"⟩ : MethodName)) hown (mvT hZ (hw _ (List.mem_of_getElem? (i := 9) rfl))) (mvT hZ (hw _ (List.mem_of_getElem? (i := 10) rfl))) (notFace_of_selects (args := #[]) (mvT hZ (hw _ (List.mem_of_getElem? (i := 12) rfl)))) (mvT hZ (hw _ (List.mem_of_getElem? (i := 12) rfl))) (mvT hZ (hw _ (List.mem_of_getElem? (i := 11) rfl))) (by decide) (backOf (W := 0) (rm3 l Z a0 hw [] (b1) (q0) ((0 : Int64)) ((0 : Int64)) h1 n0 ZZ_1 F_available_b1 F_held_b1 A1 gt_b1) hZ (hw _ (List.mem_of_getElem? (i := 13) rfl)) (hw _ (List.mem_of_getElem? (i := 2) rfl)) (by decide) (by decide)) q3a q3c (g := (mkF m 12 #[.val (.long q0), .second, .val (.long q1), .second, .val (.long q2), .second, .val (.ref b1), .unset, .unset, .unset, .unset, .unset, .unset, .unset, .unset, .unset, .unset, .unset] [(.long q0), (.ref b1)])) rfl (by rw [hml]; rfl) (Steps.refl _) (argsL := [(.long q0)]) (rest := []) (lenOf pd_1 rfl) rfl (by show 2 * 0 + _ ≤ _; exact Nat.le_of_eq rfl) (hb hby at_12) (fun _ _ => ⟨rfl, e2, (by decide : 1 + 0 ≤ _), (by decide : 2 + 0 ≤ _)⟩)
  dsimp only [Pt.U, Pt.locs, Pt.cells, Pt.slots] at X3 l3 y3 z3 st3 hQ3
  subst l3 y3 z3
  obtain ⟨rfl, Nq3, Kq3, FA3, FH3⟩ := hQ3
  have N3 := Fr.app N2 Nq3
  refine own_go (fun t k => st3.trans k) ?_
  obtain ⟨h3, e3⟩ : ∃ z, T3.heap = z := ⟨_, rfl⟩
  rw [e3] at Kq3 FA3 FH3
  have ZZ_3 : n0 ≤ h3.size := Nat.le_trans ZZ_1 Kq3.1
  have E_b1_3 : Exa Z h3 b1 "com/example/orderwire/orderwire/venue/Account$Balance" := A1.keep Kq3
  show own_Go p e below s _ _ _ (T3.setTop (mkF m 15 #[.val (.long q0), .second, .val (.long q1), .second, .val (.long q2), .second, .val (.ref b1), .unset, .unset, .unset, .unset, .unset, .unset, .unset, .unset, .unset, .unset, .unset] []))
  refine own_go (fun t k => XS.aload X3.here hx rfl (hb hby at_15) rfl rfl k) ?_
  show own_Go p e below s _ _ _ (T3.setTop (mkF m 17 #[.val (.long q0), .second, .val (.long q1), .second, .val (.long q2), .second, .val (.ref b1), .unset, .unset, .unset, .unset, .unset, .unset, .unset, .unset, .unset, .unset, .unset] [(.ref b1)]))
  refine own_go (fun t k => XS.lloadN X3.here hx rfl (hb hby at_17) rfl k) ?_
  show own_Go p e below s _ _ _ (T3.setTop (mkF m 18 #[.val (.long q0), .second, .val (.long q1), .second, .val (.long q2), .second, .val (.ref b1), .unset, .unset, .unset, .unset, .unset, .unset, .unset, .unset, .unset, .unset, .unset] [(.long q1), (.ref b1)]))
  obtain ⟨cq4, kq4, q4a, q4b, q4c⟩ := isOf hZ e3 E_b1_3
  obtain ⟨_, _, ⟨T4, L4, k4, n4⟩, -, X4, ⟨Lc4, hQ4, l4, y4, z4⟩, st4⟩ := X3.virtualBack hx (y := (⟨"com/example/orderwire/orderwire/venue/Account$Balance", "hold", "(J)V"⟩ : MethodName)) (z := (⟨"com/example/orderwire/orderwire/venue/Account$Balance", "hold", "(J)V"⟩ : MethodName)) hown (mvT hZ (hw _ (List.mem_of_getElem? (i := 16) rfl))) (mvT hZ (hw _ (List.mem_of_getElem? (i := 17) rfl))) (notFace_of_selects (args := #[]) (mvT hZ (hw _ (List.mem_of_getElem? (i := 19) rfl)))) (mvT hZ (hw _ (List.mem_of_getElem? (i := 19) rfl))) (mvT hZ (hw _ (List.mem_of_getElem? (i := 18) rfl))) (by decide) (backOf (W := 0) (rm4 l Z a0 hw [] (b1) (q1) (((0 : Int64) + q0)) ((0 : Int64)) h3 n0 ZZ_3 FA3 FH3 E_b1_3 gt_b1) hZ (hw _ (List.mem_of_getElem? (i := 20) rfl)) (hw _ (List.mem_of_getElem? (i := 2) rfl)) (by decide) (by decide)) q4a q4c (g := (mkF m 18 #[.val (.long q0), .second, .val (.long q1), .second, .val (.long q2), .second, .val (.ref b1), .unset, .unset, .unset, .unset, .unset, .unset, .unset, .unset, .unset, .unset, .unset] [(.long q1), (.ref b1)])) rfl (by rw [hml]; rfl) (Steps.refl _) (argsL := [(.long q1)]) (rest := []) (lenOf pd_1 rfl) rfl (by show 2 * 0 + _ ≤ _; exact Nat.le_of_eq rfl) (hb hby at_18) (fun _ _ => ⟨rfl, e3, (by decide : 1 + 0 ≤ _), (by decide : 2 + 0 ≤ _)⟩)
  dsimp only [Pt.U, Pt.locs, Pt.cells, Pt.slots] at X4 l4 y4 z4 st4 hQ4
  subst l4 y4 z4
  obtain ⟨rfl, Nq4, Kq4, FA4, FH4⟩ := hQ4
  have N4 := Fr.app N3 Nq4
  refine own_go (fun t k => st4.trans k) ?_
  obtain ⟨h4, e4⟩ : ∃ z, T4.heap = z := ⟨_, rfl⟩
  rw [e4] at Kq4 FA4 FH4
  have ZZ_4 : n0 ≤ h4.size := Nat.le_trans ZZ_3 Kq4.1
  have E_b1_4 : Exa Z h4 b1 "com/example/orderwire/orderwire/venue/Account$Balance" := E_b1_3.keep Kq4
  show own_Go p e below s _ _ _ (T4.setTop (mkF m 21 #[.val (.long q0), .second, .val (.long q1), .second, .val (.long q2), .second, .val (.ref b1), .unset, .unset, .unset, .unset, .unset, .unset, .unset, .unset, .unset, .unset, .unset] []))
  refine own_go (fun t k => XS.aload X4.here hx rfl (hb hby at_21) rfl rfl k) ?_
  show own_Go p e below s _ _ _ (T4.setTop (mkF m 23 #[.val (.long q0), .second, .val (.long q1), .second, .val (.long q2), .second, .val (.ref b1), .unset, .unset, .unset, .unset, .unset, .unset, .unset, .unset, .unset, .unset, .unset] [(.ref b1)]))
  obtain ⟨cq5, kq5, q5a, q5b, q5c⟩ := isOf hZ e4 E_b1_4
  obtain ⟨_, _, ⟨T5, L5, k5, n5⟩, -, X5, ⟨Lc5, hQ5, l5, y5, z5⟩, st5⟩ := X4.virtualBack hx (y := (⟨"com/example/orderwire/orderwire/venue/Account$Balance", "available", "()J"⟩ : MethodName)) (z := (⟨"com/example/orderwire/orderwire/venue/Account$Balance", "available", "()J"⟩ : MethodName)) hown (mvT hZ (hw _ (List.mem_of_getElem? (i := 23) rfl))) (mvT hZ (hw _ (List.mem_of_getElem? (i := 24) rfl))) (notFace_of_selects (args := #[]) (mvT hZ (hw _ (List.mem_of_getElem? (i := 26) rfl)))) (mvT hZ (hw _ (List.mem_of_getElem? (i := 26) rfl))) (mvT hZ (hw _ (List.mem_of_getElem? (i := 25) rfl))) (by decide) (backOf (W := 0) (rm5 l Z a0 hw [] (b1) ((((0 : Int64) + q0) - q1)) (((0 : Int64) + q1)) h4 n0 ZZ_4 FA4) hZ (hw _ (List.mem_of_getElem? (i := 27) rfl)) (hw _ (List.mem_of_getElem? (i := 2) rfl)) (by decide) (by decide)) q5a q5c (g := (mkF m 23 #[.val (.long q0), .second, .val (.long q1), .second, .val (.long q2), .second, .val (.ref b1), .unset, .unset, .unset, .unset, .unset, .unset, .unset, .unset, .unset, .unset, .unset] [(.ref b1)])) rfl (by rw [hml]; rfl) (Steps.refl _) (argsL := []) (rest := []) (lenOf pd_2 rfl) rfl (by show 2 * 0 + _ ≤ _; exact Nat.le_of_eq rfl) (hb hby at_23) (fun _ _ => ⟨rfl, e4, (by decide : 1 + 0 ≤ _), (by decide : 2 + 0 ≤ _)⟩)
  dsimp only [Pt.U, Pt.locs, Pt.cells, Pt.slots] at X5 l5 y5 z5 st5 hQ5
  subst l5 y5 z5
  obtain ⟨rfl, Nq5, eh5⟩ := hQ5
  have N5 := Fr.app N4 Nq5
  refine own_go (fun t k => st5.trans k) ?_
  have e5 : T5.heap = h4 := eh5
  show own_Go p e below s _ _ _ (T5.setTop (mkF m 26 #[.val (.long q0), .second, .val (.long q1), .second, .val (.long q2), .second, .val (.ref b1), .unset, .unset, .unset, .unset, .unset, .unset, .unset, .unset, .unset, .unset, .unset] [(.long (((0 : Int64) + q0) - q1))]))
  refine own_go (fun t k => XS.lstore X5.here hx rfl (hb hby at_26) rfl (l' := #[.val (.long q0), .second, .val (.long q1), .second, .val (.long q2), .second, .val (.ref b1), .val (.long (((0 : Int64) + q0) - q1)), .second, .unset, .unset, .unset, .unset, .unset, .unset, .unset, .unset, .unset]) rfl k) ?_
  show own_Go p e below s _ _ _ (T5.setTop (mkF m 28 #[.val (.long q0), .second, .val (.long q1), .second, .val (.long q2), .second, .val (.ref b1), .val (.long (((0 : Int64) + q0) - q1)), .second, .unset, .unset, .unset, .unset, .unset, .unset, .unset, .unset, .unset] []))
  refine own_go (fun t k => XS.aload X5.here hx rfl (hb hby at_28) rfl rfl k) ?_
  show own_Go p e below s _ _ _ (T5.setTop (mkF m 30 #[.val (.long q0), .second, .val (.long q1), .second, .val (.long q2), .second, .val (.ref b1), .val (.long (((0 : Int64) + q0) - q1)), .second, .unset, .unset, .unset, .unset, .unset, .unset, .unset, .unset, .unset] [(.ref b1)]))
  obtain ⟨cq6, kq6, q6a, q6b, q6c⟩ := isOf hZ e5 E_b1_4
  obtain ⟨_, _, ⟨T6, L6, k6, n6⟩, -, X6, ⟨Lc6, hQ6, l6, y6, z6⟩, st6⟩ := X5.virtualBack hx (y := (⟨"com/example/orderwire/orderwire/venue/Account$Balance", "held", "()J"⟩ : MethodName)) (z := (⟨"com/example/orderwire/orderwire/venue/Account$Balance", "held", "()J"⟩ : MethodName)) hown (mvT hZ (hw _ (List.mem_of_getElem? (i := 28) rfl))) (mvT hZ (hw _ (List.mem_of_getElem? (i := 29) rfl))) (notFace_of_selects (args := #[]) (mvT hZ (hw _ (List.mem_of_getElem? (i := 31) rfl)))) (mvT hZ (hw _ (List.mem_of_getElem? (i := 31) rfl))) (mvT hZ (hw _ (List.mem_of_getElem? (i := 30) rfl))) (by decide) (backOf (W := 0) (rm6 l Z a0 hw [] (b1) ((((0 : Int64) + q0) - q1)) (((0 : Int64) + q1)) h4 n0 ZZ_4 FH4) hZ (hw _ (List.mem_of_getElem? (i := 32) rfl)) (hw _ (List.mem_of_getElem? (i := 2) rfl)) (by decide) (by decide)) q6a q6c (g := (mkF m 30 #[.val (.long q0), .second, .val (.long q1), .second, .val (.long q2), .second, .val (.ref b1), .val (.long (((0 : Int64) + q0) - q1)), .second, .unset, .unset, .unset, .unset, .unset, .unset, .unset, .unset, .unset] [(.ref b1)])) rfl (by rw [hml]; rfl) (Steps.refl _) (argsL := []) (rest := []) (lenOf pd_2 rfl) rfl (by show 2 * 0 + _ ≤ _; exact Nat.le_of_eq rfl) (hb hby at_30) (fun _ _ => ⟨rfl, e5, (by decide : 1 + 0 ≤ _), (by decide : 2 + 0 ≤ _)⟩)
  dsimp only [Pt.U, Pt.locs, Pt.cells, Pt.slots] at X6 l6 y6 z6 st6 hQ6
  subst l6 y6 z6
  obtain ⟨rfl, Nq6, eh6⟩ := hQ6
  have N6 := Fr.app N5 Nq6
  refine own_go (fun t k => st6.trans k) ?_
  have e6 : T6.heap = h4 := eh6
  show own_Go p e below s _ _ _ (T6.setTop (mkF m 33 #[.val (.long q0), .second, .val (.long q1), .second, .val (.long q2), .second, .val (.ref b1), .val (.long (((0 : Int64) + q0) - q1)), .second, .unset, .unset, .unset, .unset, .unset, .unset, .unset, .unset, .unset] [(.long ((0 : Int64) + q1))]))
  refine own_go (fun t k => XS.lstore X6.here hx rfl (hb hby at_33) rfl (l' := #[.val (.long q0), .second, .val (.long q1), .second, .val (.long q2), .second, .val (.ref b1), .val (.long (((0 : Int64) + q0) - q1)), .second, .val (.long ((0 : Int64) + q1)), .second, .unset, .unset, .unset, .unset, .unset, .unset, .unset]) rfl k) ?_
  show own_Go p e below s _ _ _ (T6.setTop (mkF m 35 #[.val (.long q0), .second, .val (.long q1), .second, .val (.long q2), .second, .val (.ref b1), .val (.long (((0 : Int64) + q0) - q1)), .second, .val (.long ((0 : Int64) + q1)), .second, .unset, .unset, .unset, .unset, .unset, .unset, .unset] []))
  refine own_go (fun t k => XS.aload X6.here hx rfl (hb hby at_35) rfl rfl k) ?_
  show own_Go p e below s _ _ _ (T6.setTop (mkF m 37 #[.val (.long q0), .second, .val (.long q1), .second, .val (.long q2), .second, .val (.ref b1), .val (.long (((0 : Int64) + q0) - q1)), .second, .val (.long ((0 : Int64) + q1)), .second, .unset, .unset, .unset, .unset, .unset, .unset, .unset] [(.ref b1)]))
  refine own_go (fun t k => XS.lload X6.here hx rfl (hb hby at_37) rfl k) ?_
  show own_Go p e below s _ _ _ (T6.setTop (mkF m 39 #[.val (.long q0), .second, .val (.long q1), .second, .val (.long q2), .second, .val (.ref b1), .val (.long (((0 : Int64) + q0) - q1)), .second, .val (.long ((0 : Int64) + q1)), .second, .unset, .unset, .unset, .unset, .unset, .unset, .unset] [(.long q2), (.ref b1)]))
  obtain ⟨cq7, kq7, q7a, q7b, q7c⟩ := isOf hZ e6 E_b1_4
  obtain ⟨_, _, ⟨T7, L7, k7, n7⟩, -, X7, ⟨Lc7, hQ7, l7, y7, z7⟩, st7⟩ := X6.virtualBack hx (y := (⟨"com/example/orderwire/orderwire/venue/Account$Balance", "release", "(J)V"⟩ : MethodName)) (z := (⟨"com/example/orderwire/orderwire/venue/Account$Balance", "release", "(J)V"⟩ : MethodName)) hown (mvT hZ (hw _ (List.mem_of_getElem? (i := 33) rfl))) (mvT hZ (hw _ (List.mem_of_getElem? (i := 34) rfl))) (notFace_of_selects (args := #[]) (mvT hZ (hw _ (List.mem_of_getElem? (i := 36) rfl)))) (mvT hZ (hw _ (List.mem_of_getElem? (i := 36) rfl))) (mvT hZ (hw _ (List.mem_of_getElem? (i := 35) rfl))) (by decide) (backOf (W := 0) (rm7 l Z a0 hw [] (b1) (q2) ((((0 : Int64) + q0) - q1)) (((0 : Int64) + q1)) h4 n0 ZZ_4 FA4 FH4 E_b1_4 gt_b1) hZ (hw _ (List.mem_of_getElem? (i := 37) rfl)) (hw _ (List.mem_of_getElem? (i := 2) rfl)) (by decide) (by decide)) q7a q7c (g := (mkF m 39 #[.val (.long q0), .second, .val (.long q1), .second, .val (.long q2), .second, .val (.ref b1), .val (.long (((0 : Int64) + q0) - q1)), .second, .val (.long ((0 : Int64) + q1)), .second, .unset, .unset, .unset, .unset, .unset, .unset, .unset] [(.long q2), (.ref b1)])) rfl (by rw [hml]; rfl) (Steps.refl _) (argsL := [(.long q2)]) (rest := []) (lenOf pd_1 rfl) rfl (by show 2 * 0 + _ ≤ _; exact Nat.le_of_eq rfl) (hb hby at_39) (fun _ _ => ⟨rfl, e6, (by decide : 1 + 0 ≤ _), (by decide : 2 + 0 ≤ _)⟩)
  dsimp only [Pt.U, Pt.locs, Pt.cells, Pt.slots] at X7 l7 y7 z7 st7 hQ7
  subst l7 y7 z7
  obtain ⟨rfl, Nq7, Kq7, FA7, FH7⟩ := hQ7
  have N7 := Fr.app N6 Nq7
  refine own_go (fun t k => st7.trans k) ?_
  obtain ⟨h7, e7⟩ : ∃ z, T7.heap = z := ⟨_, rfl⟩
  rw [e7] at Kq7 FA7 FH7
  have ZZ_7 : n0 ≤ h7.size := Nat.le_trans ZZ_4 Kq7.1
  have E_b1_7 : Exa Z h7 b1 "com/example/orderwire/orderwire/venue/Account$Balance" := E_b1_4.keep Kq7
  show own_Go p e below s _ _ _ (T7.setTop (mkF m 42 #[.val (.long q0), .second, .val (.long q1), .second, .val (.long q2), .second, .val (.ref b1), .val (.long (((0 : Int64) + q0) - q1)), .second, .val (.long ((0 : Int64) + q1)), .second, .unset, .unset, .unset, .unset, .unset, .unset, .unset] []))
  refine own_go (fun t k => XS.aload X7.here hx rfl (hb hby at_42) rfl rfl k) ?_
  show own_Go p e below s _ _ _ (T7.setTop (mkF m 44 #[.val (.long q0), .second, .val (.long q1), .second, .val (.long q2), .second, .val (.ref b1), .val (.long (((0 : Int64) + q0) - q1)), .second, .val (.long ((0 : Int64) + q1)), .second, .unset, .unset, .unset, .unset, .unset, .unset, .unset] [(.ref b1)]))
  obtain ⟨cq8, kq8, q8a, q8b, q8c⟩ := isOf hZ e7 E_b1_7
  obtain ⟨_, _, ⟨T8, L8, k8, n8⟩, -, X8, ⟨Lc8, hQ8, l8, y8, z8⟩, st8⟩ := X7.virtualBack hx (y := (⟨"com/example/orderwire/orderwire/venue/Account$Balance", "available", "()J"⟩ : MethodName)) (z := (⟨"com/example/orderwire/orderwire/venue/Account$Balance", "available", "()J"⟩ : MethodName)) hown (mvT hZ (hw _ (List.mem_of_getElem? (i := 23) rfl))) (mvT hZ (hw _ (List.mem_of_getElem? (i := 24) rfl))) (notFace_of_selects (args := #[]) (mvT hZ (hw _ (List.mem_of_getElem? (i := 26) rfl)))) (mvT hZ (hw _ (List.mem_of_getElem? (i := 26) rfl))) (mvT hZ (hw _ (List.mem_of_getElem? (i := 25) rfl))) (by decide) (backOf (W := 0) (rm5 l Z a0 hw [] (b1) (((((0 : Int64) + q0) - q1) + q2)) ((((0 : Int64) + q1) - q2)) h7 n0 ZZ_7 FA7) hZ (hw _ (List.mem_of_getElem? (i := 27) rfl)) (hw _ (List.mem_of_getElem? (i := 2) rfl)) (by decide) (by decide)) q8a q8c (g := (mkF m 44 #[.val (.long q0), .second, .val (.long q1), .second, .val (.long q2), .second, .val (.ref b1), .val (.long (((0 : Int64) + q0) - q1)), .second, .val (.long ((0 : Int64) + q1)), .second, .unset, .unset, .unset, .unset, .unset, .unset, .unset] [(.ref b1)])) rfl (by rw [hml]; rfl) (Steps.refl _) (argsL := []) (rest := []) (lenOf pd_2 rfl) rfl (by show 2 * 0 + _ ≤ _; exact Nat.le_of_eq rfl) (hb hby at_44) (fun _ _ => ⟨rfl, e7, (by decide : 1 + 0 ≤ _), (by decide : 2 + 0 ≤ _)⟩)
  dsimp only [Pt.U, Pt.locs, Pt.cells, Pt.slots] at X8 l8 y8 z8 st8 hQ8
  subst l8 y8 z8
  obtain ⟨rfl, Nq8, eh8⟩ := hQ8
  have N8 := Fr.app N7 Nq8
  refine own_go (fun t k => st8.trans k) ?_
  have e8 : T8.heap = h7 := eh8
  show own_Go p e below s _ _ _ (T8.setTop (mkF m 47 #[.val (.long q0), .second, .val (.long q1), .second, .val (.long q2), .second, .val (.ref b1), .val (.long (((0 : Int64) + q0) - q1)), .second, .val (.long ((0 : Int64) + q1)), .second, .unset, .unset, .unset, .unset, .unset, .unset, .unset] [(.long ((((0 : Int64) + q0) - q1) + q2))]))
  refine own_go (fun t k => XS.lstore X8.here hx rfl (hb hby at_47) rfl (l' := #[.val (.long q0), .second, .val (.long q1), .second, .val (.long q2), .second, .val (.ref b1), .val (.long (((0 : Int64) + q0) - q1)), .second, .val (.long ((0 : Int64) + q1)), .second, .val (.long ((((0 : Int64) + q0) - q1) + q2)), .second, .unset, .unset, .unset, .unset, .unset]) rfl k) ?_
  show own_Go p e below s _ _ _ (T8.setTop (mkF m 49 #[.val (.long q0), .second, .val (.long q1), .second, .val (.long q2), .second, .val (.ref b1), .val (.long (((0 : Int64) + q0) - q1)), .second, .val (.long ((0 : Int64) + q1)), .second, .val (.long ((((0 : Int64) + q0) - q1) + q2)), .second, .unset, .unset, .unset, .unset, .unset] []))
  refine own_go (fun t k => XS.aload X8.here hx rfl (hb hby at_49) rfl rfl k) ?_
  show own_Go p e below s _ _ _ (T8.setTop (mkF m 51 #[.val (.long q0), .second, .val (.long q1), .second, .val (.long q2), .second, .val (.ref b1), .val (.long (((0 : Int64) + q0) - q1)), .second, .val (.long ((0 : Int64) + q1)), .second, .val (.long ((((0 : Int64) + q0) - q1) + q2)), .second, .unset, .unset, .unset, .unset, .unset] [(.ref b1)]))
  obtain ⟨cq9, kq9, q9a, q9b, q9c⟩ := isOf hZ e8 E_b1_7
  obtain ⟨_, _, ⟨T9, L9, k9, n9⟩, -, X9, ⟨Lc9, hQ9, l9, y9, z9⟩, st9⟩ := X8.virtualBack hx (y := (⟨"com/example/orderwire/orderwire/venue/Account$Balance", "held", "()J"⟩ : MethodName)) (z := (⟨"com/example/orderwire/orderwire/venue/Account$Balance", "held", "()J"⟩ : MethodName)) hown (mvT hZ (hw _ (List.mem_of_getElem? (i := 28) rfl))) (mvT hZ (hw _ (List.mem_of_getElem? (i := 29) rfl))) (notFace_of_selects (args := #[]) (mvT hZ (hw _ (List.mem_of_getElem? (i := 31) rfl)))) (mvT hZ (hw _ (List.mem_of_getElem? (i := 31) rfl))) (mvT hZ (hw _ (List.mem_of_getElem? (i := 30) rfl))) (by decide) (backOf (W := 0) (rm6 l Z a0 hw [] (b1) (((((0 : Int64) + q0) - q1) + q2)) ((((0 : Int64) + q1) - q2)) h7 n0 ZZ_7 FH7) hZ (hw _ (List.mem_of_getElem? (i := 32) rfl)) (hw _ (List.mem_of_getElem? (i := 2) rfl)) (by decide) (by decide)) q9a q9c (g := (mkF m 51 #[.val (.long q0), .second, .val (.long q1), .second, .val (.long q2), .second, .val (.ref b1), .val (.long (((0 : Int64) + q0) - q1)), .second, .val (.long ((0 : Int64) + q1)), .second, .val (.long ((((0 : Int64) + q0) - q1) + q2)), .second, .unset, .unset, .unset, .unset, .unset] [(.ref b1)])) rfl (by rw [hml]; rfl) (Steps.refl _) (argsL := []) (rest := []) (lenOf pd_2 rfl) rfl (by show 2 * 0 + _ ≤ _; exact Nat.le_of_eq rfl) (hb hby at_51) (fun _ _ => ⟨rfl, e8, (by decide : 1 + 0 ≤ _), (by decide : 2 + 0 ≤ _)⟩)
  dsimp only [Pt.U, Pt.locs, Pt.cells, Pt.slots] at X9 l9 y9 z9 st9 hQ9
  subst l9 y9 z9
  obtain ⟨rfl, Nq9, eh9⟩ := hQ9
  have N9 := Fr.app N8 Nq9
  refine own_go (fun t k => st9.trans k) ?_
  have e9 : T9.heap = h7 := eh9
  show own_Go p e below s _ _ _ (T9.setTop (mkF m 54 #[.val (.long q0), .second, .val (.long q1), .second, .val (.long q2), .second, .val (.ref b1), .val (.long (((0 : Int64) + q0) - q1)), .second, .val (.long ((0 : Int64) + q1)), .second, .val (.long ((((0 : Int64) + q0) - q1) + q2)), .second, .unset, .unset, .unset, .unset, .unset] [(.long (((0 : Int64) + q1) - q2))]))
  refine own_go (fun t k => XS.lstore X9.here hx rfl (hb hby at_54) rfl (l' := #[.val (.long q0), .second, .val (.long q1), .second, .val (.long q2), .second, .val (.ref b1), .val (.long (((0 : Int64) + q0) - q1)), .second, .val (.long ((0 : Int64) + q1)), .second, .val (.long ((((0 : Int64) + q0) - q1) + q2)), .second, .val (.long (((0 : Int64) + q1) - q2)), .second, .unset, .unset, .unset]) rfl k) ?_
  show own_Go p e below s _ _ _ (T9.setTop (mkF m 56 #[.val (.long q0), .second, .val (.long q1), .second, .val (.long q2), .second, .val (.ref b1), .val (.long (((0 : Int64) + q0) - q1)), .second, .val (.long ((0 : Int64) + q1)), .second, .val (.long ((((0 : Int64) + q0) - q1) + q2)), .second, .val (.long (((0 : Int64) + q1) - q2)), .second, .unset, .unset, .unset] []))
  refine own_go (fun t k => XS.lload X9.here hx rfl (hb hby at_56) rfl k) ?_
  show own_Go p e below s _ _ _ (T9.setTop (mkF m 58 #[.val (.long q0), .second, .val (.long q1), .second, .val (.long q2), .second, .val (.ref b1), .val (.long (((0 : Int64) + q0) - q1)), .second, .val (.long ((0 : Int64) + q1)), .second, .val (.long ((((0 : Int64) + q0) - q1) + q2)), .second, .val (.long (((0 : Int64) + q1) - q2)), .second, .unset, .unset, .unset] [(.long (((0 : Int64) + q1) - q2))]))
  refine own_go (fun t k => XS.lload X9.here hx rfl (hb hby at_58) rfl k) ?_
  show own_Go p e below s _ _ _ (T9.setTop (mkF m 60 #[.val (.long q0), .second, .val (.long q1), .second, .val (.long q2), .second, .val (.ref b1), .val (.long (((0 : Int64) + q0) - q1)), .second, .val (.long ((0 : Int64) + q1)), .second, .val (.long ((((0 : Int64) + q0) - q1) + q2)), .second, .val (.long (((0 : Int64) + q1) - q2)), .second, .unset, .unset, .unset] [(.long ((0 : Int64) + q1)), (.long (((0 : Int64) + q1) - q2))]))
  refine own_go (fun t k => XS.lload X9.here hx rfl (hb hby at_60) rfl k) ?_
  show own_Go p e below s _ _ _ (T9.setTop (mkF m 62 #[.val (.long q0), .second, .val (.long q1), .second, .val (.long q2), .second, .val (.ref b1), .val (.long (((0 : Int64) + q0) - q1)), .second, .val (.long ((0 : Int64) + q1)), .second, .val (.long ((((0 : Int64) + q0) - q1) + q2)), .second, .val (.long (((0 : Int64) + q1) - q2)), .second, .unset, .unset, .unset] [(.long q2), (.long ((0 : Int64) + q1)), (.long (((0 : Int64) + q1) - q2))]))
  refine own_go (fun t k => XS.lsub X9.here hx rfl (hb hby at_62) rfl k) ?_
  show own_Go p e below s _ _ _ (T9.setTop (mkF m 63 #[.val (.long q0), .second, .val (.long q1), .second, .val (.long q2), .second, .val (.ref b1), .val (.long (((0 : Int64) + q0) - q1)), .second, .val (.long ((0 : Int64) + q1)), .second, .val (.long ((((0 : Int64) + q0) - q1) + q2)), .second, .val (.long (((0 : Int64) + q1) - q2)), .second, .unset, .unset, .unset] [(.long (((0 : Int64) + q1) - q2)), (.long (((0 : Int64) + q1) - q2))]))
  refine own_go (fun t k => XS.lcmp X9.here hx rfl (hb hby at_63) rfl k) ?_
  show own_Go p e below s _ _ _ (T9.setTop (mkF m 64 #[.val (.long q0), .second, .val (.long q1), .second, .val (.long q2), .second, .val (.ref b1), .val (.long (((0 : Int64) + q0) - q1)), .second, .val (.long ((0 : Int64) + q1)), .second, .val (.long ((((0 : Int64) + q0) - q1) + q2)), .second, .val (.long (((0 : Int64) + q1) - q2)), .second, .unset, .unset, .unset] [(.int (lcmpW (((0 : Int64) + q1) - q2) (((0 : Int64) + q1) - q2)))]))
  refine own_go (fun t k => XS.ifNo X9.here hx rfl (hb hby at_64) rfl ((if0 _ _).trans (teq ((lw_eq (((0 : Int64) + q1) - q2) (((0 : Int64) + q1) - q2)).mpr (by grind))).2) k) ?_
  show own_Go p e below s _ _ _ (T9.setTop (mkF m 67 #[.val (.long q0), .second, .val (.long q1), .second, .val (.long q2), .second, .val (.ref b1), .val (.long (((0 : Int64) + q0) - q1)), .second, .val (.long ((0 : Int64) + q1)), .second, .val (.long ((((0 : Int64) + q0) - q1) + q2)), .second, .val (.long (((0 : Int64) + q1) - q2)), .second, .unset, .unset, .unset] []))
  refine own_go (fun t k => XS.iconst X9.here hx rfl (hb hby at_67) k) ?_
  show own_Go p e below s _ _ _ (T9.setTop (mkF m 68 #[.val (.long q0), .second, .val (.long q1), .second, .val (.long q2), .second, .val (.ref b1), .val (.long (((0 : Int64) + q0) - q1)), .second, .val (.long ((0 : Int64) + q1)), .second, .val (.long ((((0 : Int64) + q0) - q1) + q2)), .second, .val (.long (((0 : Int64) + q1) - q2)), .second, .unset, .unset, .unset] [(.int (1 : Int32))]))
  refine own_go (fun t k => XS.goto X9.here hx rfl (pc0 := 68) (pc' := 72) rfl (hb hby at_68) (by decide) (by decide) k) ?_
  show own_Go p e below s _ _ _ (T9.setTop (mkF m 72 #[.val (.long q0), .second, .val (.long q1), .second, .val (.long q2), .second, .val (.ref b1), .val (.long (((0 : Int64) + q0) - q1)), .second, .val (.long ((0 : Int64) + q1)), .second, .val (.long ((((0 : Int64) + q0) - q1) + q2)), .second, .val (.long (((0 : Int64) + q1) - q2)), .second, .unset, .unset, .unset] [(.int (1 : Int32))]))
  refine own_go (fun t k => XS.istore X9.here hx rfl (hb hby at_72) rfl (l' := #[.val (.long q0), .second, .val (.long q1), .second, .val (.long q2), .second, .val (.ref b1), .val (.long (((0 : Int64) + q0) - q1)), .second, .val (.long ((0 : Int64) + q1)), .second, .val (.long ((((0 : Int64) + q0) - q1) + q2)), .second, .val (.long (((0 : Int64) + q1) - q2)), .second, .val (.int (1 : Int32)), .unset, .unset]) rfl k) ?_
  show own_Go p e below s _ _ _ (T9.setTop (mkF m 74 #[.val (.long q0), .second, .val (.long q1), .second, .val (.long q2), .second, .val (.ref b1), .val (.long (((0 : Int64) + q0) - q1)), .second, .val (.long ((0 : Int64) + q1)), .second, .val (.long ((((0 : Int64) + q0) - q1) + q2)), .second, .val (.long (((0 : Int64) + q1) - q2)), .second, .val (.int (1 : Int32)), .unset, .unset] []))
  refine own_go (fun t k => XS.lload X9.here hx rfl (hb hby at_74) rfl k) ?_
  show own_Go p e below s _ _ _ (T9.setTop (mkF m 76 #[.val (.long q0), .second, .val (.long q1), .second, .val (.long q2), .second, .val (.ref b1), .val (.long (((0 : Int64) + q0) - q1)), .second, .val (.long ((0 : Int64) + q1)), .second, .val (.long ((((0 : Int64) + q0) - q1) + q2)), .second, .val (.long (((0 : Int64) + q1) - q2)), .second, .val (.int (1 : Int32)), .unset, .unset] [(.long ((((0 : Int64) + q0) - q1) + q2))]))
  refine own_go (fun t k => XS.lload X9.here hx rfl (hb hby at_76) rfl k) ?_
  show own_Go p e below s _ _ _ (T9.setTop (mkF m 78 #[.val (.long q0), .second, .val (.long q1), .second, .val (.long q2), .second, .val (.ref b1), .val (.long (((0 : Int64) + q0) - q1)), .second, .val (.long ((0 : Int64) + q1)), .second, .val (.long ((((0 : Int64) + q0) - q1) + q2)), .second, .val (.long (((0 : Int64) + q1) - q2)), .second, .val (.int (1 : Int32)), .unset, .unset] [(.long (((0 : Int64) + q0) - q1)), (.long ((((0 : Int64) + q0) - q1) + q2))]))
  refine own_go (fun t k => XS.lload X9.here hx rfl (hb hby at_78) rfl k) ?_
  show own_Go p e below s _ _ _ (T9.setTop (mkF m 80 #[.val (.long q0), .second, .val (.long q1), .second, .val (.long q2), .second, .val (.ref b1), .val (.long (((0 : Int64) + q0) - q1)), .second, .val (.long ((0 : Int64) + q1)), .second, .val (.long ((((0 : Int64) + q0) - q1) + q2)), .second, .val (.long (((0 : Int64) + q1) - q2)), .second, .val (.int (1 : Int32)), .unset, .unset] [(.long q2), (.long (((0 : Int64) + q0) - q1)), (.long ((((0 : Int64) + q0) - q1) + q2))]))
  refine own_go (fun t k => XS.ladd X9.here hx rfl (hb hby at_80) rfl k) ?_
  show own_Go p e below s _ _ _ (T9.setTop (mkF m 81 #[.val (.long q0), .second, .val (.long q1), .second, .val (.long q2), .second, .val (.ref b1), .val (.long (((0 : Int64) + q0) - q1)), .second, .val (.long ((0 : Int64) + q1)), .second, .val (.long ((((0 : Int64) + q0) - q1) + q2)), .second, .val (.long (((0 : Int64) + q1) - q2)), .second, .val (.int (1 : Int32)), .unset, .unset] [(.long ((((0 : Int64) + q0) - q1) + q2)), (.long ((((0 : Int64) + q0) - q1) + q2))]))
  refine own_go (fun t k => XS.lcmp X9.here hx rfl (hb hby at_81) rfl k) ?_
  show own_Go p e below s _ _ _ (T9.setTop (mkF m 82 #[.val (.long q0), .second, .val (.long q1), .second, .val (.long q2), .second, .val (.ref b1), .val (.long (((0 : Int64) + q0) - q1)), .second, .val (.long ((0 : Int64) + q1)), .second, .val (.long ((((0 : Int64) + q0) - q1) + q2)), .second, .val (.long (((0 : Int64) + q1) - q2)), .second, .val (.int (1 : Int32)), .unset, .unset] [(.int (lcmpW ((((0 : Int64) + q0) - q1) + q2) ((((0 : Int64) + q0) - q1) + q2)))]))
  refine own_go (fun t k => XS.ifNo X9.here hx rfl (hb hby at_82) rfl ((if0 _ _).trans (teq ((lw_eq ((((0 : Int64) + q0) - q1) + q2) ((((0 : Int64) + q0) - q1) + q2)).mpr (by grind))).2) k) ?_
  show own_Go p e below s _ _ _ (T9.setTop (mkF m 85 #[.val (.long q0), .second, .val (.long q1), .second, .val (.long q2), .second, .val (.ref b1), .val (.long (((0 : Int64) + q0) - q1)), .second, .val (.long ((0 : Int64) + q1)), .second, .val (.long ((((0 : Int64) + q0) - q1) + q2)), .second, .val (.long (((0 : Int64) + q1) - q2)), .second, .val (.int (1 : Int32)), .unset, .unset] []))
  refine own_go (fun t k => XS.iconst X9.here hx rfl (hb hby at_85) k) ?_
  show own_Go p e below s _ _ _ (T9.setTop (mkF m 86 #[.val (.long q0), .second, .val (.long q1), .second, .val (.long q2), .second, .val (.ref b1), .val (.long (((0 : Int64) + q0) - q1)), .second, .val (.long ((0 : Int64) + q1)), .second, .val (.long ((((0 : Int64) + q0) - q1) + q2)), .second, .val (.long (((0 : Int64) + q1) - q2)), .second, .val (.int (1 : Int32)), .unset, .unset] [(.int (1 : Int32))]))
  refine own_go (fun t k => XS.goto X9.here hx rfl (pc0 := 86) (pc' := 90) rfl (hb hby at_86) (by decide) (by decide) k) ?_
  show own_Go p e below s _ _ _ (T9.setTop (mkF m 90 #[.val (.long q0), .second, .val (.long q1), .second, .val (.long q2), .second, .val (.ref b1), .val (.long (((0 : Int64) + q0) - q1)), .second, .val (.long ((0 : Int64) + q1)), .second, .val (.long ((((0 : Int64) + q0) - q1) + q2)), .second, .val (.long (((0 : Int64) + q1) - q2)), .second, .val (.int (1 : Int32)), .unset, .unset] [(.int (1 : Int32))]))
  refine own_go (fun t k => XS.istore X9.here hx rfl (hb hby at_90) rfl (l' := #[.val (.long q0), .second, .val (.long q1), .second, .val (.long q2), .second, .val (.ref b1), .val (.long (((0 : Int64) + q0) - q1)), .second, .val (.long ((0 : Int64) + q1)), .second, .val (.long ((((0 : Int64) + q0) - q1) + q2)), .second, .val (.long (((0 : Int64) + q1) - q2)), .second, .val (.int (1 : Int32)), .val (.int (1 : Int32)), .unset]) rfl k) ?_
  show own_Go p e below s _ _ _ (T9.setTop (mkF m 92 #[.val (.long q0), .second, .val (.long q1), .second, .val (.long q2), .second, .val (.ref b1), .val (.long (((0 : Int64) + q0) - q1)), .second, .val (.long ((0 : Int64) + q1)), .second, .val (.long ((((0 : Int64) + q0) - q1) + q2)), .second, .val (.long (((0 : Int64) + q1) - q2)), .second, .val (.int (1 : Int32)), .val (.int (1 : Int32)), .unset] []))
  refine own_go (fun t k => XS.lload X9.here hx rfl (hb hby at_92) rfl k) ?_
  show own_Go p e below s _ _ _ (T9.setTop (mkF m 94 #[.val (.long q0), .second, .val (.long q1), .second, .val (.long q2), .second, .val (.ref b1), .val (.long (((0 : Int64) + q0) - q1)), .second, .val (.long ((0 : Int64) + q1)), .second, .val (.long ((((0 : Int64) + q0) - q1) + q2)), .second, .val (.long (((0 : Int64) + q1) - q2)), .second, .val (.int (1 : Int32)), .val (.int (1 : Int32)), .unset] [(.long ((((0 : Int64) + q0) - q1) + q2))]))
  refine own_go (fun t k => XS.lload X9.here hx rfl (hb hby at_94) rfl k) ?_
  show own_Go p e below s _ _ _ (T9.setTop (mkF m 96 #[.val (.long q0), .second, .val (.long q1), .second, .val (.long q2), .second, .val (.ref b1), .val (.long (((0 : Int64) + q0) - q1)), .second, .val (.long ((0 : Int64) + q1)), .second, .val (.long ((((0 : Int64) + q0) - q1) + q2)), .second, .val (.long (((0 : Int64) + q1) - q2)), .second, .val (.int (1 : Int32)), .val (.int (1 : Int32)), .unset] [(.long (((0 : Int64) + q1) - q2)), (.long ((((0 : Int64) + q0) - q1) + q2))]))
  refine own_go (fun t k => XS.ladd X9.here hx rfl (hb hby at_96) rfl k) ?_
  show own_Go p e below s _ _ _ (T9.setTop (mkF m 97 #[.val (.long q0), .second, .val (.long q1), .second, .val (.long q2), .second, .val (.ref b1), .val (.long (((0 : Int64) + q0) - q1)), .second, .val (.long ((0 : Int64) + q1)), .second, .val (.long ((((0 : Int64) + q0) - q1) + q2)), .second, .val (.long (((0 : Int64) + q1) - q2)), .second, .val (.int (1 : Int32)), .val (.int (1 : Int32)), .unset] [(.long (((((0 : Int64) + q0) - q1) + q2) + (((0 : Int64) + q1) - q2)))]))
  refine own_go (fun t k => XS.lload X9.here hx rfl (hb hby at_97) rfl k) ?_
  show own_Go p e below s _ _ _ (T9.setTop (mkF m 99 #[.val (.long q0), .second, .val (.long q1), .second, .val (.long q2), .second, .val (.ref b1), .val (.long (((0 : Int64) + q0) - q1)), .second, .val (.long ((0 : Int64) + q1)), .second, .val (.long ((((0 : Int64) + q0) - q1) + q2)), .second, .val (.long (((0 : Int64) + q1) - q2)), .second, .val (.int (1 : Int32)), .val (.int (1 : Int32)), .unset] [(.long (((0 : Int64) + q0) - q1)), (.long (((((0 : Int64) + q0) - q1) + q2) + (((0 : Int64) + q1) - q2)))]))
  refine own_go (fun t k => XS.lload X9.here hx rfl (hb hby at_99) rfl k) ?_
  show own_Go p e below s _ _ _ (T9.setTop (mkF m 101 #[.val (.long q0), .second, .val (.long q1), .second, .val (.long q2), .second, .val (.ref b1), .val (.long (((0 : Int64) + q0) - q1)), .second, .val (.long ((0 : Int64) + q1)), .second, .val (.long ((((0 : Int64) + q0) - q1) + q2)), .second, .val (.long (((0 : Int64) + q1) - q2)), .second, .val (.int (1 : Int32)), .val (.int (1 : Int32)), .unset] [(.long ((0 : Int64) + q1)), (.long (((0 : Int64) + q0) - q1)), (.long (((((0 : Int64) + q0) - q1) + q2) + (((0 : Int64) + q1) - q2)))]))
  refine own_go (fun t k => XS.ladd X9.here hx rfl (hb hby at_101) rfl k) ?_
  show own_Go p e below s _ _ _ (T9.setTop (mkF m 102 #[.val (.long q0), .second, .val (.long q1), .second, .val (.long q2), .second, .val (.ref b1), .val (.long (((0 : Int64) + q0) - q1)), .second, .val (.long ((0 : Int64) + q1)), .second, .val (.long ((((0 : Int64) + q0) - q1) + q2)), .second, .val (.long (((0 : Int64) + q1) - q2)), .second, .val (.int (1 : Int32)), .val (.int (1 : Int32)), .unset] [(.long ((((0 : Int64) + q0) - q1) + ((0 : Int64) + q1))), (.long (((((0 : Int64) + q0) - q1) + q2) + (((0 : Int64) + q1) - q2)))]))
  refine own_go (fun t k => XS.lcmp X9.here hx rfl (hb hby at_102) rfl k) ?_
  show own_Go p e below s _ _ _ (T9.setTop (mkF m 103 #[.val (.long q0), .second, .val (.long q1), .second, .val (.long q2), .second, .val (.ref b1), .val (.long (((0 : Int64) + q0) - q1)), .second, .val (.long ((0 : Int64) + q1)), .second, .val (.long ((((0 : Int64) + q0) - q1) + q2)), .second, .val (.long (((0 : Int64) + q1) - q2)), .second, .val (.int (1 : Int32)), .val (.int (1 : Int32)), .unset] [(.int (lcmpW (((((0 : Int64) + q0) - q1) + q2) + (((0 : Int64) + q1) - q2)) ((((0 : Int64) + q0) - q1) + ((0 : Int64) + q1))))]))
  refine own_go (fun t k => XS.ifNo X9.here hx rfl (hb hby at_103) rfl ((if0 _ _).trans (teq ((lw_eq (((((0 : Int64) + q0) - q1) + q2) + (((0 : Int64) + q1) - q2)) ((((0 : Int64) + q0) - q1) + ((0 : Int64) + q1))).mpr (by grind))).2) k) ?_
  show own_Go p e below s _ _ _ (T9.setTop (mkF m 106 #[.val (.long q0), .second, .val (.long q1), .second, .val (.long q2), .second, .val (.ref b1), .val (.long (((0 : Int64) + q0) - q1)), .second, .val (.long ((0 : Int64) + q1)), .second, .val (.long ((((0 : Int64) + q0) - q1) + q2)), .second, .val (.long (((0 : Int64) + q1) - q2)), .second, .val (.int (1 : Int32)), .val (.int (1 : Int32)), .unset] []))
  refine own_go (fun t k => XS.iconst X9.here hx rfl (hb hby at_106) k) ?_
  show own_Go p e below s _ _ _ (T9.setTop (mkF m 107 #[.val (.long q0), .second, .val (.long q1), .second, .val (.long q2), .second, .val (.ref b1), .val (.long (((0 : Int64) + q0) - q1)), .second, .val (.long ((0 : Int64) + q1)), .second, .val (.long ((((0 : Int64) + q0) - q1) + q2)), .second, .val (.long (((0 : Int64) + q1) - q2)), .second, .val (.int (1 : Int32)), .val (.int (1 : Int32)), .unset] [(.int (1 : Int32))]))
  refine own_go (fun t k => XS.goto X9.here hx rfl (pc0 := 107) (pc' := 111) rfl (hb hby at_107) (by decide) (by decide) k) ?_
  show own_Go p e below s _ _ _ (T9.setTop (mkF m 111 #[.val (.long q0), .second, .val (.long q1), .second, .val (.long q2), .second, .val (.ref b1), .val (.long (((0 : Int64) + q0) - q1)), .second, .val (.long ((0 : Int64) + q1)), .second, .val (.long ((((0 : Int64) + q0) - q1) + q2)), .second, .val (.long (((0 : Int64) + q1) - q2)), .second, .val (.int (1 : Int32)), .val (.int (1 : Int32)), .unset] [(.int (1 : Int32))]))
  refine own_go (fun t k => XS.istore X9.here hx rfl (hb hby at_111) rfl (l' := #[.val (.long q0), .second, .val (.long q1), .second, .val (.long q2), .second, .val (.ref b1), .val (.long (((0 : Int64) + q0) - q1)), .second, .val (.long ((0 : Int64) + q1)), .second, .val (.long ((((0 : Int64) + q0) - q1) + q2)), .second, .val (.long (((0 : Int64) + q1) - q2)), .second, .val (.int (1 : Int32)), .val (.int (1 : Int32)), .val (.int (1 : Int32))]) rfl k) ?_
  show own_Go p e below s _ _ _ (T9.setTop (mkF m 113 #[.val (.long q0), .second, .val (.long q1), .second, .val (.long q2), .second, .val (.ref b1), .val (.long (((0 : Int64) + q0) - q1)), .second, .val (.long ((0 : Int64) + q1)), .second, .val (.long ((((0 : Int64) + q0) - q1) + q2)), .second, .val (.long (((0 : Int64) + q1) - q2)), .second, .val (.int (1 : Int32)), .val (.int (1 : Int32)), .val (.int (1 : Int32))] []))
  refine own_go (fun t k => XS.iload X9.here hx rfl (hb hby at_113) rfl k) ?_
  show own_Go p e below s _ _ _ (T9.setTop (mkF m 115 #[.val (.long q0), .second, .val (.long q1), .second, .val (.long q2), .second, .val (.ref b1), .val (.long (((0 : Int64) + q0) - q1)), .second, .val (.long ((0 : Int64) + q1)), .second, .val (.long ((((0 : Int64) + q0) - q1) + q2)), .second, .val (.long (((0 : Int64) + q1) - q2)), .second, .val (.int (1 : Int32)), .val (.int (1 : Int32)), .val (.int (1 : Int32))] [(.int (1 : Int32))]))
  refine own_go (fun t k => XS.ifNo X9.here hx rfl (hb hby at_115) rfl ((if0 _ _).trans (feq (by decide)).1) k) ?_
  show own_Go p e below s _ _ _ (T9.setTop (mkF m 118 #[.val (.long q0), .second, .val (.long q1), .second, .val (.long q2), .second, .val (.ref b1), .val (.long (((0 : Int64) + q0) - q1)), .second, .val (.long ((0 : Int64) + q1)), .second, .val (.long ((((0 : Int64) + q0) - q1) + q2)), .second, .val (.long (((0 : Int64) + q1) - q2)), .second, .val (.int (1 : Int32)), .val (.int (1 : Int32)), .val (.int (1 : Int32))] []))
  refine own_go (fun t k => XS.iload X9.here hx rfl (hb hby at_118) rfl k) ?_
  show own_Go p e below s _ _ _ (T9.setTop (mkF m 120 #[.val (.long q0), .second, .val (.long q1), .second, .val (.long q2), .second, .val (.ref b1), .val (.long (((0 : Int64) + q0) - q1)), .second, .val (.long ((0 : Int64) + q1)), .second, .val (.long ((((0 : Int64) + q0) - q1) + q2)), .second, .val (.long (((0 : Int64) + q1) - q2)), .second, .val (.int (1 : Int32)), .val (.int (1 : Int32)), .val (.int (1 : Int32))] [(.int (1 : Int32))]))
  refine own_go (fun t k => XS.ifNo X9.here hx rfl (hb hby at_120) rfl ((if0 _ _).trans (feq (by decide)).1) k) ?_
  show own_Go p e below s _ _ _ (T9.setTop (mkF m 123 #[.val (.long q0), .second, .val (.long q1), .second, .val (.long q2), .second, .val (.ref b1), .val (.long (((0 : Int64) + q0) - q1)), .second, .val (.long ((0 : Int64) + q1)), .second, .val (.long ((((0 : Int64) + q0) - q1) + q2)), .second, .val (.long (((0 : Int64) + q1) - q2)), .second, .val (.int (1 : Int32)), .val (.int (1 : Int32)), .val (.int (1 : Int32))] []))
  refine own_go (fun t k => XS.iload X9.here hx rfl (hb hby at_123) rfl k) ?_
  show own_Go p e below s _ _ _ (T9.setTop (mkF m 125 #[.val (.long q0), .second, .val (.long q1), .second, .val (.long q2), .second, .val (.ref b1), .val (.long (((0 : Int64) + q0) - q1)), .second, .val (.long ((0 : Int64) + q1)), .second, .val (.long ((((0 : Int64) + q0) - q1) + q2)), .second, .val (.long (((0 : Int64) + q1) - q2)), .second, .val (.int (1 : Int32)), .val (.int (1 : Int32)), .val (.int (1 : Int32))] [(.int (1 : Int32))]))
  refine own_go (fun t k => XS.ifNo X9.here hx rfl (hb hby at_125) rfl ((if0 _ _).trans (feq (by decide)).1) k) ?_
  show own_Go p e below s _ _ _ (T9.setTop (mkF m 128 #[.val (.long q0), .second, .val (.long q1), .second, .val (.long q2), .second, .val (.ref b1), .val (.long (((0 : Int64) + q0) - q1)), .second, .val (.long ((0 : Int64) + q1)), .second, .val (.long ((((0 : Int64) + q0) - q1) + q2)), .second, .val (.long (((0 : Int64) + q1) - q2)), .second, .val (.int (1 : Int32)), .val (.int (1 : Int32)), .val (.int (1 : Int32))] []))
  refine own_go (fun t k => XS.iconst X9.here hx rfl (hb hby at_128) k) ?_
  show own_Go p e below s _ _ _ (T9.setTop (mkF m 129 #[.val (.long q0), .second, .val (.long q1), .second, .val (.long q2), .second, .val (.ref b1), .val (.long (((0 : Int64) + q0) - q1)), .second, .val (.long ((0 : Int64) + q1)), .second, .val (.long ((((0 : Int64) + q0) - q1) + q2)), .second, .val (.long (((0 : Int64) + q1) - q2)), .second, .val (.int (1 : Int32)), .val (.int (1 : Int32)), .val (.int (1 : Int32))] [(.int (1 : Int32))]))
  refine own_go (fun t k => XS.goto X9.here hx rfl (pc0 := 129) (pc' := 133) rfl (hb hby at_129) (by decide) (by decide) k) ?_
  show own_Go p e below s _ _ _ (T9.setTop (mkF m 133 #[.val (.long q0), .second, .val (.long q1), .second, .val (.long q2), .second, .val (.ref b1), .val (.long (((0 : Int64) + q0) - q1)), .second, .val (.long ((0 : Int64) + q1)), .second, .val (.long ((((0 : Int64) + q0) - q1) + q2)), .second, .val (.long (((0 : Int64) + q1) - q2)), .second, .val (.int (1 : Int32)), .val (.int (1 : Int32)), .val (.int (1 : Int32))] [(.int (1 : Int32))]))
  refine own_ret X9 (v := some (.int (1 : Int32))) (fun h => by rw [hret] at h; cases h) hlk ?_ (by decide) (by decide) (fun fs hr => retN X9 hx (t := .boolean) hret (by simp) (hb hby at_133) hr)
  show Q0 Z q0 q1 q2 h0 n0 (some (.int (1 : Int32))) T9.heap _
  rw [e9]
  exact ⟨rfl, N9⟩
set_option maxRecDepth 65536 in
set_option maxHeartbeats 40000000 in
theorem comes_1 {Post : Tables → Env → Array Value → State → Outcome → State → Prop} (hpost : ∀ tb e args s v u, (limb_1_1.after args s (.returned v) u = true ∧ limb_1_2.after args s (.returned v) u = true ∧ True) → FrameEnd s (.returned v) u (Jvm.fieldLocs frame_1_writes args s ++ Jvm.arrayLocs frame_1_arrays args s ++ Jvm.staticLocs frame_1_statics s) 16 128 → Post tb e args s (.returned v) u) :
    ArmFor flags0 classFile x code maxLocals ret World_1 tables_1 room_1 Calls_1 rest_1 Pre_1 Post := by
  intro l hfl _ _ p e ha hc hk s m args below hf hA hF happ hP
  obtain ⟨hcalls, hrest, hpre⟩ := hP
  obtain ⟨-, -, -, hnamed, -, -, -, hat⟩ := (Spec.applies_iff hf).mp happ
  obtain ⟨hg, hn⟩ := and_e (Cond.before_iff.mp (show (Jvm.Cond.and given_1 narrow_1).before args s = true from hpre))
  obtain ⟨g1, g2⟩ := and_e hg
  obtain ⟨g3, g4⟩ := and_e g2
  obtain ⟨g5, g6⟩ := and_e g4
  obtain ⟨w0, w1, w2, rfl⟩ : ∃ w0 w1 w2 : Value, args = #[w0, w1, w2] := by
    have hs : args.size = 3 := by simpa [Cond.value, given_1] using g1
    obtain ⟨L⟩ := args
    match L, hs with
    | [w0, w1, w2], _ => exact ⟨w0, w1, w2, rfl⟩
  have hw := fun d (hd : d ∈ tables_1) => atoms_spec (ws := Jvm.Cond.code x code maxLocals ret :: tables_1) hat d (List.mem_cons_of_mem _ hd)
  have hfit : Fit s := fun {y c} hc i hi => by
    obtain ⟨ha, rfl⟩ := Array.getElem?_eq_some_iff.mp hc
    have q := List.all_eq_true.mp ((Array.all_eq_true_iff_forall_mem.mp hF) _ (Array.getElem_mem ha)) i (List.mem_range.mpr hi)
    simpa [Array.getElem?_eq_getElem hi] using q
  obtain ⟨i0, ei0⟩ := isL_v g3
  obtain rfl : w0 = (.long i0) := Option.some.inj ei0
  obtain ⟨i1, ei1⟩ := isL_v g5
  obtain rfl : w1 = (.long i1) := Option.some.inj ei1
  obtain ⟨i2, ei2⟩ := isL_v g6
  obtain rfl : w2 = (.long i2) := Option.some.inj ei2
  obtain ⟨n, o, h1, h2, h3, _, L, rfl, ⟨rfl, N⟩, hq⟩ := rm0 l s _ hw tables_1 i0 i1 i2  s.heap s.heap.size (Nat.le_refl _)  p e ha hc hk s m _ below hf ((Spec.applies_iff_loose hf).mp happ).1 ⟨rfl, State.Warmed39.refl s, rfl⟩ trivial
  refine ⟨n, _, h1, h2, h3, hpost _ _ _ _ _ _ ⟨Cond.after_iff.mpr rfl, Cond.after_iff.mpr (eq_i res_at (Term.int_eval (1)) rfl), trivial⟩ ⟨hq.1, hq.2.1, (hq.2.2.sift fun y hy => Or.inr (N y hy)).mono (by decide) (by decide)⟩⟩
theorem main_1_1 : Claimed_1_1 := comes_1 fun _ _ _ _ _ _ h hF => ⟨h.1, hF⟩
theorem main_1_2 : Claimed_1_2 := comes_1 fun _ _ _ _ _ _ h hF => ⟨h.2.1, hF⟩
end Jvm.Pilot.@@N@@
namespace Jvm.Pilot.@@N@@
open Jvm Jvm.ClassFile Sem Op Lib Jvm.Free Jvm.Stand Jvm.Pilot.@@N@@.Jvm.D
/-! MADE BY PROGRAM (witnessworld.py) out of the Statement's table words and the real class files: 9 classes; the members and pool entries that the words name. The judged class is class 1, her method 1. -/
namespace start1
open Jvm.ClassFile
def u (s : String) : CpInfo := .utf8 (stringToUtf16 s)
/-- a pool by its gaps: so many unusable entries, then the entry; so many at the end -/
def gap : Nat → List CpInfo → List CpInfo
  | 0, r => r
  | n + 1, r => .unusable :: gap n r
def poolList (es : List (Nat × CpInfo)) (last : Nat) : List CpInfo := es.foldr (fun e r => gap e.1 (e.2 :: r)) (gap last [])
def pool (es : List (Nat × CpInfo)) (last : Nat) : Array CpInfo := ⟨poolList es last⟩
def fileOf (pool : Array CpInfo) (this : Nat) (attrs : Array Attribute := #[]) (ms : Array MethodInfo := #[]) (fl : Nat := 33) (sup : Nat := 0) (ifs : Array Nat := #[]) (fds : Array FieldInfo := #[]) : ClassFile where
  minorVersion := 0
  majorVersion := 65
  constantPool := pool
  accessFlags := fl
  thisClass := this
  superClass := sup
  interfaces := ifs
  fields := fds
  methods := ms
  attributes := attrs
def plain (name : String) (sup : Option ClassId) : Class where
  name := name
  kind := .ordinary
  loader := none
  accessFlags := 33
  super := sup
  interfaces := #[]
  cf := none
  fields := #[]
  methods := #[]
  instanceTypes := #[]
  staticTypes := #[]
  resolved := #[]
  callSites := []
  init := .initialized
  statics := none
  mirror := none

def pool0 : Array CpInfo := pool [(5, u "<init>"), (0, u "()V"), (1, .class_ 10), (1, u "java/lang/Object")] 113

def k0c0 : Code := { maxStack := 0, maxLocals := 1, code := object_method_1_code, exceptionTable := #[], attributes := #[] }
def k0m0 : Method := { name := "<init>", desc := "()V", sig := { parameters := [], returnType := none }, accessFlags := 1, code := some k0c0 }
/-- java/lang/Object -/
def k0 : Class := { plain "java/lang/Object" none with
  accessFlags := 33
  interfaces := #[]
  cf := some (fileOf pool0 8 #[] #[{ accessFlags := 1, nameIndex := 5, descriptorIndex := 6, attributes := #[] }] 33 0 #[] #[])
  fields := #[]
  methods := #[k0m0]
  instanceTypes := #[]
  staticTypes := #[]
  resolved := Array.replicate 124 none
  statics := none }

def pool1 : Array CpInfo := pool [(2, .class_ 4), (0, .nameAndType 5 6), (0, u "java/lang/Object"), (0, u "<init>"), (0, u "()V"), (0, .class_ 8), (0, u "com/example/orderwire/orderwire/venue/Account$Balance"), (0, .methodref 7 3), (0, .methodref 7 11), (0, .nameAndType 12 13), (0, u "credit"), (0, u "(J)V"), (0, .methodref 7 15), (0, .nameAndType 16 13), (0, u "hold"), (0, .methodref 7 18), (0, .nameAndType 19 20), (0, u "available"), (0, u "()J"), (0, .methodref 7 22), (0, .nameAndType 23 20), (0, u "held"), (0, .methodref 7 25), (0, .nameAndType 26 13), (0, u "release"), (0, .class_ 28), (0, u "com/example/orderwire/orderwire/venue/BalanceReleasePinLaw"), (2, u "law"), (0, u "(JJJ)Z")] 7

def k1m0 : Method := { name := "<init>", desc := "()V", sig := { parameters := [], returnType := none }, accessFlags := 2, code := none }
def k1c1 : Code := { maxStack := 6, maxLocals := 18, code := code, exceptionTable := #[], attributes := #[] }
def k1m1 : Method := { name := "law", desc := "(JJJ)Z", sig := { parameters := [.long, .long, .long], returnType := some .boolean }, accessFlags := 9, code := some k1c1 }
/-- com/example/orderwire/orderwire/venue/BalanceReleasePinLaw -/
def k1 : Class := { plain "com/example/orderwire/orderwire/venue/BalanceReleasePinLaw" (some 0) with
  accessFlags := 49
  interfaces := #[]
  cf := some (fileOf pool1 27 #[] #[{ accessFlags := 2, nameIndex := 5, descriptorIndex := 6, attributes := #[] }, { accessFlags := 9, nameIndex := 31, descriptorIndex := 32, attributes := #[] }] 49 2 #[] #[])
  fields := #[]
  methods := #[k1m0, k1m1]
  instanceTypes := #[]
  staticTypes := #[]
  resolved := Array.replicate 40 none
  statics := none }

def pool2 : Array CpInfo := pool [(1, .methodref 2 3), (0, .class_ 4), (0, .nameAndType 5 6), (0, u "java/lang/Object"), (0, u "<init>"), (0, u "()V"), (0, .fieldref 8 9), (0, .class_ 10), (0, .nameAndType 11 12), (0, u "com/example/orderwire/orderwire/venue/Account$Balance"), (0, u "available"), (0, u "J"), (0, .fieldref 8 14), (0, .nameAndType 15 12), (0, u "held"), (2, u "()J"), (0, u "credit"), (0, u "(J)V"), (1, u "hold"), (0, u "release"), (4, .class_ 29), (0, u "com/example/orderwire/orderwire/venue/Account")] 2

def k2c0 : Code := { maxStack := 1, maxLocals := 1, code := prog_35_method_1_code, exceptionTable := #[], attributes := #[] }
def k2m0 : Method := { name := "<init>", desc := "()V", sig := { parameters := [], returnType := none }, accessFlags := 0, code := some k2c0 }
def k2c1 : Code := { maxStack := 2, maxLocals := 1, code := prog_35_method_2_code, exceptionTable := #[], attributes := #[] }
def k2m1 : Method := { name := "available", desc := "()J", sig := { parameters := [], returnType := some .long }, accessFlags := 0, code := some k2c1 }
def k2c2 : Code := { maxStack := 2, maxLocals := 1, code := prog_35_method_3_code, exceptionTable := #[], attributes := #[] }
def k2m2 : Method := { name := "held", desc := "()J", sig := { parameters := [], returnType := some .long }, accessFlags := 0, code := some k2c2 }
def k2c3 : Code := { maxStack := 5, maxLocals := 3, code := prog_35_method_4_code, exceptionTable := #[], attributes := #[] }
def k2m3 : Method := { name := "credit", desc := "(J)V", sig := { parameters := [.long], returnType := none }, accessFlags := 0, code := some k2c3 }
def k2c4 : Code := { maxStack := 5, maxLocals := 3, code := prog_35_method_6_code, exceptionTable := #[], attributes := #[] }
def k2m4 : Method := { name := "hold", desc := "(J)V", sig := { parameters := [.long], returnType := none }, accessFlags := 0, code := some k2c4 }
def k2c5 : Code := { maxStack := 5, maxLocals := 3, code := prog_35_method_7_code, exceptionTable := #[], attributes := #[] }
def k2m5 : Method := { name := "release", desc := "(J)V", sig := { parameters := [.long], returnType := none }, accessFlags := 0, code := some k2c5 }
/-- com/example/orderwire/orderwire/venue/Account$Balance -/
def k2 : Class := { plain "com/example/orderwire/orderwire/venue/Account$Balance" (some 0) with
  accessFlags := 48
  interfaces := #[]
  cf := some (fileOf pool2 8 #[.nestHost 28] #[{ accessFlags := 0, nameIndex := 5, descriptorIndex := 6, attributes := #[] }, { accessFlags := 0, nameIndex := 11, descriptorIndex := 18, attributes := #[] }, { accessFlags := 0, nameIndex := 15, descriptorIndex := 18, attributes := #[] }, { accessFlags := 0, nameIndex := 19, descriptorIndex := 20, attributes := #[] }, { accessFlags := 0, nameIndex := 22, descriptorIndex := 20, attributes := #[] }, { accessFlags := 0, nameIndex := 23, descriptorIndex := 20, attributes := #[] }] 48 2 #[] #[{ accessFlags := 2, nameIndex := 11, descriptorIndex := 12, attributes := #[] }, { accessFlags := 2, nameIndex := 15, descriptorIndex := 12, attributes := #[] }])
  fields := #[{ name := "available", type := .long, accessFlags := 2, slot := 0, constantValue := 0 }, { name := "held", type := .long, accessFlags := 2, slot := 1, constantValue := 0 }]
  methods := #[k2m0, k2m1, k2m2, k2m3, k2m4, k2m5]
  instanceTypes := #[.long, .long]
  staticTypes := #[]
  resolved := Array.replicate 32 none
  statics := none }

def pool3 : Array CpInfo := pool [(1, u "java/lang/Cloneable"), (0, .class_ 1), (0, u "java/lang/Object"), (0, .class_ 3)] 3

/-- java/lang/Cloneable -/
def k3 : Class := { plain "java/lang/Cloneable" (some 0) with
  accessFlags := 1537
  interfaces := #[]
  cf := some (fileOf pool3 2 #[] #[] 1537 4 #[] #[])
  fields := #[]
  methods := #[]
  instanceTypes := #[]
  staticTypes := #[]
  resolved := Array.replicate 8 none
  statics := none }

def pool4 : Array CpInfo := pool [(1, u "java/io/Serializable"), (0, .class_ 1), (0, u "java/lang/Object"), (0, .class_ 3)] 3

/-- java/io/Serializable -/
def k4 : Class := { plain "java/io/Serializable" (some 0) with
  accessFlags := 1537
  interfaces := #[]
  cf := some (fileOf pool4 2 #[] #[] 1537 4 #[] #[])
  fields := #[]
  methods := #[]
  instanceTypes := #[]
  staticTypes := #[]
  resolved := Array.replicate 8 none
  statics := none }

/-- the primitive byte -/
def k5 : Class := { plain "byte" none with kind := .primitive 'B', accessFlags := 0x411 }
/-- [B -/
def k6 : Class := { plain "[B" (some 0) with kind := .array 5 .byte, interfaces := #[3, 4], accessFlags := 1041 }

/-- the primitive int -/
def k7 : Class := { plain "int" none with kind := .primitive 'I', accessFlags := 0x411 }
/-- [I -/
def k8 : Class := { plain "[I" (some 0) with kind := .array 7 .int, interfaces := #[3, 4], accessFlags := 1041 }

def heap : Heap := #[]
def classes : Array Class := #[k0, k1, k2, k3, k4, k5, k6, k7, k8]
def interned : List (Array UInt16 × Addr) := []
def slotsUsed : Nat := 0
def theMethod : MethodId := ⟨1, 1⟩
def args0 : Array Value := #[.long 5, .long 2, .long 1]
def aboutOver (below : List Frame) : State where
  vm := { classes := classes, interned := interned.toArray }
  heap := heap
  slotsUsed := slotsUsed
  threads := #[{ frames := .invoking theMethod args0 :: below }]
def below0 : List Frame := [.native { method := ⟨0, 0⟩, args := #[] }]
def about1 : State := aboutOver below0
def p0 : Program := .bare "" "" ""
def e0 : Env := launch0.env 0 0 0
theorem w_frames : about1.frames = Frame.invoking theMethod args0 :: below0 := rfl
set_option maxRecDepth 65536 in
theorem w_args : argsFit about1.vm theMethod args0 = true := by decide +kernel
set_option maxRecDepth 65536 in
theorem w_heap : heapFits about1 = true := by decide +kernel
set_option maxRecDepth 65536 in
theorem w_runnable : about1.curStatus? = some .runnable := by decide +kernel
set_option maxRecDepth 65536 in
theorem w_alone : about1.alone = true := by decide +kernel
set_option maxRecDepth 65536 in
theorem w_named : about1.methodNamed? x = some theMethod := by decide +kernel
set_option maxRecDepth 65536 in
theorem w_hears : about1.hears theMethod below0 = true := by decide +kernel
set_option maxRecDepth 65536 in
theorem w_ripe : about1.ripe theMethod args0 below0 = true := by decide +kernel
theorem w_running : about1.status = .running := rfl
set_option maxRecDepth 65536 in
theorem w_room : about1.hasRoom e0.platform room_1 = true :=
  launch0.hasRoom_least _ room_1 (by decide +kernel) (by decide +kernel) (by decide +kernel) (by decide +kernel) (by decide +kernel) (by decide +kernel)
theorem allAtoms_all (ts : List Jvm.Cond) (a : Array Jvm.Value) (st : Jvm.State) : (allAtoms ts).before a st = ts.all (fun c => c.before a st) := by
  induction ts with
  | nil => rfl
  | cons c t ih =>
    show (Jvm.Cond.and c (allAtoms t)).before a st = _
    rw [Jvm.Cond.before_and, ih, List.all_cons]
def words1 : List Jvm.Cond := Jvm.Cond.code x code maxLocals ret :: tables_1
/-- a 'code' word, met by the world's own term for the bytes: nothing is compared byte by byte -/
theorem code_word {y : MethodName} {bytes : ByteArray} {mx : Nat} {rt : Option FieldType} {a : Array Value} {s : State} {m : MethodId} {meth : Method} {c : Code} (h1 : s.methodNamed? y = some m) (h2 : s.vm.method? m = some meth) (h3 : meth.code = some c) (h4 : c.code = bytes)
    (h5 : (c.maxLocals == mx && c.exceptionTable.isEmpty && decide (c.maxStack ≤ mostOperands) && decide (meth.sig.returnType = rt) && !meth.locks && decide (parseMethodDescriptor y.desc = some meth.sig)) = true) : (Jvm.Cond.code y bytes mx rt).before a s = true := by
  simp only [Bool.and_eq_true, beq_iff_eq, Bool.not_eq_true', decide_eq_true_eq] at h5
  obtain ⟨⟨⟨⟨⟨g1, g2⟩, g3⟩, g4⟩, g5⟩, g6⟩ := h5
  simp [Cond.before, Cond.holds, Cond.value, h1, h2, h3, h4, g1, g2, g3, g4, g5, g6]
def isCode : Jvm.Cond → Bool
  | .code _ _ _ _ => true
  | _ => false
theorem all_split {L : List Jvm.Cond} {P : Jvm.Cond → Bool} (h1 : L.all (fun c => isCode c || P c) = true) (h2 : ∀ c ∈ L.filter isCode, P c = true) : L.all P = true := by
  refine List.all_eq_true.mpr fun c hc => ?_
  have h := List.all_eq_true.mp h1 c hc
  rcases Bool.eq_false_or_eq_true (isCode c) with hi | hi
  · exact h2 c (List.mem_filter.mpr ⟨hc, hi⟩)
  · simpa [hi] using h
set_option maxRecDepth 65536 in
theorem w_c0 : (Jvm.Cond.code x code maxLocals ret).before args0 about1 = true := code_word (m := ⟨1, 1⟩) (meth := k1m1) (c := k1c1) (by decide +kernel) rfl rfl rfl (by decide +kernel)
set_option maxRecDepth 65536 in
theorem w_c1 : (Jvm.Cond.code ({ cls := "com/example/orderwire/orderwire/venue/Account$Balance", name := "<init>", desc := "()V" } : Jvm.MethodName) prog_35_method_1_code (1 : Nat) (Option.none : Option Jvm.ClassFile.FieldType)).before args0 about1 = true := code_word (m := ⟨2, 0⟩) (meth := k2m0) (c := k2c0) (by decide +kernel) rfl rfl rfl (by decide +kernel)
set_option maxRecDepth 65536 in
theorem w_c2 : (Jvm.Cond.code ({ cls := "java/lang/Object", name := "<init>", desc := "()V" } : Jvm.MethodName) object_method_1_code (1 : Nat) (Option.none : Option Jvm.ClassFile.FieldType)).before args0 about1 = true := code_word (m := ⟨0, 0⟩) (meth := k0m0) (c := k0c0) (by decide +kernel) rfl rfl rfl (by decide +kernel)
set_option maxRecDepth 65536 in
theorem w_c3 : (Jvm.Cond.code ({ cls := "com/example/orderwire/orderwire/venue/Account$Balance", name := "credit", desc := "(J)V" } : Jvm.MethodName) prog_35_method_4_code (3 : Nat) (Option.none : Option Jvm.ClassFile.FieldType)).before args0 about1 = true := code_word (m := ⟨2, 3⟩) (meth := k2m3) (c := k2c3) (by decide +kernel) rfl rfl rfl (by decide +kernel)
set_option maxRecDepth 65536 in
theorem w_c4 : (Jvm.Cond.code ({ cls := "com/example/orderwire/orderwire/venue/Account$Balance", name := "hold", desc := "(J)V" } : Jvm.MethodName) prog_35_method_6_code (3 : Nat) (Option.none : Option Jvm.ClassFile.FieldType)).before args0 about1 = true := code_word (m := ⟨2, 4⟩) (meth := k2m4) (c := k2c4) (by decide +kernel) rfl rfl rfl (by decide +kernel)
set_option maxRecDepth 65536 in
theorem w_c5 : (Jvm.Cond.code ({ cls := "com/example/orderwire/orderwire/venue/Account$Balance", name := "available", desc := "()J" } : Jvm.MethodName) prog_35_method_2_code (1 : Nat) (Option.some Jvm.ClassFile.FieldType.long)).before args0 about1 = true := code_word (m := ⟨2, 1⟩) (meth := k2m1) (c := k2c1) (by decide +kernel) rfl rfl rfl (by decide +kernel)
set_option maxRecDepth 65536 in
theorem w_c6 : (Jvm.Cond.code ({ cls := "com/example/orderwire/orderwire/venue/Account$Balance", name := "held", desc := "()J" } : Jvm.MethodName) prog_35_method_3_code (1 : Nat) (Option.some Jvm.ClassFile.FieldType.long)).before args0 about1 = true := code_word (m := ⟨2, 2⟩) (meth := k2m2) (c := k2c2) (by decide +kernel) rfl rfl rfl (by decide +kernel)
set_option maxRecDepth 65536 in
theorem w_c7 : (Jvm.Cond.code ({ cls := "com/example/orderwire/orderwire/venue/Account$Balance", name := "release", desc := "(J)V" } : Jvm.MethodName) prog_35_method_7_code (3 : Nat) (Option.none : Option Jvm.ClassFile.FieldType)).before args0 about1 = true := code_word (m := ⟨2, 5⟩) (meth := k2m5) (c := k2c5) (by decide +kernel) rfl rfl rfl (by decide +kernel)
def codes1 : List Jvm.Cond := [Jvm.Cond.code x code maxLocals ret, Jvm.Cond.code ({ cls := "com/example/orderwire/orderwire/venue/Account$Balance", name := "<init>", desc := "()V" } : Jvm.MethodName) prog_35_method_1_code (1 : Nat) (Option.none : Option Jvm.ClassFile.FieldType), Jvm.Cond.code ({ cls := "java/lang/Object", name := "<init>", desc := "()V" } : Jvm.MethodName) object_method_1_code (1 : Nat) (Option.none : Option Jvm.ClassFile.FieldType), Jvm.Cond.code ({ cls := "com/example/orderwire/orderwire/venue/Account$Balance", name := "credit", desc := "(J)V" } : Jvm.MethodName) prog_35_method_4_code (3 : Nat) (Option.none : Option Jvm.ClassFile.FieldType), Jvm.Cond.code ({ cls := "com/example/orderwire/orderwire/venue/Account$Balance", name := "hold", desc := "(J)V" } : Jvm.MethodName) prog_35_method_6_code (3 : Nat) (Option.none : Option Jvm.ClassFile.FieldType), Jvm.Cond.code ({ cls := "com/example/orderwire/orderwire/venue/Account$Balance", name := "available", desc := "()J" } : Jvm.MethodName) prog_35_method_2_code (1 : Nat) (Option.some Jvm.ClassFile.FieldType.long), Jvm.Cond.code ({ cls := "com/example/orderwire/orderwire/venue/Account$Balance", name := "held", desc := "()J" } : Jvm.MethodName) prog_35_method_3_code (1 : Nat) (Option.some Jvm.ClassFile.FieldType.long), Jvm.Cond.code ({ cls := "com/example/orderwire/orderwire/venue/Account$Balance", name := "release", desc := "(J)V" } : Jvm.MethodName) prog_35_method_7_code (3 : Nat) (Option.none : Option Jvm.ClassFile.FieldType)]
set_option maxRecDepth 65536 in
theorem codes_eq : words1.filter isCode = codes1 := rfl
theorem w_codes : ∀ c ∈ words1.filter isCode, c.before args0 about1 = true := by
  rw [codes_eq]
  intro c hc
  simp only [codes1, List.mem_cons, List.not_mem_nil, or_false] at hc
  rcases hc with rfl | rfl | rfl | rfl | rfl | rfl | rfl | rfl
  · exact w_c0
  · exact w_c1
  · exact w_c2
  · exact w_c3
  · exact w_c4
  · exact w_c5
  · exact w_c6
  · exact w_c7
set_option maxRecDepth 65536 in
theorem w_t1 : (words1.take 24).all (fun c => isCode c || c.before args0 about1) = true := by decide +kernel
set_option maxRecDepth 65536 in
theorem w_t2 : (words1.drop 24).all (fun c => isCode c || c.before args0 about1) = true := by decide +kernel
theorem w_tables : (allAtoms (Jvm.Cond.code x code maxLocals ret :: tables_1)).before args0 about1 = true := by
  rw [allAtoms_all]
  show words1.all (fun c => c.before args0 about1) = true
  refine all_split ?_ w_codes
  rw [← List.take_append_drop 24 words1, List.all_append, w_t1, w_t2]
  rfl
set_option maxRecDepth 65536 in
theorem w_case : (Jvm.Cond.and given_1 narrow_1).before args0 about1 = true := by decide +kernel
theorem w_applies : (headSpec (Jvm.Cond.code x code maxLocals ret :: tables_1) room_1).applies x e0.platform about1 = true :=
  (Spec.applies_iff w_frames).mpr ⟨w_running, w_runnable, w_alone, w_named, w_hears, w_ripe, w_room, w_tables⟩
theorem atStart : AtStart classFile x code maxLocals ret World_1 tables_1 room_1 Calls_1 rest_1 Pre_1 launch0 p0 e0 about1 theMethod args0 below0 :=
  ⟨lists_1, trivial, launch0.admits_env _ _ _, launch0.least_env, fairChoices_fair.cas, fairChoices_fair.clock, w_frames, w_args, w_heap, w_applies, trivial, trivial, w_case⟩
end start1
theorem witness_1 : WitnessClaimed_1 := ⟨start1.p0, start1.e0, start1.about1, start1.theMethod, start1.args0, start1.below0, start1.atStart⟩
end Jvm.Pilot.@@N@@
