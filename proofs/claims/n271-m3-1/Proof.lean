import JvmDerived
import JvmDerived.Pilot.@@N@@Statement
import JvmDerived.Pilot.@@N@@Code
set_option linter.unusedVariables false
set_option linter.unusedSimpArgs false
namespace Jvm.RoadKit
open Sem ClassFile Op Lib Jvm.Stand Jvm.Free Jvm.LawKit
section New
variable {p : Program} {l : Launch} {e : Env} {R : Room} {s : State} {m : MethodId} {args : Array Value} {below : List Frame} {meth : Method} {c : Code} {T : State} {locs : List Loc} {cells slots : Nat}
theorem retI (X : Stand p l e R s m args below meth c T locs cells slots) (hx : p.tables.exec = Jvm.exec) {pc : Nat} {Ls : Array Slot} {z : Int32} {rest : List Value} (hret : meth.sig.returnType = some .int) (hd : decode c.code pc = .ok (.ireturn, 1)) {fs : List Frame}
    (hl : ∀ (f : JFrame) (acts : List Action), f.method = m → f.locked = none → f.entered = [] → (doReturn e (T.setTop f) acts (some (.int z))).1 = T.setFrames fs) : Steps p.tables e below (T.setTop (mkF m pc Ls (.int z :: rest))) (T.setFrames fs) := by
  have hm' : T.vm.method? m = some meth := X.method'
  have hn : narrow .int (.int z) = .int z := rfl
  show Steps p.tables e below (T.setTop { method := m, pc := pc, locals := Ls, stack := _ :: rest, locked := none }) _
  jvm_step X.here [X.here.top, hx, hd, hm', hret, hn]
  first | (intro acts; rw [hl _ acts rfl rfl rfl]) | rw [hl _ _ rfl rfl rfl]
  exact Steps.refl _
theorem own_lrem {g : JFrame} {target : State} (X : Stand p l e R s m args below meth c T locs cells slots) (hx : p.tables.exec = Jvm.exec) (hg : g.method = m) {x y : Int64} {rest : List Value} (hd : decode c.code g.pc = .ok (.lrem, 1)) (hs : g.stack = .long y :: .long x :: rest) (hy : y ≠ 0)
    (hr : Steps p.tables e below (T.setTop { g with pc := g.pc + 1, stack := .long (x % y) :: rest }) target) : Steps p.tables e below (T.setTop g) target :=
  XS.lrem X.here hx hg hd hs hy (by first | exact hr | (rw [lrem_mod]; exact hr))
end New
end Jvm.RoadKit
namespace Jvm.Pilot.@@N@@
open Jvm Jvm.ClassFile Sem Op Lib Jvm.Free Jvm.Stand Jvm.LawKit Jvm.RoadKit Bundle Jvm.Pilot.@@N@@.Jvm.D
/-- from the state A the body returns with QQ -/
def own_Go (p : Program) (e : Env) (below : List Frame) (s : State) (QQ : Option Value → Heap → List Loc → Prop) (k n : Nat) (A : State) : Prop :=
  ∃ U o, Steps p.tables e below A U ∧ U.status = .running ∧ Ended U below o ∧ ∃ v L, o = .returned v ∧ QQ v U.heap L ∧ FrameEnd s o U L k n
theorem own_go {p : Program} {e : Env} {below : List Frame} {s : State} {QQ : Option Value → Heap → List Loc → Prop} {k n : Nat} {A B : State} (h : ∀ t, Steps p.tables e below B t → Steps p.tables e below A t) (g : own_Go p e below s QQ k n B) : own_Go p e below s QQ k n A := by
  obtain ⟨U, o, h1, r⟩ := g
  exact ⟨U, o, h U h1, r⟩
theorem own_ret {p : Program} {l : Launch} {e : Env} {R : Room} {s : State} {m : MethodId} {args : Array Value} {below : List Frame} {meth : Method} {c : Code} {T : State} {locs : List Loc} {cells slots : Nat} {QQ : Option Value → Heap → List Loc → Prop} {k n : Nat} {A : State}
    (X : Stand p l e R s m args below meth c T locs cells slots) {v : Option Value} (hv : meth.sig.returnType = none → v = none) (hlk : meth.locks = false) (hQ : QQ v T.heap locs) (hk : cells ≤ k) (hn : slots ≤ n)
    (st : ∀ fs, (∀ (f : JFrame) (acts : List Action), f.method = m → f.locked = none → f.entered = [] → (doReturn e (T.setTop f) acts v).1 = T.setFrames fs) → Steps p.tables e below A (T.setFrames fs)) : own_Go p e below s QQ k n A := by
  obtain ⟨fs, hr, hrun, hended, hW, hsame⟩ := X.leave hv hlk
  exact ⟨_, _, st fs hr, hrun, hended, _, _, rfl, hQ, ⟨_, rfl⟩, hW, hsame.mono hk hn⟩
def own_GoW (p : Program) (e : Env) (below : List Frame) (s : State) (QQ : Option Value → Heap → List Loc → Prop) (k n : Nat) (A : State) : Prop :=
  ∃ U o, Steps p.tables e below A U ∧ U.status = .running ∧ Ended U below o ∧ ∃ v L, o = .returned v ∧ QQ v U.heap L ∧ ReturnedEndW s o U L k n
theorem own_goW {p : Program} {e : Env} {below : List Frame} {s : State} {QQ : Option Value → Heap → List Loc → Prop} {k n : Nat} {A B : State} (h : ∀ t, Steps p.tables e below B t → Steps p.tables e below A t) (g : own_GoW p e below s QQ k n B) : own_GoW p e below s QQ k n A := by
  obtain ⟨U, o, h1, r⟩ := g
  exact ⟨U, o, h U h1, r⟩
theorem own_retW {p : Program} {l : Launch} {e : Env} {R : Room} {s : State} {vm₁ : Vm} {m : MethodId} {args : Array Value} {below : List Frame} {meth : Method} {c : Code} {T : State} {locs : List Loc} {cells slots : Nat} {QQ : Option Value → Heap → List Loc → Prop} {k n : Nat} {A : State}
    (X : Stand p l e R (s.setVm vm₁) m args below meth c T locs cells slots) {n1 : Nat} (hS : s.Since vm₁ n1) (hn1 : n1 ≤ T.heap.size) {v : Option Value} (hv : meth.sig.returnType = none → v = none) (hlk : meth.locks = false) (hQ : QQ v T.heap locs) (hk : cells ≤ k) (hn : slots ≤ n)
    (st : ∀ fs, (∀ (f : JFrame) (acts : List Action), f.method = m → f.locked = none → f.entered = [] → (doReturn e (T.setTop f) acts v).1 = T.setFrames fs) → Steps p.tables e below A (T.setFrames fs)) : own_GoW p e below s QQ k n A := by
  obtain ⟨fs, hr, hrun, hended, hq⟩ := X.leaveW hS hn1 hv hlk
  exact ⟨_, _, st fs hr, hrun, hended, _, _, rfl, hQ, hq.1, hq.2.1, hq.2.2.1, hq.2.2.2.mono hk hn⟩
/-- an array by what its places hold -/
def own_Ary (Z : State) (h : Heap) (a : Addr) (ty : FieldType) (n : Nat) (f : Nat → Value) : Prop := ∃ c : Cell, Arr Z h a c ty ∧ c.slots.size = n ∧ ∀ j, j < n → c.slots[j]? = some (f j)
def own_set (f : Nat → Value) (i : Nat) (v : Value) : Nat → Value := fun j => if j = i then v else f j
section
variable {Z : State} {h h' : Heap} {a b : Addr} {ty : FieldType} {n : Nat} {f : Nat → Value}
theorem own_Ary.lt (F : own_Ary Z h a ty n f) : a < h.size := by obtain ⟨c, A, -⟩ := F; exact A.lt
theorem own_Ary.ext (F : own_Ary Z h a ty n f) (E : Ext h h') : own_Ary Z h' a ty n f := by obtain ⟨c, A, r⟩ := F; exact ⟨c, A.ext E, r⟩
theorem own_Ary.other {sl : Nat} {v : Value} (F : own_Ary Z h b ty n f) (W : Wr h h' a sl v) (q : b ≠ a) : own_Ary Z h' b ty n f := by obtain ⟨c, A, r⟩ := F; exact ⟨c, A.other W q, r⟩
theorem own_Ary.keep {ws : List Addr} (F : own_Ary Z h a ty n f) (K : Keep h h' ws) (q : a ∉ ws) : own_Ary Z h' a ty n f := by obtain ⟨c, A, r⟩ := F; exact ⟨c, ⟨K.2.1 a c A.1 q, A.2⟩, r⟩
theorem own_Ary.new {k : ClassId} {z : Int32} (A : Arr Z h a (newA k ty z) ty) (hz : z.toNatClampNeg = n) : own_Ary Z h a ty n (fun _ => defaultValue ty) :=
  ⟨_, A, by rw [sz_new]; exact hz, fun j hj => by simp [newA, hz, hj]⟩
theorem own_Ary.set {c : Cell} {i : Nat} {v : Value} (A : Arr Z h a c ty) (S : c.slots.size = n) (G : ∀ j, j < n → c.slots[j]? = some (f j)) (W : Wr h h' a i v) : own_Ary Z h' a ty n (own_set f i v) := by
  refine ⟨_, A.same W, by rw [sz_set]; exact S, fun j hj => ?_⟩
  simp only [Cell.setSlot, Array.getElem?_setIfInBounds, own_set]
  by_cases q : j = i
  · subst q; simp [S, hj]
  · have q' : ¬ i = j := fun z => q z.symm
    simp [q, q', G j hj]
theorem own_Ary.congr {g : Nat → Value} (F : own_Ary Z h a ty n f) (q : ∀ j, j < n → f j = g j) : own_Ary Z h a ty n g := by
  obtain ⟨c, A, S, G⟩ := F; exact ⟨c, A, S, fun j hj => by rw [G j hj, q j hj]⟩
def own_Ov (Z : State) (h : Heap) (a : Addr) (C : String) : Prop := ∃ c : Cell, h[a]? = some c ∧ Ovr Z c.cls C
theorem own_Ov.ext {C : String} (F : own_Ov Z h a C) (E : Ext h h') : own_Ov Z h' a C := by obtain ⟨c, h1, r⟩ := F; exact ⟨c, E.2 _ _ h1, r⟩
theorem own_Ov.wr {C : String} {sl : Nat} {v : Value} (F : own_Ov Z h a C) (W : Wr h h' b sl v) : own_Ov Z h' a C := by
  obtain ⟨c, h1, r⟩ := F
  obtain ⟨d, a1, a2, -⟩ := wr_at W h1
  exact ⟨d, a1, by rw [a2]; exact r⟩
theorem own_Ov.keep {C : String} {ws : List Addr} (F : own_Ov Z h a C) (K : Keep h h' ws) : own_Ov Z h' a C := by
  obtain ⟨c, h1, r⟩ := F
  obtain ⟨c', h2, h3, -⟩ := K.2.2 a c h1
  exact ⟨c', h2, by rw [h3]; exact r⟩
theorem own_sto {C : String} {c : Cell} {y : Addr} (A : Arr Z h a c ty) (F : own_Ov Z h a C) (I : Ins Z h y C true) : Sto Z h a (.ref y) := by
  obtain ⟨c', h1, r⟩ := F
  cases A.1.symm.trans h1
  exact Sto.of A r I
theorem own_sta_keep {C m d : String} {v : Value} (F : Sta Z h C m d v) (K : Keep h h' []) : Sta Z h' C m d v := by
  obtain ⟨cf, i, k, g, st, cell, h1, h2, h3, h4, h5, r⟩ := F
  exact ⟨cf, i, k, g, st, cell, h1, h2, h3, h4, K.2.1 _ _ h5 nin0, r⟩
theorem own_cl {j : Int32} {i : Nat} (q : j.toInt = (i : Int)) : j.toNatClampNeg = i := by
  show j.toInt.toNat = i
  rw [q]; rfl
theorem own_in {c : Cell} {j : Int32} {i : Nat} (S : c.slots.size = n) (q : j.toInt = (i : Int)) (hi : i < n) : ¬ (j < 0 ∨ c.slots.size ≤ j.toNatClampNeg) := by
  rw [own_cl q, S]
  have h0 : (0 : Int32).toInt = 0 := by decide
  intro z
  rcases z with z | z
  · have := Int32.lt_iff_toInt_lt.mp z; omega
  · omega
end
theorem own_str {a0 : Array Value} {Z : State} (hw : ∀ d ∈ tables_1, d.before a0 Z = true) : ∀ a ∈ Bundle.stringAtoms, a.before a0 Z = true := by
  intro a ha
  simp only [Bundle.stringAtoms, List.mem_cons, List.not_mem_nil, or_false] at ha
  rcases ha with rfl | rfl | rfl | rfl | rfl | rfl | rfl
  · exact hw _ (List.mem_of_getElem? (i := 30) rfl)
  · exact hw _ (List.mem_of_getElem? (i := 31) rfl)
  · exact hw _ (List.mem_of_getElem? (i := 32) rfl)
  · exact hw _ (List.mem_of_getElem? (i := 33) rfl)
  · exact hw _ (List.mem_of_getElem? (i := 34) rfl)
  · exact hw _ (List.mem_of_getElem? (i := 35) rfl)
  · exact hw _ (List.mem_of_getElem? (i := 36) rfl)
theorem own_eqR {Z : State} {args : Array Value} {X F : Term} {idx : List Nat} {a : Addr} (hF : F.eval args Z none idx Z = some (.ref a)) (h : (Jvm.Cond.eq X F).value args Z none Z idx = some true) : X.eval args Z none idx Z = some (.ref a) := by
  obtain ⟨x, y, e1, e2, k1, k2⟩ := cmp_v (Or.inl h)
  cases hF.symm.trans e2
  have hx : x.isRef = true := k2.2
  exact e1.trans (congrArg some (gotT (eq_R e1 e2 hx rfl) h))
theorem own_size {Z : State} {args : Array Value} {t : Term} {a : Addr} {c : Cell} {ty : FieldType} {z : Int32} {n : Nat} (es : t.eval args Z none [] Z = some (.ref a)) (A : Arr Z Z.heap a c ty) (h : (Jvm.Cond.eq (.length t) (.int z)).value args Z none Z [] = some true) (hz : z.toInt = (n : Int)) : c.slots.size = n := by
  have q := eqv_i (Term.int_eval z) h
  have hA := A.fin (Vm.Alike.refl _)
  simp only [Term.eval, es, hA, Option.bind_eq_bind, Option.bind_some] at q
  split at q
  · rename_i hl
    have q' : c.slots.size.toInt32 = z := by simpa using q
    have q2 : (c.slots.size.toInt32).toInt = (c.slots.size : Int) := by
      show (Int32.ofNat c.slots.size).toInt = _
      exact Int32.toInt_ofNat_of_lt hl
    rw [q', hz] at q2
    omega
  · cases q
theorem own_elem {Z : State} {args : Array Value} {t : Term} {a : Addr} {c : Cell} {ty : FieldType} {j : Int32} {i : Nat} {x : Value} (es : t.eval args Z none [] Z = some (.ref a)) (A : Arr Z Z.heap a c ty) (hj : j.toInt = (i : Int)) (h : (Term.elem t (.int j)).eval args Z none [] Z = some x) : c.slots[i]? = some x := by
  have h0 : (0 : Int32).toInt = 0 := by decide
  have hn : ¬ j < 0 := fun q => by have := Int32.lt_iff_toInt_lt.mp q; omega
  rw [elem_f es (Term.int_eval j) (A.fin (Vm.Alike.refl _)) hn, own_cl hj] at h
  exact h
def own_max (x y : Int32) : Int32 := if x < y then y else x
theorem own_n10 {z : Int32} {k : Nat} (h : z.toInt = (k : Int)) (q : k < 10) : ¬ z = (10 : Int32) := fun e => by
  have e10 : (10 : Int32).toInt = 10 := by decide
  rw [e, e10] at h
  omega
theorem own_m3 (x : Int32) : ((x &&& (2147483647 : Int32)) % (3 : Int32)) = (0 : Int32) ∨ ((x &&& (2147483647 : Int32)) % (3 : Int32)) = (1 : Int32) ∨ ((x &&& (2147483647 : Int32)) % (3 : Int32)) = (2 : Int32) := by
  have h1 := c_and x 2147483647 (by decide)
  have h2 := (c_irem (x &&& (2147483647 : Int32)) 3 3 (by decide)).1 h1.1
  generalize ((x &&& (2147483647 : Int32)) % (3 : Int32)) = z at *
  rcases (by omega : z.toInt = 0 ∨ z.toInt = 1 ∨ z.toInt = 2) with q | q | q
  · exact Or.inl (Int32.toInt_inj.mp (by rw [q]; decide))
  · exact Or.inr (Or.inl (Int32.toInt_inj.mp (by rw [q]; decide)))
  · exact Or.inr (Or.inr (Int32.toInt_inj.mp (by rw [q]; decide)))
theorem pn_0 : plainName "java/util/AbstractCollection" = true := by first | (simp [plainName, overriddenIn]; done) | decide +kernel
theorem d3_0 : decode jdk_22_method_1_code 0 = .ok (.aload_n 0, 1) := by decide +kernel
theorem d3_1 : decode jdk_22_method_1_code 1 = .ok (.invokespecial 1, 3) := by decide +kernel
theorem d3_4 : decode jdk_22_method_1_code 4 = .ok (.return_, 1) := by decide +kernel
theorem ef_3 (m : MethodId) (r0 : Addr) : entryFrame m #[(.ref r0)] 1 = mkF m 0 #[.val (.ref r0)] [] := by first | (simp [entryFrame, mkF, argsToLocals, Value.category]; done) | rfl
def Q3 (Z : State) (r0 : Addr) (h0 : Heap) (n0 : Nat) (v : Option Value) (h : Heap) (L : List Loc) : Prop := v = none ∧ Fr n0 L ∧ h = h0
set_option maxRecDepth 65536 in
set_option maxHeartbeats 40000000 in
theorem rm3 (l : Launch) (Z : State) (a0 : Array Value) (hw : ∀ d ∈ tables_1, d.before a0 Z = true) (ws : List Jvm.Cond) (r0 : Addr) (h0 : Heap) (n0 : Nat) (Z0 : n0 ≤ h0.size) :
    MetFree l (⟨"java/util/AbstractCollection", "<init>", "()V"⟩ : MethodName) (head1 (Jvm.Cond.code (⟨"java/util/AbstractCollection", "<init>", "()V"⟩ : MethodName) jdk_22_method_1_code 1 none :: ws) ({ frames := 1, cells := 0, slots := 0, locals := 12 } : Room)) (fun a U => a = #[(.ref r0)] ∧ Z.Warmed39 U.vm ∧ U.heap = h0) (fun _ _ _ _ _ => True) (fun _ U o U' => ∃ v L, o = .returned v ∧ Q3 Z r0 h0 n0 v U'.heap L ∧ FrameEnd U o U' L (({ frames := 1, cells := 0, slots := 0, locals := 12 } : Room)).cells (({ frames := 1, cells := 0, slots := 0, locals := 12 } : Room)).slots) := by
  refine MetFree.of_bodySF (plainFor_of_name pn_0) hisR ?_
  intro p e s m args below meth c s₁ Bd hml0 hP hK
  obtain ⟨rfl, hZ, hh⟩ := hP
  have hx := Bd.exec
  have hby := Bd.bytes
  have hml : c.maxLocals = 1 := hml0
  have hown : s.vm.findClass "java/util/AbstractCollection" = some m.cls := findClass_of_methodNamed Bd.named
  have hnm := (name_of_methodNamed Bd.named Bd.method).1
  have hlk : meth.locks = false := Bd.notSynchronized
  have X0 : Stand p l e ({ frames := 1, cells := 0, slots := 0, locals := 12 } : Room) s m #[(.ref r0)] below meth c s₁ [] 0 0 := Stand.of_body Bd
  have e0 : s₁.heap = h0 := by rw [← hh, Bd.state]; rfl
  have N0 := Fr.nil n0
  have hret := Bd.returns
  show own_Go p e below s (Q3 Z r0 h0 n0) _ _ (s₁.setTop (entryFrame m #[(.ref r0)] 1))
  refine own_go (fun t k => castTop (ef_3 m r0) k) ?_
  show own_Go p e below s _ _ _ (s₁.setTop (mkF m 0 #[.val (.ref r0)] []))
  refine own_go (fun t_ kt_ => XS.aloadN X0.here hx rfl (hb hby d3_0) rfl rfl kt_) ?_
  show own_Go p e below s _ _ _ (s₁.setTop (mkF m 1 #[.val (.ref r0)] [(.ref r0)]))
  obtain ⟨T1, X1, e1, st1⟩ := initO X0 hx hZ hown (hw _ (List.mem_of_getElem? (i := 18) rfl)) (hw _ (List.mem_of_getElem? (i := 19) rfl)) (hw _ (List.mem_of_getElem? (i := 20) rfl)) e0 (g := (mkF m 1 #[.val (.ref r0)] [(.ref r0)])) rfl (by rw [hml]; rfl) rfl (hb hby d3_1) (by decide) (W := 0) (by show 2 * 0 + _ ≤ _; exact Nat.le_of_eq rfl) (by decide)
  refine own_go (fun t_ kt_ => st1 _ kt_) ?_
  show own_Go p e below s _ _ _ (T1.setTop (mkF m 4 #[.val (.ref r0)] []))
  refine own_ret X1 (v := none) (fun _ => rfl) hlk ?_ (by decide) (by decide) (fun fs hr => X1.returnOut hx hret (hb hby d3_4) hr)
  show Q3 Z r0 h0 n0 (none) T1.heap _
  rw [e1]
  exact ⟨rfl, N0, rfl⟩
theorem pn_1 : plainName "java/lang/Record" = true := by first | (simp [plainName, overriddenIn]; done) | decide +kernel
theorem d6_0 : decode jdk_30_method_1_code 0 = .ok (.aload_n 0, 1) := by decide +kernel
theorem d6_1 : decode jdk_30_method_1_code 1 = .ok (.invokespecial 1, 3) := by decide +kernel
theorem d6_4 : decode jdk_30_method_1_code 4 = .ok (.return_, 1) := by decide +kernel
theorem ef_6 (m : MethodId) (r0 : Addr) : entryFrame m #[(.ref r0)] 1 = mkF m 0 #[.val (.ref r0)] [] := by first | (simp [entryFrame, mkF, argsToLocals, Value.category]; done) | rfl
def Q6 (Z : State) (r0 : Addr) (h0 : Heap) (n0 : Nat) (v : Option Value) (h : Heap) (L : List Loc) : Prop := v = none ∧ Fr n0 L ∧ h = h0
set_option maxRecDepth 65536 in
set_option maxHeartbeats 40000000 in
theorem rm6 (l : Launch) (Z : State) (a0 : Array Value) (hw : ∀ d ∈ tables_1, d.before a0 Z = true) (ws : List Jvm.Cond) (r0 : Addr) (h0 : Heap) (n0 : Nat) (Z0 : n0 ≤ h0.size) :
    MetFree l (⟨"java/lang/Record", "<init>", "()V"⟩ : MethodName) (head1 (Jvm.Cond.code (⟨"java/lang/Record", "<init>", "()V"⟩ : MethodName) jdk_30_method_1_code 1 none :: ws) ({ frames := 1, cells := 0, slots := 0, locals := 12 } : Room)) (fun a U => a = #[(.ref r0)] ∧ Z.Warmed39 U.vm ∧ U.heap = h0) (fun _ _ _ _ _ => True) (fun _ U o U' => ∃ v L, o = .returned v ∧ Q6 Z r0 h0 n0 v U'.heap L ∧ FrameEnd U o U' L (({ frames := 1, cells := 0, slots := 0, locals := 12 } : Room)).cells (({ frames := 1, cells := 0, slots := 0, locals := 12 } : Room)).slots) := by
  refine MetFree.of_bodySF (plainFor_of_name pn_1) hisR ?_
  intro p e s m args below meth c s₁ Bd hml0 hP hK
  obtain ⟨rfl, hZ, hh⟩ := hP
  have hx := Bd.exec
  have hby := Bd.bytes
  have hml : c.maxLocals = 1 := hml0
  have hown : s.vm.findClass "java/lang/Record" = some m.cls := findClass_of_methodNamed Bd.named
  have hnm := (name_of_methodNamed Bd.named Bd.method).1
  have hlk : meth.locks = false := Bd.notSynchronized
  have X0 : Stand p l e ({ frames := 1, cells := 0, slots := 0, locals := 12 } : Room) s m #[(.ref r0)] below meth c s₁ [] 0 0 := Stand.of_body Bd
  have e0 : s₁.heap = h0 := by rw [← hh, Bd.state]; rfl
  have N0 := Fr.nil n0
  have hret := Bd.returns
  show own_Go p e below s (Q6 Z r0 h0 n0) _ _ (s₁.setTop (entryFrame m #[(.ref r0)] 1))
  refine own_go (fun t k => castTop (ef_6 m r0) k) ?_
  show own_Go p e below s _ _ _ (s₁.setTop (mkF m 0 #[.val (.ref r0)] []))
  refine own_go (fun t_ kt_ => XS.aloadN X0.here hx rfl (hb hby d6_0) rfl rfl kt_) ?_
  show own_Go p e below s _ _ _ (s₁.setTop (mkF m 1 #[.val (.ref r0)] [(.ref r0)]))
  obtain ⟨T1, X1, e1, st1⟩ := initO X0 hx hZ hown (hw _ (List.mem_of_getElem? (i := 46) rfl)) (hw _ (List.mem_of_getElem? (i := 19) rfl)) (hw _ (List.mem_of_getElem? (i := 20) rfl)) e0 (g := (mkF m 1 #[.val (.ref r0)] [(.ref r0)])) rfl (by rw [hml]; rfl) rfl (hb hby d6_1) (by decide) (W := 0) (by show 2 * 0 + _ ≤ _; exact Nat.le_of_eq rfl) (by decide)
  refine own_go (fun t_ kt_ => st1 _ kt_) ?_
  show own_Go p e below s _ _ _ (T1.setTop (mkF m 4 #[.val (.ref r0)] []))
  refine own_ret X1 (v := none) (fun _ => rfl) hlk ?_ (by decide) (by decide) (fun fs hr => X1.returnOut hx hret (hb hby d6_4) hr)
  show Q6 Z r0 h0 n0 (none) T1.heap _
  rw [e1]
  exact ⟨rfl, N0, rfl⟩
theorem pn_2 : plainName "java/util/AbstractList" = true := by first | (simp [plainName, overriddenIn]; done) | decide +kernel
theorem d2_0 : decode jdk_39_method_1_code 0 = .ok (.aload_n 0, 1) := by decide +kernel
theorem d2_1 : decode jdk_39_method_1_code 1 = .ok (.invokespecial 1, 3) := by decide +kernel
theorem pd_0 : parseMethodDescriptor "()V" = some ⟨[], none⟩ := by decide +kernel
theorem d2_4 : decode jdk_39_method_1_code 4 = .ok (.aload_n 0, 1) := by decide +kernel
theorem d2_5 : decode jdk_39_method_1_code 5 = .ok (.iconst 0, 1) := by decide +kernel
theorem d2_6 : decode jdk_39_method_1_code 6 = .ok (.putfield 7, 3) := by decide +kernel
theorem d2_9 : decode jdk_39_method_1_code 9 = .ok (.return_, 1) := by decide +kernel
theorem ef_2 (m : MethodId) (r0 : Addr) : entryFrame m #[(.ref r0)] 1 = mkF m 0 #[.val (.ref r0)] [] := by first | (simp [entryFrame, mkF, argsToLocals, Value.category]; done) | rfl
def Q2 (Z : State) (r0 : Addr) (h0 : Heap) (n0 : Nat) (v : Option Value) (h : Heap) (L : List Loc) : Prop := v = none ∧ Fr n0 L ∧ Keep h0 h [r0] ∧ Fld Z h r0 "java/util/AbstractList" "modCount" "I" (.int (0 : Int32)) ∧ Fld Z h r0 "java/util/ArrayList" "elementData" "[Ljava/lang/Object;" .null ∧ Fld Z h r0 "java/util/ArrayList" "size" "I" (.int (0 : Int32))
set_option maxRecDepth 65536 in
set_option maxHeartbeats 40000000 in
theorem rm2 (l : Launch) (Z : State) (a0 : Array Value) (hw : ∀ d ∈ tables_1, d.before a0 Z = true) (ws : List Jvm.Cond) (r0 : Addr) (h0 : Heap) (n0 : Nat) (Z0 : n0 ≤ h0.size) (M0 : Fld Z h0 r0 "java/util/AbstractList" "modCount" "I" (.int (0 : Int32))) (D0 : Fld Z h0 r0 "java/util/ArrayList" "elementData" "[Ljava/lang/Object;" .null) (Z1 : Fld Z h0 r0 "java/util/ArrayList" "size" "I" (.int (0 : Int32))) (E0 : Exa Z h0 r0 "java/util/ArrayList") (g0 : n0 ≤ r0) :
    MetFree l (⟨"java/util/AbstractList", "<init>", "()V"⟩ : MethodName) (head1 (Jvm.Cond.code (⟨"java/util/AbstractList", "<init>", "()V"⟩ : MethodName) jdk_39_method_1_code 1 none :: ws) ({ frames := 2, cells := 0, slots := 0, locals := 24 } : Room)) (fun a U => a = #[(.ref r0)] ∧ Z.Warmed39 U.vm ∧ U.heap = h0) (fun _ _ _ _ _ => True) (fun _ U o U' => ∃ v L, o = .returned v ∧ Q2 Z r0 h0 n0 v U'.heap L ∧ FrameEnd U o U' L (({ frames := 2, cells := 0, slots := 0, locals := 24 } : Room)).cells (({ frames := 2, cells := 0, slots := 0, locals := 24 } : Room)).slots) := by
  refine MetFree.of_bodySF (plainFor_of_name pn_2) hisR ?_
  intro p e s m args below meth c s₁ Bd hml0 hP hK
  obtain ⟨rfl, hZ, hh⟩ := hP
  have hx := Bd.exec
  have hby := Bd.bytes
  have hml : c.maxLocals = 1 := hml0
  have hown : s.vm.findClass "java/util/AbstractList" = some m.cls := findClass_of_methodNamed Bd.named
  have hnm := (name_of_methodNamed Bd.named Bd.method).1
  have hlk : meth.locks = false := Bd.notSynchronized
  have X0 : Stand p l e ({ frames := 2, cells := 0, slots := 0, locals := 24 } : Room) s m #[(.ref r0)] below meth c s₁ [] 0 0 := Stand.of_body Bd
  have e0 : s₁.heap = h0 := by rw [← hh, Bd.state]; rfl
  have N0 := Fr.nil n0
  have hret := Bd.returns
  show own_Go p e below s (Q2 Z r0 h0 n0) _ _ (s₁.setTop (entryFrame m #[(.ref r0)] 1))
  refine own_go (fun t k => castTop (ef_2 m r0) k) ?_
  show own_Go p e below s _ _ _ (s₁.setTop (mkF m 0 #[.val (.ref r0)] []))
  refine own_go (fun t_ kt_ => XS.aloadN X0.here hx rfl (hb hby d2_0) rfl rfl kt_) ?_
  show own_Go p e below s _ _ _ (s₁.setTop (mkF m 1 #[.val (.ref r0)] [(.ref r0)]))
  obtain ⟨_, _, ⟨T1, L1, k1, n1⟩, -, X1, ⟨Lc1, hQ1, l1, y1, z1⟩, st1⟩ := X0.specialBack hx (y := (⟨"java/util/AbstractCollection", "<init>", "()V"⟩ : MethodName)) rfl hown (mvT hZ (hw _ (List.mem_of_getElem? (i := 12) rfl))) (mvT hZ (hw _ (List.mem_of_getElem? (i := 13) rfl))) (mvT hZ (hw _ (List.mem_of_getElem? (i := 17) rfl))) (by decide) (backOf (W := 0) (rm3 l Z a0 hw [] (r0) h0 n0 Z0 ) hZ (hw _ (List.mem_of_getElem? (i := 17) rfl)) (hw _ (List.mem_of_getElem? (i := 16) rfl)) (by decide) (by decide)) (g := (mkF m 1 #[.val (.ref r0)] [(.ref r0)])) rfl (by rw [hml]; rfl) (Steps.refl _) (a := r0) (argsL := []) (rest := []) (lenOf pd_0 rfl) rfl (by show 2 * 0 + _ ≤ _; exact Nat.le_of_eq rfl) (hb hby d2_1) (fun _ _ => ⟨rfl, e0, (by decide : 0 + 0 ≤ _), (by decide : 0 + 0 ≤ _)⟩)
  dsimp only [Pt.U, Pt.locs, Pt.cells, Pt.slots] at X1 l1 y1 z1 st1 hQ1
  subst l1 y1 z1
  obtain ⟨rfl, Nq1, eh1⟩ := hQ1
  have N1 := Fr.app N0 Nq1
  refine own_go (fun t_ kt_ => st1.trans kt_) ?_
  obtain ⟨lo1, X1g, N1g⟩ : ∃ lo, Stand p l e ({ frames := 2, cells := 0, slots := 0, locals := 24 } : Room) s m #[(.ref r0)] below meth c T1 lo 0 0 ∧ Fr n0 lo := ⟨_, X1, N1⟩
  have e1 : T1.heap = h0 := eh1
  show own_Go p e below s _ _ _ (T1.setTop (mkF m 4 #[.val (.ref r0)] []))
  refine own_go (fun t_ kt_ => XS.aloadN X1g.here hx rfl (hb hby d2_4) rfl rfl kt_) ?_
  show own_Go p e below s _ _ _ (T1.setTop (mkF m 5 #[.val (.ref r0)] [(.ref r0)]))
  refine own_go (fun t_ kt_ => XS.iconst X1g.here hx rfl (hb hby d2_5) kt_) ?_
  show own_Go p e below s _ _ _ (T1.setTop (mkF m 6 #[.val (.ref r0)] [(.int (0 : Int32)), (.ref r0)]))
  obtain ⟨T2, h2, X2, e2, W2, st2⟩ := putF X1g hx hZ hown (host := "") (Or.inl (hw _ (List.mem_of_getElem? (i := 21) rfl))) Via.refl e1 M0 E0 (Or.inl (hw _ (List.mem_of_getElem? (i := 22) rfl))) (hw _ (List.mem_of_getElem? (i := 1) rfl)) (ty := .int) (by decide) rfl rfl (g := (mkF m 6 #[.val (.ref r0)] [(.int (0 : Int32)), (.ref r0)])) rfl rfl (hb hby d2_6)
  refine own_go (fun t_ kt_ => st2 _ kt_) ?_
  have N2 := Fr.snoc X2 N1g g0
  obtain ⟨lo2, X2g, N2g⟩ : ∃ lo, Stand p l e ({ frames := 2, cells := 0, slots := 0, locals := 24 } : Room) s m #[(.ref r0)] below meth c T2 lo 0 0 ∧ Fr n0 lo := ⟨_, X2, N2⟩
  have ZZ_2 : n0 ≤ h2.size := Nat.le_trans Z0 (Nat.le_of_eq W2.size.symm)
  have FE_2 : Fld Z h2 r0 "java/util/ArrayList" "elementData" "[Ljava/lang/Object;" .null := D0.other W2 (Or.inr (slot_ne (Or.inl (hw _ (List.mem_of_getElem? (i := 25) rfl))) (Or.inl (hw _ (List.mem_of_getElem? (i := 22) rfl))) (by decide) (t := (.array (.object "java/lang/Object"))) (t' := .int) (by decide) (by decide)))
  have FS_2 : Fld Z h2 r0 "java/util/ArrayList" "size" "I" (.int (0 : Int32)) := Z1.other W2 (Or.inr (slot_ne (Or.inl (hw _ (List.mem_of_getElem? (i := 75) rfl))) (Or.inl (hw _ (List.mem_of_getElem? (i := 22) rfl))) (by decide) (t := .int) (t' := .int) (by decide) (by decide)))
  have EE_2 : Exa Z h2 r0 "java/util/ArrayList" := E0.wr W2
  have FM_2 : Fld Z h2 r0 "java/util/AbstractList" "modCount" "I" (.int (0 : Int32)) := M0.same W2
  have K2 : Keep h0 h2 [r0] := (Keep.refl h0 [r0]).wr W2 (Or.inl (by simp))
  show own_Go p e below s _ _ _ (T2.setTop (mkF m 9 #[.val (.ref r0)] []))
  refine own_ret X2g (v := none) (fun _ => rfl) hlk ?_ (by decide) (by decide) (fun fs hr => X2g.returnOut hx hret (hb hby d2_9) hr)
  show Q2 Z r0 h0 n0 (none) T2.heap _
  rw [e2]
  exact ⟨rfl, N2g, K2, FM_2, FE_2, FS_2⟩
theorem own_sta_keepN {Z : State} {h h' : Heap} {C m d : String} {v : Value} {a : Addr} {K : String} (F : Sta Z h C m d v) (Kp : Keep h h' [a]) (E : Exa Z h a K) : Sta Z h' C m d v := by
  obtain ⟨cf, i, k, g, st, cell, h1, h2, h3, h4, h5, h6, r⟩ := F
  refine ⟨cf, i, k, g, st, cell, h1, h2, h3, h4, Kp.2.1 _ _ h5 (ninS (fun e => ?_) nin0), h6, r⟩
  obtain ⟨c2, k2, e1, -, -, e4, -⟩ := E
  rw [← e] at e1
  cases h5.symm.trans e1
  rw [h6] at e4
  cases e4
theorem pn_3 : plainName "java/util/ArrayList" = true := by first | (simp [plainName, overriddenIn]; done) | decide +kernel
theorem d1_0 : decode jdk_38_method_2_code 0 = .ok (.aload_n 0, 1) := by decide +kernel
theorem d1_1 : decode jdk_38_method_2_code 1 = .ok (.invokespecial 1, 3) := by decide +kernel
theorem d1_4 : decode jdk_38_method_2_code 4 = .ok (.aload_n 0, 1) := by decide +kernel
theorem d1_5 : decode jdk_38_method_2_code 5 = .ok (.getstatic 39, 3) := by decide +kernel
theorem d1_8 : decode jdk_38_method_2_code 8 = .ok (.putfield 9, 3) := by decide +kernel
theorem d1_11 : decode jdk_38_method_2_code 11 = .ok (.return_, 1) := by decide +kernel
theorem ef_1 (m : MethodId) (r0 : Addr) : entryFrame m #[(.ref r0)] 1 = mkF m 0 #[.val (.ref r0)] [] := by first | (simp [entryFrame, mkF, argsToLocals, Value.category]; done) | rfl
def Q1 (Z : State) (r0 : Addr) (dea : Addr) (h0 : Heap) (n0 : Nat) (v : Option Value) (h : Heap) (L : List Loc) : Prop := v = none ∧ Fr n0 L ∧ Keep h0 h [r0] ∧ Fld Z h r0 "java/util/AbstractList" "modCount" "I" (.int (0 : Int32)) ∧ Fld Z h r0 "java/util/ArrayList" "elementData" "[Ljava/lang/Object;" (.ref dea) ∧ Fld Z h r0 "java/util/ArrayList" "size" "I" (.int (0 : Int32))
set_option maxRecDepth 65536 in
set_option maxHeartbeats 40000000 in
theorem rm1 (l : Launch) (Z : State) (a0 : Array Value) (hw : ∀ d ∈ tables_1, d.before a0 Z = true) (ws : List Jvm.Cond) (r0 : Addr) (dea : Addr) (h0 : Heap) (n0 : Nat) (Z0 : n0 ≤ h0.size) (M0 : Fld Z h0 r0 "java/util/AbstractList" "modCount" "I" (.int (0 : Int32))) (D0 : Fld Z h0 r0 "java/util/ArrayList" "elementData" "[Ljava/lang/Object;" .null) (Z1 : Fld Z h0 r0 "java/util/ArrayList" "size" "I" (.int (0 : Int32))) (E0 : Exa Z h0 r0 "java/util/ArrayList") (g0 : n0 ≤ r0) (SD : Sta Z h0 "java/util/ArrayList" "DEFAULTCAPACITY_EMPTY_ELEMENTDATA" "[Ljava/lang/Object;" (.ref dea)) :
    MetFree l (⟨"java/util/ArrayList", "<init>", "()V"⟩ : MethodName) (head1 (Jvm.Cond.code (⟨"java/util/ArrayList", "<init>", "()V"⟩ : MethodName) jdk_38_method_2_code 1 none :: ws) ({ frames := 3, cells := 0, slots := 0, locals := 36 } : Room)) (fun a U => a = #[(.ref r0)] ∧ Z.Warmed39 U.vm ∧ U.heap = h0) (fun _ _ _ _ _ => True) (fun _ U o U' => ∃ v L, o = .returned v ∧ Q1 Z r0 dea h0 n0 v U'.heap L ∧ FrameEnd U o U' L (({ frames := 3, cells := 0, slots := 0, locals := 36 } : Room)).cells (({ frames := 3, cells := 0, slots := 0, locals := 36 } : Room)).slots) := by
  refine MetFree.of_bodySF (plainFor_of_name pn_3) hisR ?_
  intro p e s m args below meth c s₁ Bd hml0 hP hK
  obtain ⟨rfl, hZ, hh⟩ := hP
  have hx := Bd.exec
  have hby := Bd.bytes
  have hml : c.maxLocals = 1 := hml0
  have hown : s.vm.findClass "java/util/ArrayList" = some m.cls := findClass_of_methodNamed Bd.named
  have hnm := (name_of_methodNamed Bd.named Bd.method).1
  have hlk : meth.locks = false := Bd.notSynchronized
  have X0 : Stand p l e ({ frames := 3, cells := 0, slots := 0, locals := 36 } : Room) s m #[(.ref r0)] below meth c s₁ [] 0 0 := Stand.of_body Bd
  have e0 : s₁.heap = h0 := by rw [← hh, Bd.state]; rfl
  have N0 := Fr.nil n0
  have hret := Bd.returns
  show own_Go p e below s (Q1 Z r0 dea h0 n0) _ _ (s₁.setTop (entryFrame m #[(.ref r0)] 1))
  refine own_go (fun t k => castTop (ef_1 m r0) k) ?_
  show own_Go p e below s _ _ _ (s₁.setTop (mkF m 0 #[.val (.ref r0)] []))
  refine own_go (fun t_ kt_ => XS.aloadN X0.here hx rfl (hb hby d1_0) rfl rfl kt_) ?_
  show own_Go p e below s _ _ _ (s₁.setTop (mkF m 1 #[.val (.ref r0)] [(.ref r0)]))
  obtain ⟨_, _, ⟨T1, L1, k1, n1⟩, -, X1, ⟨Lc1, hQ1, l1, y1, z1⟩, st1⟩ := X0.specialBack hx (y := (⟨"java/util/AbstractList", "<init>", "()V"⟩ : MethodName)) rfl hown (mvT hZ (hw _ (List.mem_of_getElem? (i := 6) rfl))) (mvT hZ (hw _ (List.mem_of_getElem? (i := 7) rfl))) (mvT hZ (hw _ (List.mem_of_getElem? (i := 11) rfl))) (by decide) (backOf (W := 0) (rm2 l Z a0 hw [] (r0) h0 n0 Z0 M0 D0 Z1 E0 g0) hZ (hw _ (List.mem_of_getElem? (i := 11) rfl)) (hw _ (List.mem_of_getElem? (i := 10) rfl)) (by decide) (by decide)) (g := (mkF m 1 #[.val (.ref r0)] [(.ref r0)])) rfl (by rw [hml]; rfl) (Steps.refl _) (a := r0) (argsL := []) (rest := []) (lenOf pd_0 rfl) rfl (by show 2 * 0 + _ ≤ _; exact Nat.le_of_eq rfl) (hb hby d1_1) (fun _ _ => ⟨rfl, e0, (by decide : 0 + 0 ≤ _), (by decide : 0 + 0 ≤ _)⟩)
  dsimp only [Pt.U, Pt.locs, Pt.cells, Pt.slots] at X1 l1 y1 z1 st1 hQ1
  subst l1 y1 z1
  obtain ⟨rfl, Nq1, Kq1, Fq1a, Fq1b, Fq1c⟩ := hQ1
  have N1 := Fr.app N0 Nq1
  refine own_go (fun t_ kt_ => st1.trans kt_) ?_
  obtain ⟨lo1, X1g, N1g⟩ : ∃ lo, Stand p l e ({ frames := 3, cells := 0, slots := 0, locals := 36 } : Room) s m #[(.ref r0)] below meth c T1 lo 0 0 ∧ Fr n0 lo := ⟨_, X1, N1⟩
  obtain ⟨h1, e1⟩ : ∃ z, T1.heap = z := ⟨_, rfl⟩
  rw [e1] at Kq1 Fq1a Fq1b Fq1c
  have ZZ_1 : n0 ≤ h1.size := Nat.le_trans Z0 Kq1.1
  have EE_1 : Exa Z h1 r0 "java/util/ArrayList" := E0.keep Kq1
  have S_DEFAULTCAPACITY_EMPTY_ELEMENTDATA_1 : Sta Z h1 "java/util/ArrayList" "DEFAULTCAPACITY_EMPTY_ELEMENTDATA" "[Ljava/lang/Object;" (.ref dea) := own_sta_keepN SD Kq1 E0
  have K1 : Keep h0 h1 [r0] := (Keep.refl h0 [r0]).trans Kq1 (allS (Or.inl (by simp)) all0)
  show own_Go p e below s _ _ _ (T1.setTop (mkF m 4 #[.val (.ref r0)] []))
  refine own_go (fun t_ kt_ => XS.aloadN X1g.here hx rfl (hb hby d1_4) rfl rfl kt_) ?_
  show own_Go p e below s _ _ _ (T1.setTop (mkF m 5 #[.val (.ref r0)] [(.ref r0)]))
  obtain ⟨T2, X2, e2, st2⟩ := getS2 X1g hx hZ hown (host := "") (Or.inl (hw _ (List.mem_of_getElem? (i := 23) rfl))) Via.refl e1 S_DEFAULTCAPACITY_EMPTY_ELEMENTDATA_1 (g := (mkF m 5 #[.val (.ref r0)] [(.ref r0)])) rfl (hb hby d1_5)
  refine own_go (fun t_ kt_ => st2 _ kt_) ?_
  show own_Go p e below s _ _ _ (T2.setTop (mkF m 8 #[.val (.ref r0)] [(.ref dea), (.ref r0)]))
  obtain ⟨T3, h3, X3, e3, W3, st3⟩ := putF X2 hx hZ hown (host := "") (Or.inl (hw _ (List.mem_of_getElem? (i := 24) rfl))) Via.refl e2 Fq1b EE_1 (Or.inl (hw _ (List.mem_of_getElem? (i := 25) rfl))) (hw _ (List.mem_of_getElem? (i := 1) rfl)) (ty := (.array (.object "java/lang/Object"))) (by decide) rfl rfl (g := (mkF m 8 #[.val (.ref r0)] [(.ref dea), (.ref r0)])) rfl rfl (hb hby d1_8)
  refine own_go (fun t_ kt_ => st3 _ kt_) ?_
  have N3 := Fr.snoc X3 N1g g0
  obtain ⟨lo3, X3g, N3g⟩ : ∃ lo, Stand p l e ({ frames := 3, cells := 0, slots := 0, locals := 36 } : Room) s m #[(.ref r0)] below meth c T3 lo 0 0 ∧ Fr n0 lo := ⟨_, X3, N3⟩
  have ZZ_3 : n0 ≤ h3.size := Nat.le_trans ZZ_1 (Nat.le_of_eq W3.size.symm)
  have EE_3 : Exa Z h3 r0 "java/util/ArrayList" := EE_1.wr W3
  have S_DEFAULTCAPACITY_EMPTY_ELEMENTDATA_3 : Sta Z h3 "java/util/ArrayList" "DEFAULTCAPACITY_EMPTY_ELEMENTDATA" "[Ljava/lang/Object;" (.ref dea) := S_DEFAULTCAPACITY_EMPTY_ELEMENTDATA_1.wr W3
  have FM_3 : Fld Z h3 r0 "java/util/AbstractList" "modCount" "I" (.int (0 : Int32)) := Fq1a.other W3 (Or.inr (slot_ne (Or.inl (hw _ (List.mem_of_getElem? (i := 22) rfl))) (Or.inl (hw _ (List.mem_of_getElem? (i := 25) rfl))) (by decide) (t := .int) (t' := (.array (.object "java/lang/Object"))) (by decide) (by decide)))
  have FS_3 : Fld Z h3 r0 "java/util/ArrayList" "size" "I" (.int (0 : Int32)) := Fq1c.other W3 (Or.inr (slot_ne (Or.inl (hw _ (List.mem_of_getElem? (i := 75) rfl))) (Or.inl (hw _ (List.mem_of_getElem? (i := 25) rfl))) (by decide) (t := .int) (t' := (.array (.object "java/lang/Object"))) (by decide) (by decide)))
  have FE_3 : Fld Z h3 r0 "java/util/ArrayList" "elementData" "[Ljava/lang/Object;" (.ref dea) := Fq1b.same W3
  have K3 : Keep h0 h3 [r0] := K1.wr W3 (Or.inl (by simp))
  show own_Go p e below s _ _ _ (T3.setTop (mkF m 11 #[.val (.ref r0)] []))
  refine own_ret X3g (v := none) (fun _ => rfl) hlk ?_ (by decide) (by decide) (fun fs hr => X3g.returnOut hx hret (hb hby d1_11) hr)
  show Q1 Z r0 dea h0 n0 (none) T3.heap _
  rw [e3]
  exact ⟨rfl, N3g, K3, FM_3, FE_3, FS_3⟩
theorem pn_4 : plainName "com/example/lint_for_clocks/lintforclocks/model/Edge" = true := by first | (simp [plainName, overriddenIn]; done) | decide +kernel
theorem d5_0 : decode prog_6_method_1_code 0 = .ok (.aload_n 0, 1) := by decide +kernel
theorem d5_1 : decode prog_6_method_1_code 1 = .ok (.invokespecial 1, 3) := by decide +kernel
theorem d5_4 : decode prog_6_method_1_code 4 = .ok (.aload_n 0, 1) := by decide +kernel
theorem d5_5 : decode prog_6_method_1_code 5 = .ok (.aload_n 1, 1) := by decide +kernel
theorem d5_6 : decode prog_6_method_1_code 6 = .ok (.putfield 7, 3) := by decide +kernel
theorem d5_9 : decode prog_6_method_1_code 9 = .ok (.aload_n 0, 1) := by decide +kernel
theorem d5_10 : decode prog_6_method_1_code 10 = .ok (.aload_n 2, 1) := by decide +kernel
theorem d5_11 : decode prog_6_method_1_code 11 = .ok (.putfield 13, 3) := by decide +kernel
theorem d5_14 : decode prog_6_method_1_code 14 = .ok (.aload_n 0, 1) := by decide +kernel
theorem d5_15 : decode prog_6_method_1_code 15 = .ok (.iload_n 3, 1) := by decide +kernel
theorem d5_16 : decode prog_6_method_1_code 16 = .ok (.putfield 16, 3) := by decide +kernel
theorem d5_19 : decode prog_6_method_1_code 19 = .ok (.aload_n 0, 1) := by decide +kernel
theorem d5_20 : decode prog_6_method_1_code 20 = .ok (.aload 4, 2) := by decide +kernel
theorem d5_22 : decode prog_6_method_1_code 22 = .ok (.putfield 20, 3) := by decide +kernel
theorem d5_25 : decode prog_6_method_1_code 25 = .ok (.aload_n 0, 1) := by decide +kernel
theorem d5_26 : decode prog_6_method_1_code 26 = .ok (.aload 5, 2) := by decide +kernel
theorem d5_28 : decode prog_6_method_1_code 28 = .ok (.putfield 24, 3) := by decide +kernel
theorem d5_31 : decode prog_6_method_1_code 31 = .ok (.aload_n 0, 1) := by decide +kernel
theorem d5_32 : decode prog_6_method_1_code 32 = .ok (.aload 6, 2) := by decide +kernel
theorem d5_34 : decode prog_6_method_1_code 34 = .ok (.putfield 27, 3) := by decide +kernel
theorem d5_37 : decode prog_6_method_1_code 37 = .ok (.aload_n 0, 1) := by decide +kernel
theorem d5_38 : decode prog_6_method_1_code 38 = .ok (.aload 7, 2) := by decide +kernel
theorem d5_40 : decode prog_6_method_1_code 40 = .ok (.putfield 31, 3) := by decide +kernel
theorem d5_43 : decode prog_6_method_1_code 43 = .ok (.aload_n 0, 1) := by decide +kernel
theorem d5_44 : decode prog_6_method_1_code 44 = .ok (.aload 8, 2) := by decide +kernel
theorem d5_46 : decode prog_6_method_1_code 46 = .ok (.putfield 35, 3) := by decide +kernel
theorem d5_49 : decode prog_6_method_1_code 49 = .ok (.return_, 1) := by decide +kernel
theorem ef_5 (m : MethodId) (r0 : Addr) (r1 : Addr) (r2 : Addr) (p3 : Int32) : entryFrame m #[(.ref r0), (.ref r1), (.ref r2), (.int p3), .null, .null, .null, .null, .null] 9 = mkF m 0 #[.val (.ref r0), .val (.ref r1), .val (.ref r2), .val (.int p3), .val .null, .val .null, .val .null, .val .null, .val .null] [] := by first | (simp [entryFrame, mkF, argsToLocals, Value.category]; done) | rfl
def Q5 (Z : State) (r0 : Addr) (r1 : Addr) (r2 : Addr) (p3 : Int32) (h0 : Heap) (n0 : Nat) (v : Option Value) (h : Heap) (L : List Loc) : Prop := v = none ∧ Fr n0 L ∧ Keep h0 h [r0] ∧ Fld Z h r0 "com/example/lint_for_clocks/lintforclocks/model/Edge" "line" "I" (.int p3)
set_option maxRecDepth 65536 in
set_option maxHeartbeats 40000000 in
theorem rm5 (l : Launch) (Z : State) (a0 : Array Value) (hw : ∀ d ∈ tables_1, d.before a0 Z = true) (ws : List Jvm.Cond) (r0 : Addr) (r1 : Addr) (r2 : Addr) (p3 : Int32) (h0 : Heap) (n0 : Nat) (Z0 : n0 ≤ h0.size) (F_source : Fld Z h0 r0 "com/example/lint_for_clocks/lintforclocks/model/Edge" "source" "Ljava/lang/String;" .null) (F_target : Fld Z h0 r0 "com/example/lint_for_clocks/lintforclocks/model/Edge" "target" "Ljava/lang/String;" .null) (F_line : Fld Z h0 r0 "com/example/lint_for_clocks/lintforclocks/model/Edge" "line" "I" (.int (0 : Int32))) (F_labels : Fld Z h0 r0 "com/example/lint_for_clocks/lintforclocks/model/Edge" "labels" "Ljava/util/List;" .null) (F_selects : Fld Z h0 r0 "com/example/lint_for_clocks/lintforclocks/model/Edge" "selects" "Ljava/util/List;" .null) (F_guard : Fld Z h0 r0 "com/example/lint_for_clocks/lintforclocks/model/Edge" "guard" "Lcom/example/lint_for_clocks/lintforclocks/model/Expr;" .null) (F_synchronisation : Fld Z h0 r0 "com/example/lint_for_clocks/lintforclocks/model/Edge" "synchronisation" "Lcom/example/lint_for_clocks/lintforclocks/model/Synchronisation;" .null) (F_assignments : Fld Z h0 r0 "com/example/lint_for_clocks/lintforclocks/model/Edge" "assignments" "Ljava/util/List;" .null) (E0 : Exa Z h0 r0 "com/example/lint_for_clocks/lintforclocks/model/Edge") (g0 : n0 ≤ r0) :
    MetFree l (⟨"com/example/lint_for_clocks/lintforclocks/model/Edge", "<init>", "(Ljava/lang/String;Ljava/lang/String;ILjava/util/List;Ljava/util/List;Lcom/example/lint_for_clocks/lintforclocks/model/Expr;Lcom/example/lint_for_clocks/lintforclocks/model/Synchronisation;Ljava/util/List;)V"⟩ : MethodName) (head1 (Jvm.Cond.code (⟨"com/example/lint_for_clocks/lintforclocks/model/Edge", "<init>", "(Ljava/lang/String;Ljava/lang/String;ILjava/util/List;Ljava/util/List;Lcom/example/lint_for_clocks/lintforclocks/model/Expr;Lcom/example/lint_for_clocks/lintforclocks/model/Synchronisation;Ljava/util/List;)V"⟩ : MethodName) prog_6_method_1_code 9 none :: ws) ({ frames := 2, cells := 0, slots := 0, locals := 24 } : Room)) (fun a U => a = #[(.ref r0), (.ref r1), (.ref r2), (.int p3), .null, .null, .null, .null, .null] ∧ Z.Warmed39 U.vm ∧ U.heap = h0) (fun _ _ _ _ _ => True) (fun _ U o U' => ∃ v L, o = .returned v ∧ Q5 Z r0 r1 r2 p3 h0 n0 v U'.heap L ∧ FrameEnd U o U' L (({ frames := 2, cells := 0, slots := 0, locals := 24 } : Room)).cells (({ frames := 2, cells := 0, slots := 0, locals := 24 } : Room)).slots) := by
  refine MetFree.of_bodySF (plainFor_of_name pn_4) hisR ?_
  intro p e s m args below meth c s₁ Bd hml0 hP hK
  obtain ⟨rfl, hZ, hh⟩ := hP
  have hx := Bd.exec
  have hby := Bd.bytes
  have hml : c.maxLocals = 9 := hml0
  have hown : s.vm.findClass "com/example/lint_for_clocks/lintforclocks/model/Edge" = some m.cls := findClass_of_methodNamed Bd.named
  have hnm := (name_of_methodNamed Bd.named Bd.method).1
  have hlk : meth.locks = false := Bd.notSynchronized
  have X0 : Stand p l e ({ frames := 2, cells := 0, slots := 0, locals := 24 } : Room) s m #[(.ref r0), (.ref r1), (.ref r2), (.int p3), .null, .null, .null, .null, .null] below meth c s₁ [] 0 0 := Stand.of_body Bd
  have e0 : s₁.heap = h0 := by rw [← hh, Bd.state]; rfl
  have N0 := Fr.nil n0
  have hret := Bd.returns
  show own_Go p e below s (Q5 Z r0 r1 r2 p3 h0 n0) _ _ (s₁.setTop (entryFrame m #[(.ref r0), (.ref r1), (.ref r2), (.int p3), .null, .null, .null, .null, .null] 9))
  refine own_go (fun t k => castTop (ef_5 m r0 r1 r2 p3) k) ?_
  show own_Go p e below s _ _ _ (s₁.setTop (mkF m 0 #[.val (.ref r0), .val (.ref r1), .val (.ref r2), .val (.int p3), .val .null, .val .null, .val .null, .val .null, .val .null] []))
  refine own_go (fun t_ kt_ => XS.aloadN X0.here hx rfl (hb hby d5_0) rfl rfl kt_) ?_
  show own_Go p e below s _ _ _ (s₁.setTop (mkF m 1 #[.val (.ref r0), .val (.ref r1), .val (.ref r2), .val (.int p3), .val .null, .val .null, .val .null, .val .null, .val .null] [(.ref r0)]))
  obtain ⟨_, _, ⟨T1, L1, k1, n1⟩, -, X1, ⟨Lc1, hQ1, l1, y1, z1⟩, st1⟩ := X0.specialBack hx (y := (⟨"java/lang/Record", "<init>", "()V"⟩ : MethodName)) rfl hown (mvT hZ (hw _ (List.mem_of_getElem? (i := 41) rfl))) (mvT hZ (hw _ (List.mem_of_getElem? (i := 42) rfl))) (mvT hZ (hw _ (List.mem_of_getElem? (i := 45) rfl))) (by decide) (backOf (W := 0) (rm6 l Z a0 hw [] (r0) h0 n0 Z0 ) hZ (hw _ (List.mem_of_getElem? (i := 45) rfl)) (hw _ (List.mem_of_getElem? (i := 44) rfl)) (by decide) (by decide)) (g := (mkF m 1 #[.val (.ref r0), .val (.ref r1), .val (.ref r2), .val (.int p3), .val .null, .val .null, .val .null, .val .null, .val .null] [(.ref r0)])) rfl (by rw [hml]; rfl) (Steps.refl _) (a := r0) (argsL := []) (rest := []) (lenOf pd_0 rfl) rfl (by show 2 * 0 + _ ≤ _; exact Nat.le_of_eq rfl) (hb hby d5_1) (fun _ _ => ⟨rfl, e0, (by decide : 0 + 0 ≤ _), (by decide : 0 + 0 ≤ _)⟩)
  dsimp only [Pt.U, Pt.locs, Pt.cells, Pt.slots] at X1 l1 y1 z1 st1 hQ1
  subst l1 y1 z1
  obtain ⟨rfl, Nq1, eh1⟩ := hQ1
  have N1 := Fr.app N0 Nq1
  refine own_go (fun t_ kt_ => st1.trans kt_) ?_
  obtain ⟨lo1, X1g, N1g⟩ : ∃ lo, Stand p l e ({ frames := 2, cells := 0, slots := 0, locals := 24 } : Room) s m #[(.ref r0), (.ref r1), (.ref r2), (.int p3), .null, .null, .null, .null, .null] below meth c T1 lo 0 0 ∧ Fr n0 lo := ⟨_, X1, N1⟩
  have e1 : T1.heap = h0 := eh1
  show own_Go p e below s _ _ _ (T1.setTop (mkF m 4 #[.val (.ref r0), .val (.ref r1), .val (.ref r2), .val (.int p3), .val .null, .val .null, .val .null, .val .null, .val .null] []))
  refine own_go (fun t_ kt_ => XS.aloadN X1g.here hx rfl (hb hby d5_4) rfl rfl kt_) ?_
  show own_Go p e below s _ _ _ (T1.setTop (mkF m 5 #[.val (.ref r0), .val (.ref r1), .val (.ref r2), .val (.int p3), .val .null, .val .null, .val .null, .val .null, .val .null] [(.ref r0)]))
  refine own_go (fun t_ kt_ => XS.aloadN X1g.here hx rfl (hb hby d5_5) rfl rfl kt_) ?_
  show own_Go p e below s _ _ _ (T1.setTop (mkF m 6 #[.val (.ref r0), .val (.ref r1), .val (.ref r2), .val (.int p3), .val .null, .val .null, .val .null, .val .null, .val .null] [(.ref r1), (.ref r0)]))
  obtain ⟨T2, h2, X2, e2, W2, st2⟩ := putF X1g hx hZ hown (host := "") (Or.inl (hw _ (List.mem_of_getElem? (i := 47) rfl))) Via.refl e1 F_source E0 (Or.inr ⟨(hw _ (List.mem_of_getElem? (i := 48) rfl)), rfl, hnm⟩) (hw _ (List.mem_of_getElem? (i := 27) rfl)) (ty := (.object "java/lang/String")) (by decide) rfl rfl (g := (mkF m 6 #[.val (.ref r0), .val (.ref r1), .val (.ref r2), .val (.int p3), .val .null, .val .null, .val .null, .val .null, .val .null] [(.ref r1), (.ref r0)])) rfl rfl (hb hby d5_6)
  refine own_go (fun t_ kt_ => st2 _ kt_) ?_
  have N2 := Fr.snoc X2 N1g g0
  obtain ⟨lo2, X2g, N2g⟩ : ∃ lo, Stand p l e ({ frames := 2, cells := 0, slots := 0, locals := 24 } : Room) s m #[(.ref r0), (.ref r1), (.ref r2), (.int p3), .null, .null, .null, .null, .null] below meth c T2 lo 0 0 ∧ Fr n0 lo := ⟨_, X2, N2⟩
  have ZZ_2 : n0 ≤ h2.size := Nat.le_trans Z0 (Nat.le_of_eq W2.size.symm)
  have EE_2 : Exa Z h2 r0 "com/example/lint_for_clocks/lintforclocks/model/Edge" := E0.wr W2
  have F_target_2 : Fld Z h2 r0 "com/example/lint_for_clocks/lintforclocks/model/Edge" "target" "Ljava/lang/String;" .null := F_target.other W2 (Or.inr (slot_ne (Or.inr (hw _ (List.mem_of_getElem? (i := 50) rfl))) (Or.inr (hw _ (List.mem_of_getElem? (i := 48) rfl))) (by decide) (t := (.object "java/lang/String")) (t' := (.object "java/lang/String")) (by decide) (by decide)))
  have F_line_2 : Fld Z h2 r0 "com/example/lint_for_clocks/lintforclocks/model/Edge" "line" "I" (.int (0 : Int32)) := F_line.other W2 (Or.inr (slot_ne (Or.inr (hw _ (List.mem_of_getElem? (i := 52) rfl))) (Or.inr (hw _ (List.mem_of_getElem? (i := 48) rfl))) (by decide) (t := .int) (t' := (.object "java/lang/String")) (by decide) (by decide)))
  have F_labels_2 : Fld Z h2 r0 "com/example/lint_for_clocks/lintforclocks/model/Edge" "labels" "Ljava/util/List;" .null := F_labels.other W2 (Or.inr (slot_ne (Or.inr (hw _ (List.mem_of_getElem? (i := 54) rfl))) (Or.inr (hw _ (List.mem_of_getElem? (i := 48) rfl))) (by decide) (t := (.object "java/util/List")) (t' := (.object "java/lang/String")) (by decide) (by decide)))
  have F_selects_2 : Fld Z h2 r0 "com/example/lint_for_clocks/lintforclocks/model/Edge" "selects" "Ljava/util/List;" .null := F_selects.other W2 (Or.inr (slot_ne (Or.inr (hw _ (List.mem_of_getElem? (i := 56) rfl))) (Or.inr (hw _ (List.mem_of_getElem? (i := 48) rfl))) (by decide) (t := (.object "java/util/List")) (t' := (.object "java/lang/String")) (by decide) (by decide)))
  have F_guard_2 : Fld Z h2 r0 "com/example/lint_for_clocks/lintforclocks/model/Edge" "guard" "Lcom/example/lint_for_clocks/lintforclocks/model/Expr;" .null := F_guard.other W2 (Or.inr (slot_ne (Or.inr (hw _ (List.mem_of_getElem? (i := 58) rfl))) (Or.inr (hw _ (List.mem_of_getElem? (i := 48) rfl))) (by decide) (t := (.object "com/example/lint_for_clocks/lintforclocks/model/Expr")) (t' := (.object "java/lang/String")) (by decide) (by decide)))
  have F_synchronisation_2 : Fld Z h2 r0 "com/example/lint_for_clocks/lintforclocks/model/Edge" "synchronisation" "Lcom/example/lint_for_clocks/lintforclocks/model/Synchronisation;" .null := F_synchronisation.other W2 (Or.inr (slot_ne (Or.inr (hw _ (List.mem_of_getElem? (i := 60) rfl))) (Or.inr (hw _ (List.mem_of_getElem? (i := 48) rfl))) (by decide) (t := (.object "com/example/lint_for_clocks/lintforclocks/model/Synchronisation")) (t' := (.object "java/lang/String")) (by decide) (by decide)))
  have F_assignments_2 : Fld Z h2 r0 "com/example/lint_for_clocks/lintforclocks/model/Edge" "assignments" "Ljava/util/List;" .null := F_assignments.other W2 (Or.inr (slot_ne (Or.inr (hw _ (List.mem_of_getElem? (i := 62) rfl))) (Or.inr (hw _ (List.mem_of_getElem? (i := 48) rfl))) (by decide) (t := (.object "java/util/List")) (t' := (.object "java/lang/String")) (by decide) (by decide)))
  have F_source_2 : Fld Z h2 r0 "com/example/lint_for_clocks/lintforclocks/model/Edge" "source" "Ljava/lang/String;" (.ref r1) := F_source.same W2
  have K2 : Keep h0 h2 [r0] := (Keep.refl h0 [r0]).wr W2 (Or.inl (by simp))
  show own_Go p e below s _ _ _ (T2.setTop (mkF m 9 #[.val (.ref r0), .val (.ref r1), .val (.ref r2), .val (.int p3), .val .null, .val .null, .val .null, .val .null, .val .null] []))
  refine own_go (fun t_ kt_ => XS.aloadN X2g.here hx rfl (hb hby d5_9) rfl rfl kt_) ?_
  show own_Go p e below s _ _ _ (T2.setTop (mkF m 10 #[.val (.ref r0), .val (.ref r1), .val (.ref r2), .val (.int p3), .val .null, .val .null, .val .null, .val .null, .val .null] [(.ref r0)]))
  refine own_go (fun t_ kt_ => XS.aloadN X2g.here hx rfl (hb hby d5_10) rfl rfl kt_) ?_
  show own_Go p e below s _ _ _ (T2.setTop (mkF m 11 #[.val (.ref r0), .val (.ref r1), .val (.ref r2), .val (.int p3), .val .null, .val .null, .val .null, .val .null, .val .null] [(.ref r2), (.ref r0)]))
  obtain ⟨T3, h3, X3, e3, W3, st3⟩ := putF X2g hx hZ hown (host := "") (Or.inl (hw _ (List.mem_of_getElem? (i := 49) rfl))) Via.refl e2 F_target_2 EE_2 (Or.inr ⟨(hw _ (List.mem_of_getElem? (i := 50) rfl)), rfl, hnm⟩) (hw _ (List.mem_of_getElem? (i := 27) rfl)) (ty := (.object "java/lang/String")) (by decide) rfl rfl (g := (mkF m 11 #[.val (.ref r0), .val (.ref r1), .val (.ref r2), .val (.int p3), .val .null, .val .null, .val .null, .val .null, .val .null] [(.ref r2), (.ref r0)])) rfl rfl (hb hby d5_11)
  refine own_go (fun t_ kt_ => st3 _ kt_) ?_
  have N3 := Fr.snoc X3 N2g g0
  obtain ⟨lo3, X3g, N3g⟩ : ∃ lo, Stand p l e ({ frames := 2, cells := 0, slots := 0, locals := 24 } : Room) s m #[(.ref r0), (.ref r1), (.ref r2), (.int p3), .null, .null, .null, .null, .null] below meth c T3 lo 0 0 ∧ Fr n0 lo := ⟨_, X3, N3⟩
  have ZZ_3 : n0 ≤ h3.size := Nat.le_trans ZZ_2 (Nat.le_of_eq W3.size.symm)
  have EE_3 : Exa Z h3 r0 "com/example/lint_for_clocks/lintforclocks/model/Edge" := EE_2.wr W3
  have F_source_3 : Fld Z h3 r0 "com/example/lint_for_clocks/lintforclocks/model/Edge" "source" "Ljava/lang/String;" (.ref r1) := F_source_2.other W3 (Or.inr (slot_ne (Or.inr (hw _ (List.mem_of_getElem? (i := 48) rfl))) (Or.inr (hw _ (List.mem_of_getElem? (i := 50) rfl))) (by decide) (t := (.object "java/lang/String")) (t' := (.object "java/lang/String")) (by decide) (by decide)))
  have F_line_3 : Fld Z h3 r0 "com/example/lint_for_clocks/lintforclocks/model/Edge" "line" "I" (.int (0 : Int32)) := F_line_2.other W3 (Or.inr (slot_ne (Or.inr (hw _ (List.mem_of_getElem? (i := 52) rfl))) (Or.inr (hw _ (List.mem_of_getElem? (i := 50) rfl))) (by decide) (t := .int) (t' := (.object "java/lang/String")) (by decide) (by decide)))
  have F_labels_3 : Fld Z h3 r0 "com/example/lint_for_clocks/lintforclocks/model/Edge" "labels" "Ljava/util/List;" .null := F_labels_2.other W3 (Or.inr (slot_ne (Or.inr (hw _ (List.mem_of_getElem? (i := 54) rfl))) (Or.inr (hw _ (List.mem_of_getElem? (i := 50) rfl))) (by decide) (t := (.object "java/util/List")) (t' := (.object "java/lang/String")) (by decide) (by decide)))
  have F_selects_3 : Fld Z h3 r0 "com/example/lint_for_clocks/lintforclocks/model/Edge" "selects" "Ljava/util/List;" .null := F_selects_2.other W3 (Or.inr (slot_ne (Or.inr (hw _ (List.mem_of_getElem? (i := 56) rfl))) (Or.inr (hw _ (List.mem_of_getElem? (i := 50) rfl))) (by decide) (t := (.object "java/util/List")) (t' := (.object "java/lang/String")) (by decide) (by decide)))
  have F_guard_3 : Fld Z h3 r0 "com/example/lint_for_clocks/lintforclocks/model/Edge" "guard" "Lcom/example/lint_for_clocks/lintforclocks/model/Expr;" .null := F_guard_2.other W3 (Or.inr (slot_ne (Or.inr (hw _ (List.mem_of_getElem? (i := 58) rfl))) (Or.inr (hw _ (List.mem_of_getElem? (i := 50) rfl))) (by decide) (t := (.object "com/example/lint_for_clocks/lintforclocks/model/Expr")) (t' := (.object "java/lang/String")) (by decide) (by decide)))
  have F_synchronisation_3 : Fld Z h3 r0 "com/example/lint_for_clocks/lintforclocks/model/Edge" "synchronisation" "Lcom/example/lint_for_clocks/lintforclocks/model/Synchronisation;" .null := F_synchronisation_2.other W3 (Or.inr (slot_ne (Or.inr (hw _ (List.mem_of_getElem? (i := 60) rfl))) (Or.inr (hw _ (List.mem_of_getElem? (i := 50) rfl))) (by decide) (t := (.object "com/example/lint_for_clocks/lintforclocks/model/Synchronisation")) (t' := (.object "java/lang/String")) (by decide) (by decide)))
  have F_assignments_3 : Fld Z h3 r0 "com/example/lint_for_clocks/lintforclocks/model/Edge" "assignments" "Ljava/util/List;" .null := F_assignments_2.other W3 (Or.inr (slot_ne (Or.inr (hw _ (List.mem_of_getElem? (i := 62) rfl))) (Or.inr (hw _ (List.mem_of_getElem? (i := 50) rfl))) (by decide) (t := (.object "java/util/List")) (t' := (.object "java/lang/String")) (by decide) (by decide)))
  have F_target_3 : Fld Z h3 r0 "com/example/lint_for_clocks/lintforclocks/model/Edge" "target" "Ljava/lang/String;" (.ref r2) := F_target_2.same W3
  have K3 : Keep h0 h3 [r0] := K2.wr W3 (Or.inl (by simp))
  show own_Go p e below s _ _ _ (T3.setTop (mkF m 14 #[.val (.ref r0), .val (.ref r1), .val (.ref r2), .val (.int p3), .val .null, .val .null, .val .null, .val .null, .val .null] []))
  refine own_go (fun t_ kt_ => XS.aloadN X3g.here hx rfl (hb hby d5_14) rfl rfl kt_) ?_
  show own_Go p e below s _ _ _ (T3.setTop (mkF m 15 #[.val (.ref r0), .val (.ref r1), .val (.ref r2), .val (.int p3), .val .null, .val .null, .val .null, .val .null, .val .null] [(.ref r0)]))
  refine own_go (fun t_ kt_ => XS.iloadN X3g.here hx rfl (hb hby d5_15) rfl kt_) ?_
  show own_Go p e below s _ _ _ (T3.setTop (mkF m 16 #[.val (.ref r0), .val (.ref r1), .val (.ref r2), .val (.int p3), .val .null, .val .null, .val .null, .val .null, .val .null] [(.int p3), (.ref r0)]))
  obtain ⟨T4, h4, X4, e4, W4, st4⟩ := putF X3g hx hZ hown (host := "") (Or.inl (hw _ (List.mem_of_getElem? (i := 51) rfl))) Via.refl e3 F_line_3 EE_3 (Or.inr ⟨(hw _ (List.mem_of_getElem? (i := 52) rfl)), rfl, hnm⟩) (hw _ (List.mem_of_getElem? (i := 27) rfl)) (ty := .int) (by decide) rfl rfl (g := (mkF m 16 #[.val (.ref r0), .val (.ref r1), .val (.ref r2), .val (.int p3), .val .null, .val .null, .val .null, .val .null, .val .null] [(.int p3), (.ref r0)])) rfl rfl (hb hby d5_16)
  refine own_go (fun t_ kt_ => st4 _ kt_) ?_
  have N4 := Fr.snoc X4 N3g g0
  obtain ⟨lo4, X4g, N4g⟩ : ∃ lo, Stand p l e ({ frames := 2, cells := 0, slots := 0, locals := 24 } : Room) s m #[(.ref r0), (.ref r1), (.ref r2), (.int p3), .null, .null, .null, .null, .null] below meth c T4 lo 0 0 ∧ Fr n0 lo := ⟨_, X4, N4⟩
  have ZZ_4 : n0 ≤ h4.size := Nat.le_trans ZZ_3 (Nat.le_of_eq W4.size.symm)
  have EE_4 : Exa Z h4 r0 "com/example/lint_for_clocks/lintforclocks/model/Edge" := EE_3.wr W4
  have F_source_4 : Fld Z h4 r0 "com/example/lint_for_clocks/lintforclocks/model/Edge" "source" "Ljava/lang/String;" (.ref r1) := F_source_3.other W4 (Or.inr (slot_ne (Or.inr (hw _ (List.mem_of_getElem? (i := 48) rfl))) (Or.inr (hw _ (List.mem_of_getElem? (i := 52) rfl))) (by decide) (t := (.object "java/lang/String")) (t' := .int) (by decide) (by decide)))
  have F_target_4 : Fld Z h4 r0 "com/example/lint_for_clocks/lintforclocks/model/Edge" "target" "Ljava/lang/String;" (.ref r2) := F_target_3.other W4 (Or.inr (slot_ne (Or.inr (hw _ (List.mem_of_getElem? (i := 50) rfl))) (Or.inr (hw _ (List.mem_of_getElem? (i := 52) rfl))) (by decide) (t := (.object "java/lang/String")) (t' := .int) (by decide) (by decide)))
  have F_labels_4 : Fld Z h4 r0 "com/example/lint_for_clocks/lintforclocks/model/Edge" "labels" "Ljava/util/List;" .null := F_labels_3.other W4 (Or.inr (slot_ne (Or.inr (hw _ (List.mem_of_getElem? (i := 54) rfl))) (Or.inr (hw _ (List.mem_of_getElem? (i := 52) rfl))) (by decide) (t := (.object "java/util/List")) (t' := .int) (by decide) (by decide)))
  have F_selects_4 : Fld Z h4 r0 "com/example/lint_for_clocks/lintforclocks/model/Edge" "selects" "Ljava/util/List;" .null := F_selects_3.other W4 (Or.inr (slot_ne (Or.inr (hw _ (List.mem_of_getElem? (i := 56) rfl))) (Or.inr (hw _ (List.mem_of_getElem? (i := 52) rfl))) (by decide) (t := (.object "java/util/List")) (t' := .int) (by decide) (by decide)))
  have F_guard_4 : Fld Z h4 r0 "com/example/lint_for_clocks/lintforclocks/model/Edge" "guard" "Lcom/example/lint_for_clocks/lintforclocks/model/Expr;" .null := F_guard_3.other W4 (Or.inr (slot_ne (Or.inr (hw _ (List.mem_of_getElem? (i := 58) rfl))) (Or.inr (hw _ (List.mem_of_getElem? (i := 52) rfl))) (by decide) (t := (.object "com/example/lint_for_clocks/lintforclocks/model/Expr")) (t' := .int) (by decide) (by decide)))
  have F_synchronisation_4 : Fld Z h4 r0 "com/example/lint_for_clocks/lintforclocks/model/Edge" "synchronisation" "Lcom/example/lint_for_clocks/lintforclocks/model/Synchronisation;" .null := F_synchronisation_3.other W4 (Or.inr (slot_ne (Or.inr (hw _ (List.mem_of_getElem? (i := 60) rfl))) (Or.inr (hw _ (List.mem_of_getElem? (i := 52) rfl))) (by decide) (t := (.object "com/example/lint_for_clocks/lintforclocks/model/Synchronisation")) (t' := .int) (by decide) (by decide)))
  have F_assignments_4 : Fld Z h4 r0 "com/example/lint_for_clocks/lintforclocks/model/Edge" "assignments" "Ljava/util/List;" .null := F_assignments_3.other W4 (Or.inr (slot_ne (Or.inr (hw _ (List.mem_of_getElem? (i := 62) rfl))) (Or.inr (hw _ (List.mem_of_getElem? (i := 52) rfl))) (by decide) (t := (.object "java/util/List")) (t' := .int) (by decide) (by decide)))
  have F_line_4 : Fld Z h4 r0 "com/example/lint_for_clocks/lintforclocks/model/Edge" "line" "I" (.int p3) := F_line_3.same W4
  have K4 : Keep h0 h4 [r0] := K3.wr W4 (Or.inl (by simp))
  show own_Go p e below s _ _ _ (T4.setTop (mkF m 19 #[.val (.ref r0), .val (.ref r1), .val (.ref r2), .val (.int p3), .val .null, .val .null, .val .null, .val .null, .val .null] []))
  refine own_go (fun t_ kt_ => XS.aloadN X4g.here hx rfl (hb hby d5_19) rfl rfl kt_) ?_
  show own_Go p e below s _ _ _ (T4.setTop (mkF m 20 #[.val (.ref r0), .val (.ref r1), .val (.ref r2), .val (.int p3), .val .null, .val .null, .val .null, .val .null, .val .null] [(.ref r0)]))
  refine own_go (fun t_ kt_ => XS.aload X4g.here hx rfl (hb hby d5_20) rfl rfl kt_) ?_
  show own_Go p e below s _ _ _ (T4.setTop (mkF m 22 #[.val (.ref r0), .val (.ref r1), .val (.ref r2), .val (.int p3), .val .null, .val .null, .val .null, .val .null, .val .null] [.null, (.ref r0)]))
  obtain ⟨T5, h5, X5, e5, W5, st5⟩ := putF X4g hx hZ hown (host := "") (Or.inl (hw _ (List.mem_of_getElem? (i := 53) rfl))) Via.refl e4 F_labels_4 EE_4 (Or.inr ⟨(hw _ (List.mem_of_getElem? (i := 54) rfl)), rfl, hnm⟩) (hw _ (List.mem_of_getElem? (i := 27) rfl)) (ty := (.object "java/util/List")) (by decide) rfl rfl (g := (mkF m 22 #[.val (.ref r0), .val (.ref r1), .val (.ref r2), .val (.int p3), .val .null, .val .null, .val .null, .val .null, .val .null] [.null, (.ref r0)])) rfl rfl (hb hby d5_22)
  refine own_go (fun t_ kt_ => st5 _ kt_) ?_
  have N5 := Fr.snoc X5 N4g g0
  obtain ⟨lo5, X5g, N5g⟩ : ∃ lo, Stand p l e ({ frames := 2, cells := 0, slots := 0, locals := 24 } : Room) s m #[(.ref r0), (.ref r1), (.ref r2), (.int p3), .null, .null, .null, .null, .null] below meth c T5 lo 0 0 ∧ Fr n0 lo := ⟨_, X5, N5⟩
  have ZZ_5 : n0 ≤ h5.size := Nat.le_trans ZZ_4 (Nat.le_of_eq W5.size.symm)
  have EE_5 : Exa Z h5 r0 "com/example/lint_for_clocks/lintforclocks/model/Edge" := EE_4.wr W5
  have F_source_5 : Fld Z h5 r0 "com/example/lint_for_clocks/lintforclocks/model/Edge" "source" "Ljava/lang/String;" (.ref r1) := F_source_4.other W5 (Or.inr (slot_ne (Or.inr (hw _ (List.mem_of_getElem? (i := 48) rfl))) (Or.inr (hw _ (List.mem_of_getElem? (i := 54) rfl))) (by decide) (t := (.object "java/lang/String")) (t' := (.object "java/util/List")) (by decide) (by decide)))
  have F_target_5 : Fld Z h5 r0 "com/example/lint_for_clocks/lintforclocks/model/Edge" "target" "Ljava/lang/String;" (.ref r2) := F_target_4.other W5 (Or.inr (slot_ne (Or.inr (hw _ (List.mem_of_getElem? (i := 50) rfl))) (Or.inr (hw _ (List.mem_of_getElem? (i := 54) rfl))) (by decide) (t := (.object "java/lang/String")) (t' := (.object "java/util/List")) (by decide) (by decide)))
  have F_line_5 : Fld Z h5 r0 "com/example/lint_for_clocks/lintforclocks/model/Edge" "line" "I" (.int p3) := F_line_4.other W5 (Or.inr (slot_ne (Or.inr (hw _ (List.mem_of_getElem? (i := 52) rfl))) (Or.inr (hw _ (List.mem_of_getElem? (i := 54) rfl))) (by decide) (t := .int) (t' := (.object "java/util/List")) (by decide) (by decide)))
  have F_selects_5 : Fld Z h5 r0 "com/example/lint_for_clocks/lintforclocks/model/Edge" "selects" "Ljava/util/List;" .null := F_selects_4.other W5 (Or.inr (slot_ne (Or.inr (hw _ (List.mem_of_getElem? (i := 56) rfl))) (Or.inr (hw _ (List.mem_of_getElem? (i := 54) rfl))) (by decide) (t := (.object "java/util/List")) (t' := (.object "java/util/List")) (by decide) (by decide)))
  have F_guard_5 : Fld Z h5 r0 "com/example/lint_for_clocks/lintforclocks/model/Edge" "guard" "Lcom/example/lint_for_clocks/lintforclocks/model/Expr;" .null := F_guard_4.other W5 (Or.inr (slot_ne (Or.inr (hw _ (List.mem_of_getElem? (i := 58) rfl))) (Or.inr (hw _ (List.mem_of_getElem? (i := 54) rfl))) (by decide) (t := (.object "com/example/lint_for_clocks/lintforclocks/model/Expr")) (t' := (.object "java/util/List")) (by decide) (by decide)))
  have F_synchronisation_5 : Fld Z h5 r0 "com/example/lint_for_clocks/lintforclocks/model/Edge" "synchronisation" "Lcom/example/lint_for_clocks/lintforclocks/model/Synchronisation;" .null := F_synchronisation_4.other W5 (Or.inr (slot_ne (Or.inr (hw _ (List.mem_of_getElem? (i := 60) rfl))) (Or.inr (hw _ (List.mem_of_getElem? (i := 54) rfl))) (by decide) (t := (.object "com/example/lint_for_clocks/lintforclocks/model/Synchronisation")) (t' := (.object "java/util/List")) (by decide) (by decide)))
  have F_assignments_5 : Fld Z h5 r0 "com/example/lint_for_clocks/lintforclocks/model/Edge" "assignments" "Ljava/util/List;" .null := F_assignments_4.other W5 (Or.inr (slot_ne (Or.inr (hw _ (List.mem_of_getElem? (i := 62) rfl))) (Or.inr (hw _ (List.mem_of_getElem? (i := 54) rfl))) (by decide) (t := (.object "java/util/List")) (t' := (.object "java/util/List")) (by decide) (by decide)))
  have F_labels_5 : Fld Z h5 r0 "com/example/lint_for_clocks/lintforclocks/model/Edge" "labels" "Ljava/util/List;" .null := F_labels_4.same W5
  have K5 : Keep h0 h5 [r0] := K4.wr W5 (Or.inl (by simp))
  show own_Go p e below s _ _ _ (T5.setTop (mkF m 25 #[.val (.ref r0), .val (.ref r1), .val (.ref r2), .val (.int p3), .val .null, .val .null, .val .null, .val .null, .val .null] []))
  refine own_go (fun t_ kt_ => XS.aloadN X5g.here hx rfl (hb hby d5_25) rfl rfl kt_) ?_
  show own_Go p e below s _ _ _ (T5.setTop (mkF m 26 #[.val (.ref r0), .val (.ref r1), .val (.ref r2), .val (.int p3), .val .null, .val .null, .val .null, .val .null, .val .null] [(.ref r0)]))
  refine own_go (fun t_ kt_ => XS.aload X5g.here hx rfl (hb hby d5_26) rfl rfl kt_) ?_
  show own_Go p e below s _ _ _ (T5.setTop (mkF m 28 #[.val (.ref r0), .val (.ref r1), .val (.ref r2), .val (.int p3), .val .null, .val .null, .val .null, .val .null, .val .null] [.null, (.ref r0)]))
  obtain ⟨T6, h6, X6, e6, W6, st6⟩ := putF X5g hx hZ hown (host := "") (Or.inl (hw _ (List.mem_of_getElem? (i := 55) rfl))) Via.refl e5 F_selects_5 EE_5 (Or.inr ⟨(hw _ (List.mem_of_getElem? (i := 56) rfl)), rfl, hnm⟩) (hw _ (List.mem_of_getElem? (i := 27) rfl)) (ty := (.object "java/util/List")) (by decide) rfl rfl (g := (mkF m 28 #[.val (.ref r0), .val (.ref r1), .val (.ref r2), .val (.int p3), .val .null, .val .null, .val .null, .val .null, .val .null] [.null, (.ref r0)])) rfl rfl (hb hby d5_28)
  refine own_go (fun t_ kt_ => st6 _ kt_) ?_
  have N6 := Fr.snoc X6 N5g g0
  obtain ⟨lo6, X6g, N6g⟩ : ∃ lo, Stand p l e ({ frames := 2, cells := 0, slots := 0, locals := 24 } : Room) s m #[(.ref r0), (.ref r1), (.ref r2), (.int p3), .null, .null, .null, .null, .null] below meth c T6 lo 0 0 ∧ Fr n0 lo := ⟨_, X6, N6⟩
  have ZZ_6 : n0 ≤ h6.size := Nat.le_trans ZZ_5 (Nat.le_of_eq W6.size.symm)
  have EE_6 : Exa Z h6 r0 "com/example/lint_for_clocks/lintforclocks/model/Edge" := EE_5.wr W6
  have F_source_6 : Fld Z h6 r0 "com/example/lint_for_clocks/lintforclocks/model/Edge" "source" "Ljava/lang/String;" (.ref r1) := F_source_5.other W6 (Or.inr (slot_ne (Or.inr (hw _ (List.mem_of_getElem? (i := 48) rfl))) (Or.inr (hw _ (List.mem_of_getElem? (i := 56) rfl))) (by decide) (t := (.object "java/lang/String")) (t' := (.object "java/util/List")) (by decide) (by decide)))
  have F_target_6 : Fld Z h6 r0 "com/example/lint_for_clocks/lintforclocks/model/Edge" "target" "Ljava/lang/String;" (.ref r2) := F_target_5.other W6 (Or.inr (slot_ne (Or.inr (hw _ (List.mem_of_getElem? (i := 50) rfl))) (Or.inr (hw _ (List.mem_of_getElem? (i := 56) rfl))) (by decide) (t := (.object "java/lang/String")) (t' := (.object "java/util/List")) (by decide) (by decide)))
  have F_line_6 : Fld Z h6 r0 "com/example/lint_for_clocks/lintforclocks/model/Edge" "line" "I" (.int p3) := F_line_5.other W6 (Or.inr (slot_ne (Or.inr (hw _ (List.mem_of_getElem? (i := 52) rfl))) (Or.inr (hw _ (List.mem_of_getElem? (i := 56) rfl))) (by decide) (t := .int) (t' := (.object "java/util/List")) (by decide) (by decide)))
  have F_labels_6 : Fld Z h6 r0 "com/example/lint_for_clocks/lintforclocks/model/Edge" "labels" "Ljava/util/List;" .null := F_labels_5.other W6 (Or.inr (slot_ne (Or.inr (hw _ (List.mem_of_getElem? (i := 54) rfl))) (Or.inr (hw _ (List.mem_of_getElem? (i := 56) rfl))) (by decide) (t := (.object "java/util/List")) (t' := (.object "java/util/List")) (by decide) (by decide)))
  have F_guard_6 : Fld Z h6 r0 "com/example/lint_for_clocks/lintforclocks/model/Edge" "guard" "Lcom/example/lint_for_clocks/lintforclocks/model/Expr;" .null := F_guard_5.other W6 (Or.inr (slot_ne (Or.inr (hw _ (List.mem_of_getElem? (i := 58) rfl))) (Or.inr (hw _ (List.mem_of_getElem? (i := 56) rfl))) (by decide) (t := (.object "com/example/lint_for_clocks/lintforclocks/model/Expr")) (t' := (.object "java/util/List")) (by decide) (by decide)))
  have F_synchronisation_6 : Fld Z h6 r0 "com/example/lint_for_clocks/lintforclocks/model/Edge" "synchronisation" "Lcom/example/lint_for_clocks/lintforclocks/model/Synchronisation;" .null := F_synchronisation_5.other W6 (Or.inr (slot_ne (Or.inr (hw _ (List.mem_of_getElem? (i := 60) rfl))) (Or.inr (hw _ (List.mem_of_getElem? (i := 56) rfl))) (by decide) (t := (.object "com/example/lint_for_clocks/lintforclocks/model/Synchronisation")) (t' := (.object "java/util/List")) (by decide) (by decide)))
  have F_assignments_6 : Fld Z h6 r0 "com/example/lint_for_clocks/lintforclocks/model/Edge" "assignments" "Ljava/util/List;" .null := F_assignments_5.other W6 (Or.inr (slot_ne (Or.inr (hw _ (List.mem_of_getElem? (i := 62) rfl))) (Or.inr (hw _ (List.mem_of_getElem? (i := 56) rfl))) (by decide) (t := (.object "java/util/List")) (t' := (.object "java/util/List")) (by decide) (by decide)))
  have F_selects_6 : Fld Z h6 r0 "com/example/lint_for_clocks/lintforclocks/model/Edge" "selects" "Ljava/util/List;" .null := F_selects_5.same W6
  have K6 : Keep h0 h6 [r0] := K5.wr W6 (Or.inl (by simp))
  show own_Go p e below s _ _ _ (T6.setTop (mkF m 31 #[.val (.ref r0), .val (.ref r1), .val (.ref r2), .val (.int p3), .val .null, .val .null, .val .null, .val .null, .val .null] []))
  refine own_go (fun t_ kt_ => XS.aloadN X6g.here hx rfl (hb hby d5_31) rfl rfl kt_) ?_
  show own_Go p e below s _ _ _ (T6.setTop (mkF m 32 #[.val (.ref r0), .val (.ref r1), .val (.ref r2), .val (.int p3), .val .null, .val .null, .val .null, .val .null, .val .null] [(.ref r0)]))
  refine own_go (fun t_ kt_ => XS.aload X6g.here hx rfl (hb hby d5_32) rfl rfl kt_) ?_
  show own_Go p e below s _ _ _ (T6.setTop (mkF m 34 #[.val (.ref r0), .val (.ref r1), .val (.ref r2), .val (.int p3), .val .null, .val .null, .val .null, .val .null, .val .null] [.null, (.ref r0)]))
  obtain ⟨T7, h7, X7, e7, W7, st7⟩ := putF X6g hx hZ hown (host := "") (Or.inl (hw _ (List.mem_of_getElem? (i := 57) rfl))) Via.refl e6 F_guard_6 EE_6 (Or.inr ⟨(hw _ (List.mem_of_getElem? (i := 58) rfl)), rfl, hnm⟩) (hw _ (List.mem_of_getElem? (i := 27) rfl)) (ty := (.object "com/example/lint_for_clocks/lintforclocks/model/Expr")) (by decide) rfl rfl (g := (mkF m 34 #[.val (.ref r0), .val (.ref r1), .val (.ref r2), .val (.int p3), .val .null, .val .null, .val .null, .val .null, .val .null] [.null, (.ref r0)])) rfl rfl (hb hby d5_34)
  refine own_go (fun t_ kt_ => st7 _ kt_) ?_
  have N7 := Fr.snoc X7 N6g g0
  obtain ⟨lo7, X7g, N7g⟩ : ∃ lo, Stand p l e ({ frames := 2, cells := 0, slots := 0, locals := 24 } : Room) s m #[(.ref r0), (.ref r1), (.ref r2), (.int p3), .null, .null, .null, .null, .null] below meth c T7 lo 0 0 ∧ Fr n0 lo := ⟨_, X7, N7⟩
  have ZZ_7 : n0 ≤ h7.size := Nat.le_trans ZZ_6 (Nat.le_of_eq W7.size.symm)
  have EE_7 : Exa Z h7 r0 "com/example/lint_for_clocks/lintforclocks/model/Edge" := EE_6.wr W7
  have F_source_7 : Fld Z h7 r0 "com/example/lint_for_clocks/lintforclocks/model/Edge" "source" "Ljava/lang/String;" (.ref r1) := F_source_6.other W7 (Or.inr (slot_ne (Or.inr (hw _ (List.mem_of_getElem? (i := 48) rfl))) (Or.inr (hw _ (List.mem_of_getElem? (i := 58) rfl))) (by decide) (t := (.object "java/lang/String")) (t' := (.object "com/example/lint_for_clocks/lintforclocks/model/Expr")) (by decide) (by decide)))
  have F_target_7 : Fld Z h7 r0 "com/example/lint_for_clocks/lintforclocks/model/Edge" "target" "Ljava/lang/String;" (.ref r2) := F_target_6.other W7 (Or.inr (slot_ne (Or.inr (hw _ (List.mem_of_getElem? (i := 50) rfl))) (Or.inr (hw _ (List.mem_of_getElem? (i := 58) rfl))) (by decide) (t := (.object "java/lang/String")) (t' := (.object "com/example/lint_for_clocks/lintforclocks/model/Expr")) (by decide) (by decide)))
  have F_line_7 : Fld Z h7 r0 "com/example/lint_for_clocks/lintforclocks/model/Edge" "line" "I" (.int p3) := F_line_6.other W7 (Or.inr (slot_ne (Or.inr (hw _ (List.mem_of_getElem? (i := 52) rfl))) (Or.inr (hw _ (List.mem_of_getElem? (i := 58) rfl))) (by decide) (t := .int) (t' := (.object "com/example/lint_for_clocks/lintforclocks/model/Expr")) (by decide) (by decide)))
  have F_labels_7 : Fld Z h7 r0 "com/example/lint_for_clocks/lintforclocks/model/Edge" "labels" "Ljava/util/List;" .null := F_labels_6.other W7 (Or.inr (slot_ne (Or.inr (hw _ (List.mem_of_getElem? (i := 54) rfl))) (Or.inr (hw _ (List.mem_of_getElem? (i := 58) rfl))) (by decide) (t := (.object "java/util/List")) (t' := (.object "com/example/lint_for_clocks/lintforclocks/model/Expr")) (by decide) (by decide)))
  have F_selects_7 : Fld Z h7 r0 "com/example/lint_for_clocks/lintforclocks/model/Edge" "selects" "Ljava/util/List;" .null := F_selects_6.other W7 (Or.inr (slot_ne (Or.inr (hw _ (List.mem_of_getElem? (i := 56) rfl))) (Or.inr (hw _ (List.mem_of_getElem? (i := 58) rfl))) (by decide) (t := (.object "java/util/List")) (t' := (.object "com/example/lint_for_clocks/lintforclocks/model/Expr")) (by decide) (by decide)))
  have F_synchronisation_7 : Fld Z h7 r0 "com/example/lint_for_clocks/lintforclocks/model/Edge" "synchronisation" "Lcom/example/lint_for_clocks/lintforclocks/model/Synchronisation;" .null := F_synchronisation_6.other W7 (Or.inr (slot_ne (Or.inr (hw _ (List.mem_of_getElem? (i := 60) rfl))) (Or.inr (hw _ (List.mem_of_getElem? (i := 58) rfl))) (by decide) (t := (.object "com/example/lint_for_clocks/lintforclocks/model/Synchronisation")) (t' := (.object "com/example/lint_for_clocks/lintforclocks/model/Expr")) (by decide) (by decide)))
  have F_assignments_7 : Fld Z h7 r0 "com/example/lint_for_clocks/lintforclocks/model/Edge" "assignments" "Ljava/util/List;" .null := F_assignments_6.other W7 (Or.inr (slot_ne (Or.inr (hw _ (List.mem_of_getElem? (i := 62) rfl))) (Or.inr (hw _ (List.mem_of_getElem? (i := 58) rfl))) (by decide) (t := (.object "java/util/List")) (t' := (.object "com/example/lint_for_clocks/lintforclocks/model/Expr")) (by decide) (by decide)))
  have F_guard_7 : Fld Z h7 r0 "com/example/lint_for_clocks/lintforclocks/model/Edge" "guard" "Lcom/example/lint_for_clocks/lintforclocks/model/Expr;" .null := F_guard_6.same W7
  have K7 : Keep h0 h7 [r0] := K6.wr W7 (Or.inl (by simp))
  show own_Go p e below s _ _ _ (T7.setTop (mkF m 37 #[.val (.ref r0), .val (.ref r1), .val (.ref r2), .val (.int p3), .val .null, .val .null, .val .null, .val .null, .val .null] []))
  refine own_go (fun t_ kt_ => XS.aloadN X7g.here hx rfl (hb hby d5_37) rfl rfl kt_) ?_
  show own_Go p e below s _ _ _ (T7.setTop (mkF m 38 #[.val (.ref r0), .val (.ref r1), .val (.ref r2), .val (.int p3), .val .null, .val .null, .val .null, .val .null, .val .null] [(.ref r0)]))
  refine own_go (fun t_ kt_ => XS.aload X7g.here hx rfl (hb hby d5_38) rfl rfl kt_) ?_
  show own_Go p e below s _ _ _ (T7.setTop (mkF m 40 #[.val (.ref r0), .val (.ref r1), .val (.ref r2), .val (.int p3), .val .null, .val .null, .val .null, .val .null, .val .null] [.null, (.ref r0)]))
  obtain ⟨T8, h8, X8, e8, W8, st8⟩ := putF X7g hx hZ hown (host := "") (Or.inl (hw _ (List.mem_of_getElem? (i := 59) rfl))) Via.refl e7 F_synchronisation_7 EE_7 (Or.inr ⟨(hw _ (List.mem_of_getElem? (i := 60) rfl)), rfl, hnm⟩) (hw _ (List.mem_of_getElem? (i := 27) rfl)) (ty := (.object "com/example/lint_for_clocks/lintforclocks/model/Synchronisation")) (by decide) rfl rfl (g := (mkF m 40 #[.val (.ref r0), .val (.ref r1), .val (.ref r2), .val (.int p3), .val .null, .val .null, .val .null, .val .null, .val .null] [.null, (.ref r0)])) rfl rfl (hb hby d5_40)
  refine own_go (fun t_ kt_ => st8 _ kt_) ?_
  have N8 := Fr.snoc X8 N7g g0
  obtain ⟨lo8, X8g, N8g⟩ : ∃ lo, Stand p l e ({ frames := 2, cells := 0, slots := 0, locals := 24 } : Room) s m #[(.ref r0), (.ref r1), (.ref r2), (.int p3), .null, .null, .null, .null, .null] below meth c T8 lo 0 0 ∧ Fr n0 lo := ⟨_, X8, N8⟩
  have ZZ_8 : n0 ≤ h8.size := Nat.le_trans ZZ_7 (Nat.le_of_eq W8.size.symm)
  have EE_8 : Exa Z h8 r0 "com/example/lint_for_clocks/lintforclocks/model/Edge" := EE_7.wr W8
  have F_source_8 : Fld Z h8 r0 "com/example/lint_for_clocks/lintforclocks/model/Edge" "source" "Ljava/lang/String;" (.ref r1) := F_source_7.other W8 (Or.inr (slot_ne (Or.inr (hw _ (List.mem_of_getElem? (i := 48) rfl))) (Or.inr (hw _ (List.mem_of_getElem? (i := 60) rfl))) (by decide) (t := (.object "java/lang/String")) (t' := (.object "com/example/lint_for_clocks/lintforclocks/model/Synchronisation")) (by decide) (by decide)))
  have F_target_8 : Fld Z h8 r0 "com/example/lint_for_clocks/lintforclocks/model/Edge" "target" "Ljava/lang/String;" (.ref r2) := F_target_7.other W8 (Or.inr (slot_ne (Or.inr (hw _ (List.mem_of_getElem? (i := 50) rfl))) (Or.inr (hw _ (List.mem_of_getElem? (i := 60) rfl))) (by decide) (t := (.object "java/lang/String")) (t' := (.object "com/example/lint_for_clocks/lintforclocks/model/Synchronisation")) (by decide) (by decide)))
  have F_line_8 : Fld Z h8 r0 "com/example/lint_for_clocks/lintforclocks/model/Edge" "line" "I" (.int p3) := F_line_7.other W8 (Or.inr (slot_ne (Or.inr (hw _ (List.mem_of_getElem? (i := 52) rfl))) (Or.inr (hw _ (List.mem_of_getElem? (i := 60) rfl))) (by decide) (t := .int) (t' := (.object "com/example/lint_for_clocks/lintforclocks/model/Synchronisation")) (by decide) (by decide)))
  have F_labels_8 : Fld Z h8 r0 "com/example/lint_for_clocks/lintforclocks/model/Edge" "labels" "Ljava/util/List;" .null := F_labels_7.other W8 (Or.inr (slot_ne (Or.inr (hw _ (List.mem_of_getElem? (i := 54) rfl))) (Or.inr (hw _ (List.mem_of_getElem? (i := 60) rfl))) (by decide) (t := (.object "java/util/List")) (t' := (.object "com/example/lint_for_clocks/lintforclocks/model/Synchronisation")) (by decide) (by decide)))
  have F_selects_8 : Fld Z h8 r0 "com/example/lint_for_clocks/lintforclocks/model/Edge" "selects" "Ljava/util/List;" .null := F_selects_7.other W8 (Or.inr (slot_ne (Or.inr (hw _ (List.mem_of_getElem? (i := 56) rfl))) (Or.inr (hw _ (List.mem_of_getElem? (i := 60) rfl))) (by decide) (t := (.object "java/util/List")) (t' := (.object "com/example/lint_for_clocks/lintforclocks/model/Synchronisation")) (by decide) (by decide)))
  have F_guard_8 : Fld Z h8 r0 "com/example/lint_for_clocks/lintforclocks/model/Edge" "guard" "Lcom/example/lint_for_clocks/lintforclocks/model/Expr;" .null := F_guard_7.other W8 (Or.inr (slot_ne (Or.inr (hw _ (List.mem_of_getElem? (i := 58) rfl))) (Or.inr (hw _ (List.mem_of_getElem? (i := 60) rfl))) (by decide) (t := (.object "com/example/lint_for_clocks/lintforclocks/model/Expr")) (t' := (.object "com/example/lint_for_clocks/lintforclocks/model/Synchronisation")) (by decide) (by decide)))
  have F_assignments_8 : Fld Z h8 r0 "com/example/lint_for_clocks/lintforclocks/model/Edge" "assignments" "Ljava/util/List;" .null := F_assignments_7.other W8 (Or.inr (slot_ne (Or.inr (hw _ (List.mem_of_getElem? (i := 62) rfl))) (Or.inr (hw _ (List.mem_of_getElem? (i := 60) rfl))) (by decide) (t := (.object "java/util/List")) (t' := (.object "com/example/lint_for_clocks/lintforclocks/model/Synchronisation")) (by decide) (by decide)))
  have F_synchronisation_8 : Fld Z h8 r0 "com/example/lint_for_clocks/lintforclocks/model/Edge" "synchronisation" "Lcom/example/lint_for_clocks/lintforclocks/model/Synchronisation;" .null := F_synchronisation_7.same W8
  have K8 : Keep h0 h8 [r0] := K7.wr W8 (Or.inl (by simp))
  show own_Go p e below s _ _ _ (T8.setTop (mkF m 43 #[.val (.ref r0), .val (.ref r1), .val (.ref r2), .val (.int p3), .val .null, .val .null, .val .null, .val .null, .val .null] []))
  refine own_go (fun t_ kt_ => XS.aloadN X8g.here hx rfl (hb hby d5_43) rfl rfl kt_) ?_
  show own_Go p e below s _ _ _ (T8.setTop (mkF m 44 #[.val (.ref r0), .val (.ref r1), .val (.ref r2), .val (.int p3), .val .null, .val .null, .val .null, .val .null, .val .null] [(.ref r0)]))
  refine own_go (fun t_ kt_ => XS.aload X8g.here hx rfl (hb hby d5_44) rfl rfl kt_) ?_
  show own_Go p e below s _ _ _ (T8.setTop (mkF m 46 #[.val (.ref r0), .val (.ref r1), .val (.ref r2), .val (.int p3), .val .null, .val .null, .val .null, .val .null, .val .null] [.null, (.ref r0)]))
  obtain ⟨T9, h9, X9, e9, W9, st9⟩ := putF X8g hx hZ hown (host := "") (Or.inl (hw _ (List.mem_of_getElem? (i := 61) rfl))) Via.refl e8 F_assignments_8 EE_8 (Or.inr ⟨(hw _ (List.mem_of_getElem? (i := 62) rfl)), rfl, hnm⟩) (hw _ (List.mem_of_getElem? (i := 27) rfl)) (ty := (.object "java/util/List")) (by decide) rfl rfl (g := (mkF m 46 #[.val (.ref r0), .val (.ref r1), .val (.ref r2), .val (.int p3), .val .null, .val .null, .val .null, .val .null, .val .null] [.null, (.ref r0)])) rfl rfl (hb hby d5_46)
  refine own_go (fun t_ kt_ => st9 _ kt_) ?_
  have N9 := Fr.snoc X9 N8g g0
  obtain ⟨lo9, X9g, N9g⟩ : ∃ lo, Stand p l e ({ frames := 2, cells := 0, slots := 0, locals := 24 } : Room) s m #[(.ref r0), (.ref r1), (.ref r2), (.int p3), .null, .null, .null, .null, .null] below meth c T9 lo 0 0 ∧ Fr n0 lo := ⟨_, X9, N9⟩
  have ZZ_9 : n0 ≤ h9.size := Nat.le_trans ZZ_8 (Nat.le_of_eq W9.size.symm)
  have EE_9 : Exa Z h9 r0 "com/example/lint_for_clocks/lintforclocks/model/Edge" := EE_8.wr W9
  have F_source_9 : Fld Z h9 r0 "com/example/lint_for_clocks/lintforclocks/model/Edge" "source" "Ljava/lang/String;" (.ref r1) := F_source_8.other W9 (Or.inr (slot_ne (Or.inr (hw _ (List.mem_of_getElem? (i := 48) rfl))) (Or.inr (hw _ (List.mem_of_getElem? (i := 62) rfl))) (by decide) (t := (.object "java/lang/String")) (t' := (.object "java/util/List")) (by decide) (by decide)))
  have F_target_9 : Fld Z h9 r0 "com/example/lint_for_clocks/lintforclocks/model/Edge" "target" "Ljava/lang/String;" (.ref r2) := F_target_8.other W9 (Or.inr (slot_ne (Or.inr (hw _ (List.mem_of_getElem? (i := 50) rfl))) (Or.inr (hw _ (List.mem_of_getElem? (i := 62) rfl))) (by decide) (t := (.object "java/lang/String")) (t' := (.object "java/util/List")) (by decide) (by decide)))
  have F_line_9 : Fld Z h9 r0 "com/example/lint_for_clocks/lintforclocks/model/Edge" "line" "I" (.int p3) := F_line_8.other W9 (Or.inr (slot_ne (Or.inr (hw _ (List.mem_of_getElem? (i := 52) rfl))) (Or.inr (hw _ (List.mem_of_getElem? (i := 62) rfl))) (by decide) (t := .int) (t' := (.object "java/util/List")) (by decide) (by decide)))
  have F_labels_9 : Fld Z h9 r0 "com/example/lint_for_clocks/lintforclocks/model/Edge" "labels" "Ljava/util/List;" .null := F_labels_8.other W9 (Or.inr (slot_ne (Or.inr (hw _ (List.mem_of_getElem? (i := 54) rfl))) (Or.inr (hw _ (List.mem_of_getElem? (i := 62) rfl))) (by decide) (t := (.object "java/util/List")) (t' := (.object "java/util/List")) (by decide) (by decide)))
  have F_selects_9 : Fld Z h9 r0 "com/example/lint_for_clocks/lintforclocks/model/Edge" "selects" "Ljava/util/List;" .null := F_selects_8.other W9 (Or.inr (slot_ne (Or.inr (hw _ (List.mem_of_getElem? (i := 56) rfl))) (Or.inr (hw _ (List.mem_of_getElem? (i := 62) rfl))) (by decide) (t := (.object "java/util/List")) (t' := (.object "java/util/List")) (by decide) (by decide)))
  have F_guard_9 : Fld Z h9 r0 "com/example/lint_for_clocks/lintforclocks/model/Edge" "guard" "Lcom/example/lint_for_clocks/lintforclocks/model/Expr;" .null := F_guard_8.other W9 (Or.inr (slot_ne (Or.inr (hw _ (List.mem_of_getElem? (i := 58) rfl))) (Or.inr (hw _ (List.mem_of_getElem? (i := 62) rfl))) (by decide) (t := (.object "com/example/lint_for_clocks/lintforclocks/model/Expr")) (t' := (.object "java/util/List")) (by decide) (by decide)))
  have F_synchronisation_9 : Fld Z h9 r0 "com/example/lint_for_clocks/lintforclocks/model/Edge" "synchronisation" "Lcom/example/lint_for_clocks/lintforclocks/model/Synchronisation;" .null := F_synchronisation_8.other W9 (Or.inr (slot_ne (Or.inr (hw _ (List.mem_of_getElem? (i := 60) rfl))) (Or.inr (hw _ (List.mem_of_getElem? (i := 62) rfl))) (by decide) (t := (.object "com/example/lint_for_clocks/lintforclocks/model/Synchronisation")) (t' := (.object "java/util/List")) (by decide) (by decide)))
  have F_assignments_9 : Fld Z h9 r0 "com/example/lint_for_clocks/lintforclocks/model/Edge" "assignments" "Ljava/util/List;" .null := F_assignments_8.same W9
  have K9 : Keep h0 h9 [r0] := K8.wr W9 (Or.inl (by simp))
  show own_Go p e below s _ _ _ (T9.setTop (mkF m 49 #[.val (.ref r0), .val (.ref r1), .val (.ref r2), .val (.int p3), .val .null, .val .null, .val .null, .val .null, .val .null] []))
  refine own_ret X9g (v := none) (fun _ => rfl) hlk ?_ (by decide) (by decide) (fun fs hr => X9g.returnOut hx hret (hb hby d5_49) hr)
  show Q5 Z r0 r1 r2 p3 h0 n0 (none) T9.heap _
  rw [e9]
  exact ⟨rfl, N9g, K9, F_line_9⟩
theorem pn_5 : plainName "com/example/lint_for_clocks/lintforclocks/model/Template" = true := by first | (simp [plainName, overriddenIn]; done) | decide +kernel
theorem d12_0 : decode prog_60_method_1_code 0 = .ok (.aload_n 0, 1) := by decide +kernel
theorem d12_1 : decode prog_60_method_1_code 1 = .ok (.invokespecial 1, 3) := by decide +kernel
theorem d12_4 : decode prog_60_method_1_code 4 = .ok (.aload_n 0, 1) := by decide +kernel
theorem d12_5 : decode prog_60_method_1_code 5 = .ok (.aload_n 1, 1) := by decide +kernel
theorem d12_6 : decode prog_60_method_1_code 6 = .ok (.putfield 7, 3) := by decide +kernel
theorem d12_9 : decode prog_60_method_1_code 9 = .ok (.aload_n 0, 1) := by decide +kernel
theorem d12_10 : decode prog_60_method_1_code 10 = .ok (.iload_n 2, 1) := by decide +kernel
theorem d12_11 : decode prog_60_method_1_code 11 = .ok (.putfield 13, 3) := by decide +kernel
theorem d12_14 : decode prog_60_method_1_code 14 = .ok (.aload_n 0, 1) := by decide +kernel
theorem d12_15 : decode prog_60_method_1_code 15 = .ok (.aload_n 3, 1) := by decide +kernel
theorem d12_16 : decode prog_60_method_1_code 16 = .ok (.putfield 17, 3) := by decide +kernel
theorem d12_19 : decode prog_60_method_1_code 19 = .ok (.aload_n 0, 1) := by decide +kernel
theorem d12_20 : decode prog_60_method_1_code 20 = .ok (.aload 4, 2) := by decide +kernel
theorem d12_22 : decode prog_60_method_1_code 22 = .ok (.putfield 21, 3) := by decide +kernel
theorem d12_25 : decode prog_60_method_1_code 25 = .ok (.aload_n 0, 1) := by decide +kernel
theorem d12_26 : decode prog_60_method_1_code 26 = .ok (.aload 5, 2) := by decide +kernel
theorem d12_28 : decode prog_60_method_1_code 28 = .ok (.putfield 24, 3) := by decide +kernel
theorem d12_31 : decode prog_60_method_1_code 31 = .ok (.aload_n 0, 1) := by decide +kernel
theorem d12_32 : decode prog_60_method_1_code 32 = .ok (.aload 6, 2) := by decide +kernel
theorem d12_34 : decode prog_60_method_1_code 34 = .ok (.putfield 27, 3) := by decide +kernel
theorem d12_37 : decode prog_60_method_1_code 37 = .ok (.aload_n 0, 1) := by decide +kernel
theorem d12_38 : decode prog_60_method_1_code 38 = .ok (.aload 7, 2) := by decide +kernel
theorem d12_40 : decode prog_60_method_1_code 40 = .ok (.putfield 30, 3) := by decide +kernel
theorem d12_43 : decode prog_60_method_1_code 43 = .ok (.return_, 1) := by decide +kernel
theorem ef_12 (m : MethodId) (r0 : Addr) (r1 : Addr) (p2 : Int32) (r7 : Addr) : entryFrame m #[(.ref r0), (.ref r1), (.int p2), .null, .null, .null, .null, (.ref r7)] 8 = mkF m 0 #[.val (.ref r0), .val (.ref r1), .val (.int p2), .val .null, .val .null, .val .null, .val .null, .val (.ref r7)] [] := by first | (simp [entryFrame, mkF, argsToLocals, Value.category]; done) | rfl
def Q12 (Z : State) (r0 : Addr) (r1 : Addr) (p2 : Int32) (r7 : Addr) (h0 : Heap) (n0 : Nat) (v : Option Value) (h : Heap) (L : List Loc) : Prop := v = none ∧ Fr n0 L ∧ Keep h0 h [r0] ∧ Fld Z h r0 "com/example/lint_for_clocks/lintforclocks/model/Template" "edges" "Ljava/util/List;" (.ref r7)
set_option maxRecDepth 65536 in
set_option maxHeartbeats 40000000 in
theorem rm12 (l : Launch) (Z : State) (a0 : Array Value) (hw : ∀ d ∈ tables_1, d.before a0 Z = true) (ws : List Jvm.Cond) (r0 : Addr) (r1 : Addr) (p2 : Int32) (r7 : Addr) (h0 : Heap) (n0 : Nat) (Z0 : n0 ≤ h0.size) (F_name : Fld Z h0 r0 "com/example/lint_for_clocks/lintforclocks/model/Template" "name" "Ljava/lang/String;" .null) (F_line : Fld Z h0 r0 "com/example/lint_for_clocks/lintforclocks/model/Template" "line" "I" (.int (0 : Int32))) (F_parameters : Fld Z h0 r0 "com/example/lint_for_clocks/lintforclocks/model/Template" "parameters" "Ljava/util/List;" .null) (F_declarations : Fld Z h0 r0 "com/example/lint_for_clocks/lintforclocks/model/Template" "declarations" "Ljava/util/List;" .null) (F_locations : Fld Z h0 r0 "com/example/lint_for_clocks/lintforclocks/model/Template" "locations" "Ljava/util/List;" .null) (F_branchpoints : Fld Z h0 r0 "com/example/lint_for_clocks/lintforclocks/model/Template" "branchpoints" "Ljava/util/List;" .null) (F_edges : Fld Z h0 r0 "com/example/lint_for_clocks/lintforclocks/model/Template" "edges" "Ljava/util/List;" .null) (E0 : Exa Z h0 r0 "com/example/lint_for_clocks/lintforclocks/model/Template") (g0 : n0 ≤ r0) :
    MetFree l (⟨"com/example/lint_for_clocks/lintforclocks/model/Template", "<init>", "(Ljava/lang/String;ILjava/util/List;Ljava/util/List;Ljava/util/List;Ljava/util/List;Ljava/util/List;)V"⟩ : MethodName) (head1 (Jvm.Cond.code (⟨"com/example/lint_for_clocks/lintforclocks/model/Template", "<init>", "(Ljava/lang/String;ILjava/util/List;Ljava/util/List;Ljava/util/List;Ljava/util/List;Ljava/util/List;)V"⟩ : MethodName) prog_60_method_1_code 8 none :: ws) ({ frames := 2, cells := 0, slots := 0, locals := 24 } : Room)) (fun a U => a = #[(.ref r0), (.ref r1), (.int p2), .null, .null, .null, .null, (.ref r7)] ∧ Z.Warmed39 U.vm ∧ U.heap = h0) (fun _ _ _ _ _ => True) (fun _ U o U' => ∃ v L, o = .returned v ∧ Q12 Z r0 r1 p2 r7 h0 n0 v U'.heap L ∧ FrameEnd U o U' L (({ frames := 2, cells := 0, slots := 0, locals := 24 } : Room)).cells (({ frames := 2, cells := 0, slots := 0, locals := 24 } : Room)).slots) := by
  refine MetFree.of_bodySF (plainFor_of_name pn_5) hisR ?_
  intro p e s m args below meth c s₁ Bd hml0 hP hK
  obtain ⟨rfl, hZ, hh⟩ := hP
  have hx := Bd.exec
  have hby := Bd.bytes
  have hml : c.maxLocals = 8 := hml0
  have hown : s.vm.findClass "com/example/lint_for_clocks/lintforclocks/model/Template" = some m.cls := findClass_of_methodNamed Bd.named
  have hnm := (name_of_methodNamed Bd.named Bd.method).1
  have hlk : meth.locks = false := Bd.notSynchronized
  have X0 : Stand p l e ({ frames := 2, cells := 0, slots := 0, locals := 24 } : Room) s m #[(.ref r0), (.ref r1), (.int p2), .null, .null, .null, .null, (.ref r7)] below meth c s₁ [] 0 0 := Stand.of_body Bd
  have e0 : s₁.heap = h0 := by rw [← hh, Bd.state]; rfl
  have N0 := Fr.nil n0
  have hret := Bd.returns
  show own_Go p e below s (Q12 Z r0 r1 p2 r7 h0 n0) _ _ (s₁.setTop (entryFrame m #[(.ref r0), (.ref r1), (.int p2), .null, .null, .null, .null, (.ref r7)] 8))
  refine own_go (fun t k => castTop (ef_12 m r0 r1 p2 r7) k) ?_
  show own_Go p e below s _ _ _ (s₁.setTop (mkF m 0 #[.val (.ref r0), .val (.ref r1), .val (.int p2), .val .null, .val .null, .val .null, .val .null, .val (.ref r7)] []))
  refine own_go (fun t_ kt_ => XS.aloadN X0.here hx rfl (hb hby d12_0) rfl rfl kt_) ?_
  show own_Go p e below s _ _ _ (s₁.setTop (mkF m 1 #[.val (.ref r0), .val (.ref r1), .val (.int p2), .val .null, .val .null, .val .null, .val .null, .val (.ref r7)] [(.ref r0)]))
  obtain ⟨_, _, ⟨T1, L1, k1, n1⟩, -, X1, ⟨Lc1, hQ1, l1, y1, z1⟩, st1⟩ := X0.specialBack hx (y := (⟨"java/lang/Record", "<init>", "()V"⟩ : MethodName)) rfl hown (mvT hZ (hw _ (List.mem_of_getElem? (i := 106) rfl))) (mvT hZ (hw _ (List.mem_of_getElem? (i := 42) rfl))) (mvT hZ (hw _ (List.mem_of_getElem? (i := 45) rfl))) (by decide) (backOf (W := 0) (rm6 l Z a0 hw [] (r0) h0 n0 Z0 ) hZ (hw _ (List.mem_of_getElem? (i := 45) rfl)) (hw _ (List.mem_of_getElem? (i := 44) rfl)) (by decide) (by decide)) (g := (mkF m 1 #[.val (.ref r0), .val (.ref r1), .val (.int p2), .val .null, .val .null, .val .null, .val .null, .val (.ref r7)] [(.ref r0)])) rfl (by rw [hml]; rfl) (Steps.refl _) (a := r0) (argsL := []) (rest := []) (lenOf pd_0 rfl) rfl (by show 2 * 0 + _ ≤ _; exact Nat.le_of_eq rfl) (hb hby d12_1) (fun _ _ => ⟨rfl, e0, (by decide : 0 + 0 ≤ _), (by decide : 0 + 0 ≤ _)⟩)
  dsimp only [Pt.U, Pt.locs, Pt.cells, Pt.slots] at X1 l1 y1 z1 st1 hQ1
  subst l1 y1 z1
  obtain ⟨rfl, Nq1, eh1⟩ := hQ1
  have N1 := Fr.app N0 Nq1
  refine own_go (fun t_ kt_ => st1.trans kt_) ?_
  obtain ⟨lo1, X1g, N1g⟩ : ∃ lo, Stand p l e ({ frames := 2, cells := 0, slots := 0, locals := 24 } : Room) s m #[(.ref r0), (.ref r1), (.int p2), .null, .null, .null, .null, (.ref r7)] below meth c T1 lo 0 0 ∧ Fr n0 lo := ⟨_, X1, N1⟩
  have e1 : T1.heap = h0 := eh1
  show own_Go p e below s _ _ _ (T1.setTop (mkF m 4 #[.val (.ref r0), .val (.ref r1), .val (.int p2), .val .null, .val .null, .val .null, .val .null, .val (.ref r7)] []))
  refine own_go (fun t_ kt_ => XS.aloadN X1g.here hx rfl (hb hby d12_4) rfl rfl kt_) ?_
  show own_Go p e below s _ _ _ (T1.setTop (mkF m 5 #[.val (.ref r0), .val (.ref r1), .val (.int p2), .val .null, .val .null, .val .null, .val .null, .val (.ref r7)] [(.ref r0)]))
  refine own_go (fun t_ kt_ => XS.aloadN X1g.here hx rfl (hb hby d12_5) rfl rfl kt_) ?_
  show own_Go p e below s _ _ _ (T1.setTop (mkF m 6 #[.val (.ref r0), .val (.ref r1), .val (.int p2), .val .null, .val .null, .val .null, .val .null, .val (.ref r7)] [(.ref r1), (.ref r0)]))
  obtain ⟨T2, h2, X2, e2, W2, st2⟩ := putF X1g hx hZ hown (host := "") (Or.inl (hw _ (List.mem_of_getElem? (i := 107) rfl))) Via.refl e1 F_name E0 (Or.inr ⟨(hw _ (List.mem_of_getElem? (i := 108) rfl)), rfl, hnm⟩) (hw _ (List.mem_of_getElem? (i := 100) rfl)) (ty := (.object "java/lang/String")) (by decide) rfl rfl (g := (mkF m 6 #[.val (.ref r0), .val (.ref r1), .val (.int p2), .val .null, .val .null, .val .null, .val .null, .val (.ref r7)] [(.ref r1), (.ref r0)])) rfl rfl (hb hby d12_6)
  refine own_go (fun t_ kt_ => st2 _ kt_) ?_
  have N2 := Fr.snoc X2 N1g g0
  obtain ⟨lo2, X2g, N2g⟩ : ∃ lo, Stand p l e ({ frames := 2, cells := 0, slots := 0, locals := 24 } : Room) s m #[(.ref r0), (.ref r1), (.int p2), .null, .null, .null, .null, (.ref r7)] below meth c T2 lo 0 0 ∧ Fr n0 lo := ⟨_, X2, N2⟩
  have ZZ_2 : n0 ≤ h2.size := Nat.le_trans Z0 (Nat.le_of_eq W2.size.symm)
  have EE_2 : Exa Z h2 r0 "com/example/lint_for_clocks/lintforclocks/model/Template" := E0.wr W2
  have F_line_2 : Fld Z h2 r0 "com/example/lint_for_clocks/lintforclocks/model/Template" "line" "I" (.int (0 : Int32)) := F_line.other W2 (Or.inr (slot_ne (Or.inr (hw _ (List.mem_of_getElem? (i := 110) rfl))) (Or.inr (hw _ (List.mem_of_getElem? (i := 108) rfl))) (by decide) (t := .int) (t' := (.object "java/lang/String")) (by decide) (by decide)))
  have F_parameters_2 : Fld Z h2 r0 "com/example/lint_for_clocks/lintforclocks/model/Template" "parameters" "Ljava/util/List;" .null := F_parameters.other W2 (Or.inr (slot_ne (Or.inr (hw _ (List.mem_of_getElem? (i := 112) rfl))) (Or.inr (hw _ (List.mem_of_getElem? (i := 108) rfl))) (by decide) (t := (.object "java/util/List")) (t' := (.object "java/lang/String")) (by decide) (by decide)))
  have F_declarations_2 : Fld Z h2 r0 "com/example/lint_for_clocks/lintforclocks/model/Template" "declarations" "Ljava/util/List;" .null := F_declarations.other W2 (Or.inr (slot_ne (Or.inr (hw _ (List.mem_of_getElem? (i := 114) rfl))) (Or.inr (hw _ (List.mem_of_getElem? (i := 108) rfl))) (by decide) (t := (.object "java/util/List")) (t' := (.object "java/lang/String")) (by decide) (by decide)))
  have F_locations_2 : Fld Z h2 r0 "com/example/lint_for_clocks/lintforclocks/model/Template" "locations" "Ljava/util/List;" .null := F_locations.other W2 (Or.inr (slot_ne (Or.inr (hw _ (List.mem_of_getElem? (i := 116) rfl))) (Or.inr (hw _ (List.mem_of_getElem? (i := 108) rfl))) (by decide) (t := (.object "java/util/List")) (t' := (.object "java/lang/String")) (by decide) (by decide)))
  have F_branchpoints_2 : Fld Z h2 r0 "com/example/lint_for_clocks/lintforclocks/model/Template" "branchpoints" "Ljava/util/List;" .null := F_branchpoints.other W2 (Or.inr (slot_ne (Or.inr (hw _ (List.mem_of_getElem? (i := 118) rfl))) (Or.inr (hw _ (List.mem_of_getElem? (i := 108) rfl))) (by decide) (t := (.object "java/util/List")) (t' := (.object "java/lang/String")) (by decide) (by decide)))
  have F_edges_2 : Fld Z h2 r0 "com/example/lint_for_clocks/lintforclocks/model/Template" "edges" "Ljava/util/List;" .null := F_edges.other W2 (Or.inr (slot_ne (Or.inr (hw _ (List.mem_of_getElem? (i := 120) rfl))) (Or.inr (hw _ (List.mem_of_getElem? (i := 108) rfl))) (by decide) (t := (.object "java/util/List")) (t' := (.object "java/lang/String")) (by decide) (by decide)))
  have F_name_2 : Fld Z h2 r0 "com/example/lint_for_clocks/lintforclocks/model/Template" "name" "Ljava/lang/String;" (.ref r1) := F_name.same W2
  have K2 : Keep h0 h2 [r0] := (Keep.refl h0 [r0]).wr W2 (Or.inl (by simp))
  show own_Go p e below s _ _ _ (T2.setTop (mkF m 9 #[.val (.ref r0), .val (.ref r1), .val (.int p2), .val .null, .val .null, .val .null, .val .null, .val (.ref r7)] []))
  refine own_go (fun t_ kt_ => XS.aloadN X2g.here hx rfl (hb hby d12_9) rfl rfl kt_) ?_
  show own_Go p e below s _ _ _ (T2.setTop (mkF m 10 #[.val (.ref r0), .val (.ref r1), .val (.int p2), .val .null, .val .null, .val .null, .val .null, .val (.ref r7)] [(.ref r0)]))
  refine own_go (fun t_ kt_ => XS.iloadN X2g.here hx rfl (hb hby d12_10) rfl kt_) ?_
  show own_Go p e below s _ _ _ (T2.setTop (mkF m 11 #[.val (.ref r0), .val (.ref r1), .val (.int p2), .val .null, .val .null, .val .null, .val .null, .val (.ref r7)] [(.int p2), (.ref r0)]))
  obtain ⟨T3, h3, X3, e3, W3, st3⟩ := putF X2g hx hZ hown (host := "") (Or.inl (hw _ (List.mem_of_getElem? (i := 109) rfl))) Via.refl e2 F_line_2 EE_2 (Or.inr ⟨(hw _ (List.mem_of_getElem? (i := 110) rfl)), rfl, hnm⟩) (hw _ (List.mem_of_getElem? (i := 100) rfl)) (ty := .int) (by decide) rfl rfl (g := (mkF m 11 #[.val (.ref r0), .val (.ref r1), .val (.int p2), .val .null, .val .null, .val .null, .val .null, .val (.ref r7)] [(.int p2), (.ref r0)])) rfl rfl (hb hby d12_11)
  refine own_go (fun t_ kt_ => st3 _ kt_) ?_
  have N3 := Fr.snoc X3 N2g g0
  obtain ⟨lo3, X3g, N3g⟩ : ∃ lo, Stand p l e ({ frames := 2, cells := 0, slots := 0, locals := 24 } : Room) s m #[(.ref r0), (.ref r1), (.int p2), .null, .null, .null, .null, (.ref r7)] below meth c T3 lo 0 0 ∧ Fr n0 lo := ⟨_, X3, N3⟩
  have ZZ_3 : n0 ≤ h3.size := Nat.le_trans ZZ_2 (Nat.le_of_eq W3.size.symm)
  have EE_3 : Exa Z h3 r0 "com/example/lint_for_clocks/lintforclocks/model/Template" := EE_2.wr W3
  have F_name_3 : Fld Z h3 r0 "com/example/lint_for_clocks/lintforclocks/model/Template" "name" "Ljava/lang/String;" (.ref r1) := F_name_2.other W3 (Or.inr (slot_ne (Or.inr (hw _ (List.mem_of_getElem? (i := 108) rfl))) (Or.inr (hw _ (List.mem_of_getElem? (i := 110) rfl))) (by decide) (t := (.object "java/lang/String")) (t' := .int) (by decide) (by decide)))
  have F_parameters_3 : Fld Z h3 r0 "com/example/lint_for_clocks/lintforclocks/model/Template" "parameters" "Ljava/util/List;" .null := F_parameters_2.other W3 (Or.inr (slot_ne (Or.inr (hw _ (List.mem_of_getElem? (i := 112) rfl))) (Or.inr (hw _ (List.mem_of_getElem? (i := 110) rfl))) (by decide) (t := (.object "java/util/List")) (t' := .int) (by decide) (by decide)))
  have F_declarations_3 : Fld Z h3 r0 "com/example/lint_for_clocks/lintforclocks/model/Template" "declarations" "Ljava/util/List;" .null := F_declarations_2.other W3 (Or.inr (slot_ne (Or.inr (hw _ (List.mem_of_getElem? (i := 114) rfl))) (Or.inr (hw _ (List.mem_of_getElem? (i := 110) rfl))) (by decide) (t := (.object "java/util/List")) (t' := .int) (by decide) (by decide)))
  have F_locations_3 : Fld Z h3 r0 "com/example/lint_for_clocks/lintforclocks/model/Template" "locations" "Ljava/util/List;" .null := F_locations_2.other W3 (Or.inr (slot_ne (Or.inr (hw _ (List.mem_of_getElem? (i := 116) rfl))) (Or.inr (hw _ (List.mem_of_getElem? (i := 110) rfl))) (by decide) (t := (.object "java/util/List")) (t' := .int) (by decide) (by decide)))
  have F_branchpoints_3 : Fld Z h3 r0 "com/example/lint_for_clocks/lintforclocks/model/Template" "branchpoints" "Ljava/util/List;" .null := F_branchpoints_2.other W3 (Or.inr (slot_ne (Or.inr (hw _ (List.mem_of_getElem? (i := 118) rfl))) (Or.inr (hw _ (List.mem_of_getElem? (i := 110) rfl))) (by decide) (t := (.object "java/util/List")) (t' := .int) (by decide) (by decide)))
  have F_edges_3 : Fld Z h3 r0 "com/example/lint_for_clocks/lintforclocks/model/Template" "edges" "Ljava/util/List;" .null := F_edges_2.other W3 (Or.inr (slot_ne (Or.inr (hw _ (List.mem_of_getElem? (i := 120) rfl))) (Or.inr (hw _ (List.mem_of_getElem? (i := 110) rfl))) (by decide) (t := (.object "java/util/List")) (t' := .int) (by decide) (by decide)))
  have F_line_3 : Fld Z h3 r0 "com/example/lint_for_clocks/lintforclocks/model/Template" "line" "I" (.int p2) := F_line_2.same W3
  have K3 : Keep h0 h3 [r0] := K2.wr W3 (Or.inl (by simp))
  show own_Go p e below s _ _ _ (T3.setTop (mkF m 14 #[.val (.ref r0), .val (.ref r1), .val (.int p2), .val .null, .val .null, .val .null, .val .null, .val (.ref r7)] []))
  refine own_go (fun t_ kt_ => XS.aloadN X3g.here hx rfl (hb hby d12_14) rfl rfl kt_) ?_
  show own_Go p e below s _ _ _ (T3.setTop (mkF m 15 #[.val (.ref r0), .val (.ref r1), .val (.int p2), .val .null, .val .null, .val .null, .val .null, .val (.ref r7)] [(.ref r0)]))
  refine own_go (fun t_ kt_ => XS.aloadN X3g.here hx rfl (hb hby d12_15) rfl rfl kt_) ?_
  show own_Go p e below s _ _ _ (T3.setTop (mkF m 16 #[.val (.ref r0), .val (.ref r1), .val (.int p2), .val .null, .val .null, .val .null, .val .null, .val (.ref r7)] [.null, (.ref r0)]))
  obtain ⟨T4, h4, X4, e4, W4, st4⟩ := putF X3g hx hZ hown (host := "") (Or.inl (hw _ (List.mem_of_getElem? (i := 111) rfl))) Via.refl e3 F_parameters_3 EE_3 (Or.inr ⟨(hw _ (List.mem_of_getElem? (i := 112) rfl)), rfl, hnm⟩) (hw _ (List.mem_of_getElem? (i := 100) rfl)) (ty := (.object "java/util/List")) (by decide) rfl rfl (g := (mkF m 16 #[.val (.ref r0), .val (.ref r1), .val (.int p2), .val .null, .val .null, .val .null, .val .null, .val (.ref r7)] [.null, (.ref r0)])) rfl rfl (hb hby d12_16)
  refine own_go (fun t_ kt_ => st4 _ kt_) ?_
  have N4 := Fr.snoc X4 N3g g0
  obtain ⟨lo4, X4g, N4g⟩ : ∃ lo, Stand p l e ({ frames := 2, cells := 0, slots := 0, locals := 24 } : Room) s m #[(.ref r0), (.ref r1), (.int p2), .null, .null, .null, .null, (.ref r7)] below meth c T4 lo 0 0 ∧ Fr n0 lo := ⟨_, X4, N4⟩
  have ZZ_4 : n0 ≤ h4.size := Nat.le_trans ZZ_3 (Nat.le_of_eq W4.size.symm)
  have EE_4 : Exa Z h4 r0 "com/example/lint_for_clocks/lintforclocks/model/Template" := EE_3.wr W4
  have F_name_4 : Fld Z h4 r0 "com/example/lint_for_clocks/lintforclocks/model/Template" "name" "Ljava/lang/String;" (.ref r1) := F_name_3.other W4 (Or.inr (slot_ne (Or.inr (hw _ (List.mem_of_getElem? (i := 108) rfl))) (Or.inr (hw _ (List.mem_of_getElem? (i := 112) rfl))) (by decide) (t := (.object "java/lang/String")) (t' := (.object "java/util/List")) (by decide) (by decide)))
  have F_line_4 : Fld Z h4 r0 "com/example/lint_for_clocks/lintforclocks/model/Template" "line" "I" (.int p2) := F_line_3.other W4 (Or.inr (slot_ne (Or.inr (hw _ (List.mem_of_getElem? (i := 110) rfl))) (Or.inr (hw _ (List.mem_of_getElem? (i := 112) rfl))) (by decide) (t := .int) (t' := (.object "java/util/List")) (by decide) (by decide)))
  have F_declarations_4 : Fld Z h4 r0 "com/example/lint_for_clocks/lintforclocks/model/Template" "declarations" "Ljava/util/List;" .null := F_declarations_3.other W4 (Or.inr (slot_ne (Or.inr (hw _ (List.mem_of_getElem? (i := 114) rfl))) (Or.inr (hw _ (List.mem_of_getElem? (i := 112) rfl))) (by decide) (t := (.object "java/util/List")) (t' := (.object "java/util/List")) (by decide) (by decide)))
  have F_locations_4 : Fld Z h4 r0 "com/example/lint_for_clocks/lintforclocks/model/Template" "locations" "Ljava/util/List;" .null := F_locations_3.other W4 (Or.inr (slot_ne (Or.inr (hw _ (List.mem_of_getElem? (i := 116) rfl))) (Or.inr (hw _ (List.mem_of_getElem? (i := 112) rfl))) (by decide) (t := (.object "java/util/List")) (t' := (.object "java/util/List")) (by decide) (by decide)))
  have F_branchpoints_4 : Fld Z h4 r0 "com/example/lint_for_clocks/lintforclocks/model/Template" "branchpoints" "Ljava/util/List;" .null := F_branchpoints_3.other W4 (Or.inr (slot_ne (Or.inr (hw _ (List.mem_of_getElem? (i := 118) rfl))) (Or.inr (hw _ (List.mem_of_getElem? (i := 112) rfl))) (by decide) (t := (.object "java/util/List")) (t' := (.object "java/util/List")) (by decide) (by decide)))
  have F_edges_4 : Fld Z h4 r0 "com/example/lint_for_clocks/lintforclocks/model/Template" "edges" "Ljava/util/List;" .null := F_edges_3.other W4 (Or.inr (slot_ne (Or.inr (hw _ (List.mem_of_getElem? (i := 120) rfl))) (Or.inr (hw _ (List.mem_of_getElem? (i := 112) rfl))) (by decide) (t := (.object "java/util/List")) (t' := (.object "java/util/List")) (by decide) (by decide)))
  have F_parameters_4 : Fld Z h4 r0 "com/example/lint_for_clocks/lintforclocks/model/Template" "parameters" "Ljava/util/List;" .null := F_parameters_3.same W4
  have K4 : Keep h0 h4 [r0] := K3.wr W4 (Or.inl (by simp))
  show own_Go p e below s _ _ _ (T4.setTop (mkF m 19 #[.val (.ref r0), .val (.ref r1), .val (.int p2), .val .null, .val .null, .val .null, .val .null, .val (.ref r7)] []))
  refine own_go (fun t_ kt_ => XS.aloadN X4g.here hx rfl (hb hby d12_19) rfl rfl kt_) ?_
  show own_Go p e below s _ _ _ (T4.setTop (mkF m 20 #[.val (.ref r0), .val (.ref r1), .val (.int p2), .val .null, .val .null, .val .null, .val .null, .val (.ref r7)] [(.ref r0)]))
  refine own_go (fun t_ kt_ => XS.aload X4g.here hx rfl (hb hby d12_20) rfl rfl kt_) ?_
  show own_Go p e below s _ _ _ (T4.setTop (mkF m 22 #[.val (.ref r0), .val (.ref r1), .val (.int p2), .val .null, .val .null, .val .null, .val .null, .val (.ref r7)] [.null, (.ref r0)]))
  obtain ⟨T5, h5, X5, e5, W5, st5⟩ := putF X4g hx hZ hown (host := "") (Or.inl (hw _ (List.mem_of_getElem? (i := 113) rfl))) Via.refl e4 F_declarations_4 EE_4 (Or.inr ⟨(hw _ (List.mem_of_getElem? (i := 114) rfl)), rfl, hnm⟩) (hw _ (List.mem_of_getElem? (i := 100) rfl)) (ty := (.object "java/util/List")) (by decide) rfl rfl (g := (mkF m 22 #[.val (.ref r0), .val (.ref r1), .val (.int p2), .val .null, .val .null, .val .null, .val .null, .val (.ref r7)] [.null, (.ref r0)])) rfl rfl (hb hby d12_22)
  refine own_go (fun t_ kt_ => st5 _ kt_) ?_
  have N5 := Fr.snoc X5 N4g g0
  obtain ⟨lo5, X5g, N5g⟩ : ∃ lo, Stand p l e ({ frames := 2, cells := 0, slots := 0, locals := 24 } : Room) s m #[(.ref r0), (.ref r1), (.int p2), .null, .null, .null, .null, (.ref r7)] below meth c T5 lo 0 0 ∧ Fr n0 lo := ⟨_, X5, N5⟩
  have ZZ_5 : n0 ≤ h5.size := Nat.le_trans ZZ_4 (Nat.le_of_eq W5.size.symm)
  have EE_5 : Exa Z h5 r0 "com/example/lint_for_clocks/lintforclocks/model/Template" := EE_4.wr W5
  have F_name_5 : Fld Z h5 r0 "com/example/lint_for_clocks/lintforclocks/model/Template" "name" "Ljava/lang/String;" (.ref r1) := F_name_4.other W5 (Or.inr (slot_ne (Or.inr (hw _ (List.mem_of_getElem? (i := 108) rfl))) (Or.inr (hw _ (List.mem_of_getElem? (i := 114) rfl))) (by decide) (t := (.object "java/lang/String")) (t' := (.object "java/util/List")) (by decide) (by decide)))
  have F_line_5 : Fld Z h5 r0 "com/example/lint_for_clocks/lintforclocks/model/Template" "line" "I" (.int p2) := F_line_4.other W5 (Or.inr (slot_ne (Or.inr (hw _ (List.mem_of_getElem? (i := 110) rfl))) (Or.inr (hw _ (List.mem_of_getElem? (i := 114) rfl))) (by decide) (t := .int) (t' := (.object "java/util/List")) (by decide) (by decide)))
  have F_parameters_5 : Fld Z h5 r0 "com/example/lint_for_clocks/lintforclocks/model/Template" "parameters" "Ljava/util/List;" .null := F_parameters_4.other W5 (Or.inr (slot_ne (Or.inr (hw _ (List.mem_of_getElem? (i := 112) rfl))) (Or.inr (hw _ (List.mem_of_getElem? (i := 114) rfl))) (by decide) (t := (.object "java/util/List")) (t' := (.object "java/util/List")) (by decide) (by decide)))
  have F_locations_5 : Fld Z h5 r0 "com/example/lint_for_clocks/lintforclocks/model/Template" "locations" "Ljava/util/List;" .null := F_locations_4.other W5 (Or.inr (slot_ne (Or.inr (hw _ (List.mem_of_getElem? (i := 116) rfl))) (Or.inr (hw _ (List.mem_of_getElem? (i := 114) rfl))) (by decide) (t := (.object "java/util/List")) (t' := (.object "java/util/List")) (by decide) (by decide)))
  have F_branchpoints_5 : Fld Z h5 r0 "com/example/lint_for_clocks/lintforclocks/model/Template" "branchpoints" "Ljava/util/List;" .null := F_branchpoints_4.other W5 (Or.inr (slot_ne (Or.inr (hw _ (List.mem_of_getElem? (i := 118) rfl))) (Or.inr (hw _ (List.mem_of_getElem? (i := 114) rfl))) (by decide) (t := (.object "java/util/List")) (t' := (.object "java/util/List")) (by decide) (by decide)))
  have F_edges_5 : Fld Z h5 r0 "com/example/lint_for_clocks/lintforclocks/model/Template" "edges" "Ljava/util/List;" .null := F_edges_4.other W5 (Or.inr (slot_ne (Or.inr (hw _ (List.mem_of_getElem? (i := 120) rfl))) (Or.inr (hw _ (List.mem_of_getElem? (i := 114) rfl))) (by decide) (t := (.object "java/util/List")) (t' := (.object "java/util/List")) (by decide) (by decide)))
  have F_declarations_5 : Fld Z h5 r0 "com/example/lint_for_clocks/lintforclocks/model/Template" "declarations" "Ljava/util/List;" .null := F_declarations_4.same W5
  have K5 : Keep h0 h5 [r0] := K4.wr W5 (Or.inl (by simp))
  show own_Go p e below s _ _ _ (T5.setTop (mkF m 25 #[.val (.ref r0), .val (.ref r1), .val (.int p2), .val .null, .val .null, .val .null, .val .null, .val (.ref r7)] []))
  refine own_go (fun t_ kt_ => XS.aloadN X5g.here hx rfl (hb hby d12_25) rfl rfl kt_) ?_
  show own_Go p e below s _ _ _ (T5.setTop (mkF m 26 #[.val (.ref r0), .val (.ref r1), .val (.int p2), .val .null, .val .null, .val .null, .val .null, .val (.ref r7)] [(.ref r0)]))
  refine own_go (fun t_ kt_ => XS.aload X5g.here hx rfl (hb hby d12_26) rfl rfl kt_) ?_
  show own_Go p e below s _ _ _ (T5.setTop (mkF m 28 #[.val (.ref r0), .val (.ref r1), .val (.int p2), .val .null, .val .null, .val .null, .val .null, .val (.ref r7)] [.null, (.ref r0)]))
  obtain ⟨T6, h6, X6, e6, W6, st6⟩ := putF X5g hx hZ hown (host := "") (Or.inl (hw _ (List.mem_of_getElem? (i := 115) rfl))) Via.refl e5 F_locations_5 EE_5 (Or.inr ⟨(hw _ (List.mem_of_getElem? (i := 116) rfl)), rfl, hnm⟩) (hw _ (List.mem_of_getElem? (i := 100) rfl)) (ty := (.object "java/util/List")) (by decide) rfl rfl (g := (mkF m 28 #[.val (.ref r0), .val (.ref r1), .val (.int p2), .val .null, .val .null, .val .null, .val .null, .val (.ref r7)] [.null, (.ref r0)])) rfl rfl (hb hby d12_28)
  refine own_go (fun t_ kt_ => st6 _ kt_) ?_
  have N6 := Fr.snoc X6 N5g g0
  obtain ⟨lo6, X6g, N6g⟩ : ∃ lo, Stand p l e ({ frames := 2, cells := 0, slots := 0, locals := 24 } : Room) s m #[(.ref r0), (.ref r1), (.int p2), .null, .null, .null, .null, (.ref r7)] below meth c T6 lo 0 0 ∧ Fr n0 lo := ⟨_, X6, N6⟩
  have ZZ_6 : n0 ≤ h6.size := Nat.le_trans ZZ_5 (Nat.le_of_eq W6.size.symm)
  have EE_6 : Exa Z h6 r0 "com/example/lint_for_clocks/lintforclocks/model/Template" := EE_5.wr W6
  have F_name_6 : Fld Z h6 r0 "com/example/lint_for_clocks/lintforclocks/model/Template" "name" "Ljava/lang/String;" (.ref r1) := F_name_5.other W6 (Or.inr (slot_ne (Or.inr (hw _ (List.mem_of_getElem? (i := 108) rfl))) (Or.inr (hw _ (List.mem_of_getElem? (i := 116) rfl))) (by decide) (t := (.object "java/lang/String")) (t' := (.object "java/util/List")) (by decide) (by decide)))
  have F_line_6 : Fld Z h6 r0 "com/example/lint_for_clocks/lintforclocks/model/Template" "line" "I" (.int p2) := F_line_5.other W6 (Or.inr (slot_ne (Or.inr (hw _ (List.mem_of_getElem? (i := 110) rfl))) (Or.inr (hw _ (List.mem_of_getElem? (i := 116) rfl))) (by decide) (t := .int) (t' := (.object "java/util/List")) (by decide) (by decide)))
  have F_parameters_6 : Fld Z h6 r0 "com/example/lint_for_clocks/lintforclocks/model/Template" "parameters" "Ljava/util/List;" .null := F_parameters_5.other W6 (Or.inr (slot_ne (Or.inr (hw _ (List.mem_of_getElem? (i := 112) rfl))) (Or.inr (hw _ (List.mem_of_getElem? (i := 116) rfl))) (by decide) (t := (.object "java/util/List")) (t' := (.object "java/util/List")) (by decide) (by decide)))
  have F_declarations_6 : Fld Z h6 r0 "com/example/lint_for_clocks/lintforclocks/model/Template" "declarations" "Ljava/util/List;" .null := F_declarations_5.other W6 (Or.inr (slot_ne (Or.inr (hw _ (List.mem_of_getElem? (i := 114) rfl))) (Or.inr (hw _ (List.mem_of_getElem? (i := 116) rfl))) (by decide) (t := (.object "java/util/List")) (t' := (.object "java/util/List")) (by decide) (by decide)))
  have F_branchpoints_6 : Fld Z h6 r0 "com/example/lint_for_clocks/lintforclocks/model/Template" "branchpoints" "Ljava/util/List;" .null := F_branchpoints_5.other W6 (Or.inr (slot_ne (Or.inr (hw _ (List.mem_of_getElem? (i := 118) rfl))) (Or.inr (hw _ (List.mem_of_getElem? (i := 116) rfl))) (by decide) (t := (.object "java/util/List")) (t' := (.object "java/util/List")) (by decide) (by decide)))
  have F_edges_6 : Fld Z h6 r0 "com/example/lint_for_clocks/lintforclocks/model/Template" "edges" "Ljava/util/List;" .null := F_edges_5.other W6 (Or.inr (slot_ne (Or.inr (hw _ (List.mem_of_getElem? (i := 120) rfl))) (Or.inr (hw _ (List.mem_of_getElem? (i := 116) rfl))) (by decide) (t := (.object "java/util/List")) (t' := (.object "java/util/List")) (by decide) (by decide)))
  have F_locations_6 : Fld Z h6 r0 "com/example/lint_for_clocks/lintforclocks/model/Template" "locations" "Ljava/util/List;" .null := F_locations_5.same W6
  have K6 : Keep h0 h6 [r0] := K5.wr W6 (Or.inl (by simp))
  show own_Go p e below s _ _ _ (T6.setTop (mkF m 31 #[.val (.ref r0), .val (.ref r1), .val (.int p2), .val .null, .val .null, .val .null, .val .null, .val (.ref r7)] []))
  refine own_go (fun t_ kt_ => XS.aloadN X6g.here hx rfl (hb hby d12_31) rfl rfl kt_) ?_
  show own_Go p e below s _ _ _ (T6.setTop (mkF m 32 #[.val (.ref r0), .val (.ref r1), .val (.int p2), .val .null, .val .null, .val .null, .val .null, .val (.ref r7)] [(.ref r0)]))
  refine own_go (fun t_ kt_ => XS.aload X6g.here hx rfl (hb hby d12_32) rfl rfl kt_) ?_
  show own_Go p e below s _ _ _ (T6.setTop (mkF m 34 #[.val (.ref r0), .val (.ref r1), .val (.int p2), .val .null, .val .null, .val .null, .val .null, .val (.ref r7)] [.null, (.ref r0)]))
  obtain ⟨T7, h7, X7, e7, W7, st7⟩ := putF X6g hx hZ hown (host := "") (Or.inl (hw _ (List.mem_of_getElem? (i := 117) rfl))) Via.refl e6 F_branchpoints_6 EE_6 (Or.inr ⟨(hw _ (List.mem_of_getElem? (i := 118) rfl)), rfl, hnm⟩) (hw _ (List.mem_of_getElem? (i := 100) rfl)) (ty := (.object "java/util/List")) (by decide) rfl rfl (g := (mkF m 34 #[.val (.ref r0), .val (.ref r1), .val (.int p2), .val .null, .val .null, .val .null, .val .null, .val (.ref r7)] [.null, (.ref r0)])) rfl rfl (hb hby d12_34)
  refine own_go (fun t_ kt_ => st7 _ kt_) ?_
  have N7 := Fr.snoc X7 N6g g0
  obtain ⟨lo7, X7g, N7g⟩ : ∃ lo, Stand p l e ({ frames := 2, cells := 0, slots := 0, locals := 24 } : Room) s m #[(.ref r0), (.ref r1), (.int p2), .null, .null, .null, .null, (.ref r7)] below meth c T7 lo 0 0 ∧ Fr n0 lo := ⟨_, X7, N7⟩
  have ZZ_7 : n0 ≤ h7.size := Nat.le_trans ZZ_6 (Nat.le_of_eq W7.size.symm)
  have EE_7 : Exa Z h7 r0 "com/example/lint_for_clocks/lintforclocks/model/Template" := EE_6.wr W7
  have F_name_7 : Fld Z h7 r0 "com/example/lint_for_clocks/lintforclocks/model/Template" "name" "Ljava/lang/String;" (.ref r1) := F_name_6.other W7 (Or.inr (slot_ne (Or.inr (hw _ (List.mem_of_getElem? (i := 108) rfl))) (Or.inr (hw _ (List.mem_of_getElem? (i := 118) rfl))) (by decide) (t := (.object "java/lang/String")) (t' := (.object "java/util/List")) (by decide) (by decide)))
  have F_line_7 : Fld Z h7 r0 "com/example/lint_for_clocks/lintforclocks/model/Template" "line" "I" (.int p2) := F_line_6.other W7 (Or.inr (slot_ne (Or.inr (hw _ (List.mem_of_getElem? (i := 110) rfl))) (Or.inr (hw _ (List.mem_of_getElem? (i := 118) rfl))) (by decide) (t := .int) (t' := (.object "java/util/List")) (by decide) (by decide)))
  have F_parameters_7 : Fld Z h7 r0 "com/example/lint_for_clocks/lintforclocks/model/Template" "parameters" "Ljava/util/List;" .null := F_parameters_6.other W7 (Or.inr (slot_ne (Or.inr (hw _ (List.mem_of_getElem? (i := 112) rfl))) (Or.inr (hw _ (List.mem_of_getElem? (i := 118) rfl))) (by decide) (t := (.object "java/util/List")) (t' := (.object "java/util/List")) (by decide) (by decide)))
  have F_declarations_7 : Fld Z h7 r0 "com/example/lint_for_clocks/lintforclocks/model/Template" "declarations" "Ljava/util/List;" .null := F_declarations_6.other W7 (Or.inr (slot_ne (Or.inr (hw _ (List.mem_of_getElem? (i := 114) rfl))) (Or.inr (hw _ (List.mem_of_getElem? (i := 118) rfl))) (by decide) (t := (.object "java/util/List")) (t' := (.object "java/util/List")) (by decide) (by decide)))
  have F_locations_7 : Fld Z h7 r0 "com/example/lint_for_clocks/lintforclocks/model/Template" "locations" "Ljava/util/List;" .null := F_locations_6.other W7 (Or.inr (slot_ne (Or.inr (hw _ (List.mem_of_getElem? (i := 116) rfl))) (Or.inr (hw _ (List.mem_of_getElem? (i := 118) rfl))) (by decide) (t := (.object "java/util/List")) (t' := (.object "java/util/List")) (by decide) (by decide)))
  have F_edges_7 : Fld Z h7 r0 "com/example/lint_for_clocks/lintforclocks/model/Template" "edges" "Ljava/util/List;" .null := F_edges_6.other W7 (Or.inr (slot_ne (Or.inr (hw _ (List.mem_of_getElem? (i := 120) rfl))) (Or.inr (hw _ (List.mem_of_getElem? (i := 118) rfl))) (by decide) (t := (.object "java/util/List")) (t' := (.object "java/util/List")) (by decide) (by decide)))
  have F_branchpoints_7 : Fld Z h7 r0 "com/example/lint_for_clocks/lintforclocks/model/Template" "branchpoints" "Ljava/util/List;" .null := F_branchpoints_6.same W7
  have K7 : Keep h0 h7 [r0] := K6.wr W7 (Or.inl (by simp))
  show own_Go p e below s _ _ _ (T7.setTop (mkF m 37 #[.val (.ref r0), .val (.ref r1), .val (.int p2), .val .null, .val .null, .val .null, .val .null, .val (.ref r7)] []))
  refine own_go (fun t_ kt_ => XS.aloadN X7g.here hx rfl (hb hby d12_37) rfl rfl kt_) ?_
  show own_Go p e below s _ _ _ (T7.setTop (mkF m 38 #[.val (.ref r0), .val (.ref r1), .val (.int p2), .val .null, .val .null, .val .null, .val .null, .val (.ref r7)] [(.ref r0)]))
  refine own_go (fun t_ kt_ => XS.aload X7g.here hx rfl (hb hby d12_38) rfl rfl kt_) ?_
  show own_Go p e below s _ _ _ (T7.setTop (mkF m 40 #[.val (.ref r0), .val (.ref r1), .val (.int p2), .val .null, .val .null, .val .null, .val .null, .val (.ref r7)] [(.ref r7), (.ref r0)]))
  obtain ⟨T8, h8, X8, e8, W8, st8⟩ := putF X7g hx hZ hown (host := "") (Or.inl (hw _ (List.mem_of_getElem? (i := 119) rfl))) Via.refl e7 F_edges_7 EE_7 (Or.inr ⟨(hw _ (List.mem_of_getElem? (i := 120) rfl)), rfl, hnm⟩) (hw _ (List.mem_of_getElem? (i := 100) rfl)) (ty := (.object "java/util/List")) (by decide) rfl rfl (g := (mkF m 40 #[.val (.ref r0), .val (.ref r1), .val (.int p2), .val .null, .val .null, .val .null, .val .null, .val (.ref r7)] [(.ref r7), (.ref r0)])) rfl rfl (hb hby d12_40)
  refine own_go (fun t_ kt_ => st8 _ kt_) ?_
  have N8 := Fr.snoc X8 N7g g0
  obtain ⟨lo8, X8g, N8g⟩ : ∃ lo, Stand p l e ({ frames := 2, cells := 0, slots := 0, locals := 24 } : Room) s m #[(.ref r0), (.ref r1), (.int p2), .null, .null, .null, .null, (.ref r7)] below meth c T8 lo 0 0 ∧ Fr n0 lo := ⟨_, X8, N8⟩
  have ZZ_8 : n0 ≤ h8.size := Nat.le_trans ZZ_7 (Nat.le_of_eq W8.size.symm)
  have EE_8 : Exa Z h8 r0 "com/example/lint_for_clocks/lintforclocks/model/Template" := EE_7.wr W8
  have F_name_8 : Fld Z h8 r0 "com/example/lint_for_clocks/lintforclocks/model/Template" "name" "Ljava/lang/String;" (.ref r1) := F_name_7.other W8 (Or.inr (slot_ne (Or.inr (hw _ (List.mem_of_getElem? (i := 108) rfl))) (Or.inr (hw _ (List.mem_of_getElem? (i := 120) rfl))) (by decide) (t := (.object "java/lang/String")) (t' := (.object "java/util/List")) (by decide) (by decide)))
  have F_line_8 : Fld Z h8 r0 "com/example/lint_for_clocks/lintforclocks/model/Template" "line" "I" (.int p2) := F_line_7.other W8 (Or.inr (slot_ne (Or.inr (hw _ (List.mem_of_getElem? (i := 110) rfl))) (Or.inr (hw _ (List.mem_of_getElem? (i := 120) rfl))) (by decide) (t := .int) (t' := (.object "java/util/List")) (by decide) (by decide)))
  have F_parameters_8 : Fld Z h8 r0 "com/example/lint_for_clocks/lintforclocks/model/Template" "parameters" "Ljava/util/List;" .null := F_parameters_7.other W8 (Or.inr (slot_ne (Or.inr (hw _ (List.mem_of_getElem? (i := 112) rfl))) (Or.inr (hw _ (List.mem_of_getElem? (i := 120) rfl))) (by decide) (t := (.object "java/util/List")) (t' := (.object "java/util/List")) (by decide) (by decide)))
  have F_declarations_8 : Fld Z h8 r0 "com/example/lint_for_clocks/lintforclocks/model/Template" "declarations" "Ljava/util/List;" .null := F_declarations_7.other W8 (Or.inr (slot_ne (Or.inr (hw _ (List.mem_of_getElem? (i := 114) rfl))) (Or.inr (hw _ (List.mem_of_getElem? (i := 120) rfl))) (by decide) (t := (.object "java/util/List")) (t' := (.object "java/util/List")) (by decide) (by decide)))
  have F_locations_8 : Fld Z h8 r0 "com/example/lint_for_clocks/lintforclocks/model/Template" "locations" "Ljava/util/List;" .null := F_locations_7.other W8 (Or.inr (slot_ne (Or.inr (hw _ (List.mem_of_getElem? (i := 116) rfl))) (Or.inr (hw _ (List.mem_of_getElem? (i := 120) rfl))) (by decide) (t := (.object "java/util/List")) (t' := (.object "java/util/List")) (by decide) (by decide)))
  have F_branchpoints_8 : Fld Z h8 r0 "com/example/lint_for_clocks/lintforclocks/model/Template" "branchpoints" "Ljava/util/List;" .null := F_branchpoints_7.other W8 (Or.inr (slot_ne (Or.inr (hw _ (List.mem_of_getElem? (i := 118) rfl))) (Or.inr (hw _ (List.mem_of_getElem? (i := 120) rfl))) (by decide) (t := (.object "java/util/List")) (t' := (.object "java/util/List")) (by decide) (by decide)))
  have F_edges_8 : Fld Z h8 r0 "com/example/lint_for_clocks/lintforclocks/model/Template" "edges" "Ljava/util/List;" (.ref r7) := F_edges_7.same W8
  have K8 : Keep h0 h8 [r0] := K7.wr W8 (Or.inl (by simp))
  show own_Go p e below s _ _ _ (T8.setTop (mkF m 43 #[.val (.ref r0), .val (.ref r1), .val (.int p2), .val .null, .val .null, .val .null, .val .null, .val (.ref r7)] []))
  refine own_ret X8g (v := none) (fun _ => rfl) hlk ?_ (by decide) (by decide) (fun fs hr => X8g.returnOut hx hret (hb hby d12_43) hr)
  show Q12 Z r0 r1 p2 r7 h0 n0 (none) T8.heap _
  rw [e8]
  exact ⟨rfl, N8g, K8, F_edges_8⟩
theorem pn_6 : plainName "com/example/lint_for_clocks/lintforclocks/rules/Loop" = true := by first | (simp [plainName, overriddenIn]; done) | decide +kernel
theorem d13_0 : decode prog_74_method_1_code 0 = .ok (.aload_n 0, 1) := by decide +kernel
theorem d13_1 : decode prog_74_method_1_code 1 = .ok (.invokespecial 1, 3) := by decide +kernel
theorem d13_4 : decode prog_74_method_1_code 4 = .ok (.aload_n 0, 1) := by decide +kernel
theorem d13_5 : decode prog_74_method_1_code 5 = .ok (.aload_n 1, 1) := by decide +kernel
theorem d13_6 : decode prog_74_method_1_code 6 = .ok (.putfield 7, 3) := by decide +kernel
theorem d13_9 : decode prog_74_method_1_code 9 = .ok (.aload_n 0, 1) := by decide +kernel
theorem d13_10 : decode prog_74_method_1_code 10 = .ok (.aload_n 2, 1) := by decide +kernel
theorem d13_11 : decode prog_74_method_1_code 11 = .ok (.putfield 13, 3) := by decide +kernel
theorem d13_14 : decode prog_74_method_1_code 14 = .ok (.aload_n 0, 1) := by decide +kernel
theorem d13_15 : decode prog_74_method_1_code 15 = .ok (.aload_n 3, 1) := by decide +kernel
theorem d13_16 : decode prog_74_method_1_code 16 = .ok (.putfield 17, 3) := by decide +kernel
theorem d13_19 : decode prog_74_method_1_code 19 = .ok (.return_, 1) := by decide +kernel
theorem ef_13 (m : MethodId) (r0 : Addr) (r1 : Addr) (r3 : Addr) : entryFrame m #[(.ref r0), (.ref r1), .null, (.ref r3)] 4 = mkF m 0 #[.val (.ref r0), .val (.ref r1), .val .null, .val (.ref r3)] [] := by first | (simp [entryFrame, mkF, argsToLocals, Value.category]; done) | rfl
def Q13 (Z : State) (r0 : Addr) (r1 : Addr) (r3 : Addr) (h0 : Heap) (n0 : Nat) (v : Option Value) (h : Heap) (L : List Loc) : Prop := v = none ∧ Fr n0 L ∧ Keep h0 h [r0] ∧ Fld Z h r0 "com/example/lint_for_clocks/lintforclocks/rules/Loop" "template" "Lcom/example/lint_for_clocks/lintforclocks/model/Template;" (.ref r1) ∧ Fld Z h r0 "com/example/lint_for_clocks/lintforclocks/rules/Loop" "edges" "[I" (.ref r3)
set_option maxRecDepth 65536 in
set_option maxHeartbeats 40000000 in
theorem rm13 (l : Launch) (Z : State) (a0 : Array Value) (hw : ∀ d ∈ tables_1, d.before a0 Z = true) (ws : List Jvm.Cond) (r0 : Addr) (r1 : Addr) (r3 : Addr) (h0 : Heap) (n0 : Nat) (Z0 : n0 ≤ h0.size) (F_template : Fld Z h0 r0 "com/example/lint_for_clocks/lintforclocks/rules/Loop" "template" "Lcom/example/lint_for_clocks/lintforclocks/model/Template;" .null) (F_shown : Fld Z h0 r0 "com/example/lint_for_clocks/lintforclocks/rules/Loop" "shown" "Ljava/util/Map;" .null) (F_edges : Fld Z h0 r0 "com/example/lint_for_clocks/lintforclocks/rules/Loop" "edges" "[I" .null) (E0 : Exa Z h0 r0 "com/example/lint_for_clocks/lintforclocks/rules/Loop") (g0 : n0 ≤ r0) :
    MetFree l (⟨"com/example/lint_for_clocks/lintforclocks/rules/Loop", "<init>", "(Lcom/example/lint_for_clocks/lintforclocks/model/Template;Ljava/util/Map;[I)V"⟩ : MethodName) (head1 (Jvm.Cond.code (⟨"com/example/lint_for_clocks/lintforclocks/rules/Loop", "<init>", "(Lcom/example/lint_for_clocks/lintforclocks/model/Template;Ljava/util/Map;[I)V"⟩ : MethodName) prog_74_method_1_code 4 none :: ws) ({ frames := 1, cells := 0, slots := 0, locals := 12 } : Room)) (fun a U => a = #[(.ref r0), (.ref r1), .null, (.ref r3)] ∧ Z.Warmed39 U.vm ∧ U.heap = h0) (fun _ _ _ _ _ => True) (fun _ U o U' => ∃ v L, o = .returned v ∧ Q13 Z r0 r1 r3 h0 n0 v U'.heap L ∧ FrameEnd U o U' L (({ frames := 1, cells := 0, slots := 0, locals := 12 } : Room)).cells (({ frames := 1, cells := 0, slots := 0, locals := 12 } : Room)).slots) := by
  refine MetFree.of_bodySF (plainFor_of_name pn_6) hisR ?_
  intro p e s m args below meth c s₁ Bd hml0 hP hK
  obtain ⟨rfl, hZ, hh⟩ := hP
  have hx := Bd.exec
  have hby := Bd.bytes
  have hml : c.maxLocals = 4 := hml0
  have hown : s.vm.findClass "com/example/lint_for_clocks/lintforclocks/rules/Loop" = some m.cls := findClass_of_methodNamed Bd.named
  have hnm := (name_of_methodNamed Bd.named Bd.method).1
  have hlk : meth.locks = false := Bd.notSynchronized
  have X0 : Stand p l e ({ frames := 1, cells := 0, slots := 0, locals := 12 } : Room) s m #[(.ref r0), (.ref r1), .null, (.ref r3)] below meth c s₁ [] 0 0 := Stand.of_body Bd
  have e0 : s₁.heap = h0 := by rw [← hh, Bd.state]; rfl
  have N0 := Fr.nil n0
  have hret := Bd.returns
  show own_Go p e below s (Q13 Z r0 r1 r3 h0 n0) _ _ (s₁.setTop (entryFrame m #[(.ref r0), (.ref r1), .null, (.ref r3)] 4))
  refine own_go (fun t k => castTop (ef_13 m r0 r1 r3) k) ?_
  show own_Go p e below s _ _ _ (s₁.setTop (mkF m 0 #[.val (.ref r0), .val (.ref r1), .val .null, .val (.ref r3)] []))
  refine own_go (fun t_ kt_ => XS.aloadN X0.here hx rfl (hb hby d13_0) rfl rfl kt_) ?_
  show own_Go p e below s _ _ _ (s₁.setTop (mkF m 1 #[.val (.ref r0), .val (.ref r1), .val .null, .val (.ref r3)] [(.ref r0)]))
  obtain ⟨T1, X1, e1, st1⟩ := initO X0 hx hZ hown (hw _ (List.mem_of_getElem? (i := 129) rfl)) (hw _ (List.mem_of_getElem? (i := 19) rfl)) (hw _ (List.mem_of_getElem? (i := 20) rfl)) e0 (g := (mkF m 1 #[.val (.ref r0), .val (.ref r1), .val .null, .val (.ref r3)] [(.ref r0)])) rfl (by rw [hml]; rfl) rfl (hb hby d13_1) (by decide) (W := 0) (by show 2 * 0 + _ ≤ _; exact Nat.le_of_eq rfl) (by decide)
  refine own_go (fun t_ kt_ => st1 _ kt_) ?_
  show own_Go p e below s _ _ _ (T1.setTop (mkF m 4 #[.val (.ref r0), .val (.ref r1), .val .null, .val (.ref r3)] []))
  refine own_go (fun t_ kt_ => XS.aloadN X1.here hx rfl (hb hby d13_4) rfl rfl kt_) ?_
  show own_Go p e below s _ _ _ (T1.setTop (mkF m 5 #[.val (.ref r0), .val (.ref r1), .val .null, .val (.ref r3)] [(.ref r0)]))
  refine own_go (fun t_ kt_ => XS.aloadN X1.here hx rfl (hb hby d13_5) rfl rfl kt_) ?_
  show own_Go p e below s _ _ _ (T1.setTop (mkF m 6 #[.val (.ref r0), .val (.ref r1), .val .null, .val (.ref r3)] [(.ref r1), (.ref r0)]))
  obtain ⟨T2, h2, X2, e2, W2, st2⟩ := putF X1 hx hZ hown (host := "") (Or.inl (hw _ (List.mem_of_getElem? (i := 130) rfl))) Via.refl e1 F_template E0 (Or.inr ⟨(hw _ (List.mem_of_getElem? (i := 131) rfl)), rfl, hnm⟩) (hw _ (List.mem_of_getElem? (i := 124) rfl)) (ty := (.object "com/example/lint_for_clocks/lintforclocks/model/Template")) (by decide) rfl rfl (g := (mkF m 6 #[.val (.ref r0), .val (.ref r1), .val .null, .val (.ref r3)] [(.ref r1), (.ref r0)])) rfl rfl (hb hby d13_6)
  refine own_go (fun t_ kt_ => st2 _ kt_) ?_
  have N2 := Fr.snoc X2 N0 g0
  obtain ⟨lo2, X2g, N2g⟩ : ∃ lo, Stand p l e ({ frames := 1, cells := 0, slots := 0, locals := 12 } : Room) s m #[(.ref r0), (.ref r1), .null, (.ref r3)] below meth c T2 lo 0 0 ∧ Fr n0 lo := ⟨_, X2, N2⟩
  have ZZ_2 : n0 ≤ h2.size := Nat.le_trans Z0 (Nat.le_of_eq W2.size.symm)
  have EE_2 : Exa Z h2 r0 "com/example/lint_for_clocks/lintforclocks/rules/Loop" := E0.wr W2
  have F_shown_2 : Fld Z h2 r0 "com/example/lint_for_clocks/lintforclocks/rules/Loop" "shown" "Ljava/util/Map;" .null := F_shown.other W2 (Or.inr (slot_ne (Or.inr (hw _ (List.mem_of_getElem? (i := 133) rfl))) (Or.inr (hw _ (List.mem_of_getElem? (i := 131) rfl))) (by decide) (t := (.object "java/util/Map")) (t' := (.object "com/example/lint_for_clocks/lintforclocks/model/Template")) (by decide) (by decide)))
  have F_edges_2 : Fld Z h2 r0 "com/example/lint_for_clocks/lintforclocks/rules/Loop" "edges" "[I" .null := F_edges.other W2 (Or.inr (slot_ne (Or.inr (hw _ (List.mem_of_getElem? (i := 135) rfl))) (Or.inr (hw _ (List.mem_of_getElem? (i := 131) rfl))) (by decide) (t := (.array .int)) (t' := (.object "com/example/lint_for_clocks/lintforclocks/model/Template")) (by decide) (by decide)))
  have F_template_2 : Fld Z h2 r0 "com/example/lint_for_clocks/lintforclocks/rules/Loop" "template" "Lcom/example/lint_for_clocks/lintforclocks/model/Template;" (.ref r1) := F_template.same W2
  have K2 : Keep h0 h2 [r0] := (Keep.refl h0 [r0]).wr W2 (Or.inl (by simp))
  show own_Go p e below s _ _ _ (T2.setTop (mkF m 9 #[.val (.ref r0), .val (.ref r1), .val .null, .val (.ref r3)] []))
  refine own_go (fun t_ kt_ => XS.aloadN X2g.here hx rfl (hb hby d13_9) rfl rfl kt_) ?_
  show own_Go p e below s _ _ _ (T2.setTop (mkF m 10 #[.val (.ref r0), .val (.ref r1), .val .null, .val (.ref r3)] [(.ref r0)]))
  refine own_go (fun t_ kt_ => XS.aloadN X2g.here hx rfl (hb hby d13_10) rfl rfl kt_) ?_
  show own_Go p e below s _ _ _ (T2.setTop (mkF m 11 #[.val (.ref r0), .val (.ref r1), .val .null, .val (.ref r3)] [.null, (.ref r0)]))
  obtain ⟨T3, h3, X3, e3, W3, st3⟩ := putF X2g hx hZ hown (host := "") (Or.inl (hw _ (List.mem_of_getElem? (i := 132) rfl))) Via.refl e2 F_shown_2 EE_2 (Or.inr ⟨(hw _ (List.mem_of_getElem? (i := 133) rfl)), rfl, hnm⟩) (hw _ (List.mem_of_getElem? (i := 124) rfl)) (ty := (.object "java/util/Map")) (by decide) rfl rfl (g := (mkF m 11 #[.val (.ref r0), .val (.ref r1), .val .null, .val (.ref r3)] [.null, (.ref r0)])) rfl rfl (hb hby d13_11)
  refine own_go (fun t_ kt_ => st3 _ kt_) ?_
  have N3 := Fr.snoc X3 N2g g0
  obtain ⟨lo3, X3g, N3g⟩ : ∃ lo, Stand p l e ({ frames := 1, cells := 0, slots := 0, locals := 12 } : Room) s m #[(.ref r0), (.ref r1), .null, (.ref r3)] below meth c T3 lo 0 0 ∧ Fr n0 lo := ⟨_, X3, N3⟩
  have ZZ_3 : n0 ≤ h3.size := Nat.le_trans ZZ_2 (Nat.le_of_eq W3.size.symm)
  have EE_3 : Exa Z h3 r0 "com/example/lint_for_clocks/lintforclocks/rules/Loop" := EE_2.wr W3
  have F_template_3 : Fld Z h3 r0 "com/example/lint_for_clocks/lintforclocks/rules/Loop" "template" "Lcom/example/lint_for_clocks/lintforclocks/model/Template;" (.ref r1) := F_template_2.other W3 (Or.inr (slot_ne (Or.inr (hw _ (List.mem_of_getElem? (i := 131) rfl))) (Or.inr (hw _ (List.mem_of_getElem? (i := 133) rfl))) (by decide) (t := (.object "com/example/lint_for_clocks/lintforclocks/model/Template")) (t' := (.object "java/util/Map")) (by decide) (by decide)))
  have F_edges_3 : Fld Z h3 r0 "com/example/lint_for_clocks/lintforclocks/rules/Loop" "edges" "[I" .null := F_edges_2.other W3 (Or.inr (slot_ne (Or.inr (hw _ (List.mem_of_getElem? (i := 135) rfl))) (Or.inr (hw _ (List.mem_of_getElem? (i := 133) rfl))) (by decide) (t := (.array .int)) (t' := (.object "java/util/Map")) (by decide) (by decide)))
  have F_shown_3 : Fld Z h3 r0 "com/example/lint_for_clocks/lintforclocks/rules/Loop" "shown" "Ljava/util/Map;" .null := F_shown_2.same W3
  have K3 : Keep h0 h3 [r0] := K2.wr W3 (Or.inl (by simp))
  show own_Go p e below s _ _ _ (T3.setTop (mkF m 14 #[.val (.ref r0), .val (.ref r1), .val .null, .val (.ref r3)] []))
  refine own_go (fun t_ kt_ => XS.aloadN X3g.here hx rfl (hb hby d13_14) rfl rfl kt_) ?_
  show own_Go p e below s _ _ _ (T3.setTop (mkF m 15 #[.val (.ref r0), .val (.ref r1), .val .null, .val (.ref r3)] [(.ref r0)]))
  refine own_go (fun t_ kt_ => XS.aloadN X3g.here hx rfl (hb hby d13_15) rfl rfl kt_) ?_
  show own_Go p e below s _ _ _ (T3.setTop (mkF m 16 #[.val (.ref r0), .val (.ref r1), .val .null, .val (.ref r3)] [(.ref r3), (.ref r0)]))
  obtain ⟨T4, h4, X4, e4, W4, st4⟩ := putF X3g hx hZ hown (host := "") (Or.inl (hw _ (List.mem_of_getElem? (i := 134) rfl))) Via.refl e3 F_edges_3 EE_3 (Or.inr ⟨(hw _ (List.mem_of_getElem? (i := 135) rfl)), rfl, hnm⟩) (hw _ (List.mem_of_getElem? (i := 124) rfl)) (ty := (.array .int)) (by decide) rfl rfl (g := (mkF m 16 #[.val (.ref r0), .val (.ref r1), .val .null, .val (.ref r3)] [(.ref r3), (.ref r0)])) rfl rfl (hb hby d13_16)
  refine own_go (fun t_ kt_ => st4 _ kt_) ?_
  have N4 := Fr.snoc X4 N3g g0
  obtain ⟨lo4, X4g, N4g⟩ : ∃ lo, Stand p l e ({ frames := 1, cells := 0, slots := 0, locals := 12 } : Room) s m #[(.ref r0), (.ref r1), .null, (.ref r3)] below meth c T4 lo 0 0 ∧ Fr n0 lo := ⟨_, X4, N4⟩
  have ZZ_4 : n0 ≤ h4.size := Nat.le_trans ZZ_3 (Nat.le_of_eq W4.size.symm)
  have EE_4 : Exa Z h4 r0 "com/example/lint_for_clocks/lintforclocks/rules/Loop" := EE_3.wr W4
  have F_template_4 : Fld Z h4 r0 "com/example/lint_for_clocks/lintforclocks/rules/Loop" "template" "Lcom/example/lint_for_clocks/lintforclocks/model/Template;" (.ref r1) := F_template_3.other W4 (Or.inr (slot_ne (Or.inr (hw _ (List.mem_of_getElem? (i := 131) rfl))) (Or.inr (hw _ (List.mem_of_getElem? (i := 135) rfl))) (by decide) (t := (.object "com/example/lint_for_clocks/lintforclocks/model/Template")) (t' := (.array .int)) (by decide) (by decide)))
  have F_shown_4 : Fld Z h4 r0 "com/example/lint_for_clocks/lintforclocks/rules/Loop" "shown" "Ljava/util/Map;" .null := F_shown_3.other W4 (Or.inr (slot_ne (Or.inr (hw _ (List.mem_of_getElem? (i := 133) rfl))) (Or.inr (hw _ (List.mem_of_getElem? (i := 135) rfl))) (by decide) (t := (.object "java/util/Map")) (t' := (.array .int)) (by decide) (by decide)))
  have F_edges_4 : Fld Z h4 r0 "com/example/lint_for_clocks/lintforclocks/rules/Loop" "edges" "[I" (.ref r3) := F_edges_3.same W4
  have K4 : Keep h0 h4 [r0] := K3.wr W4 (Or.inl (by simp))
  show own_Go p e below s _ _ _ (T4.setTop (mkF m 19 #[.val (.ref r0), .val (.ref r1), .val .null, .val (.ref r3)] []))
  refine own_ret X4g (v := none) (fun _ => rfl) hlk ?_ (by decide) (by decide) (fun fs hr => X4g.returnOut hx hret (hb hby d13_19) hr)
  show Q13 Z r0 r1 r3 h0 n0 (none) T4.heap _
  rw [e4]
  exact ⟨rfl, N4g, K4, F_template_4, F_edges_4⟩
theorem d11_0 : decode jdk_29_method_65_code 0 = .ok (.iload_n 0, 1) := by decide +kernel
theorem d11_1 : decode jdk_29_method_65_code 1 = .ok (.iload_n 1, 1) := by decide +kernel
theorem d11_2 : decode jdk_29_method_65_code 2 = .ok (.if_icmp .lt 7, 3) := by decide +kernel
theorem d11_9 : decode jdk_29_method_65_code 9 = .ok (.iload_n 1, 1) := by decide +kernel
theorem d11_10 : decode jdk_29_method_65_code 10 = .ok (.ireturn, 1) := by decide +kernel
theorem d11_5 : decode jdk_29_method_65_code 5 = .ok (.iload_n 0, 1) := by decide +kernel
theorem d11_6 : decode jdk_29_method_65_code 6 = .ok (.goto 4, 3) := by decide +kernel
theorem ef_11 (m : MethodId) (p0 : Int32) (p1 : Int32) : entryFrame m #[(.int p0), (.int p1)] 2 = mkF m 0 #[.val (.int p0), .val (.int p1)] [] := by first | (simp [entryFrame, mkF, argsToLocals, Value.category]; done) | rfl
def Q11 (Z : State) (p0 : Int32) (p1 : Int32) (h0 : Heap) (n0 : Nat) (v : Option Value) (h : Heap) (L : List Loc) : Prop := v = some (.int (own_max p0 p1)) ∧ Fr n0 L ∧ h = h0
set_option maxRecDepth 65536 in
set_option maxHeartbeats 40000000 in
theorem rm11 (l : Launch) (Z : State) (a0 : Array Value) (hw : ∀ d ∈ tables_1, d.before a0 Z = true) (ws : List Jvm.Cond) (p0 : Int32) (p1 : Int32) (h0 : Heap) (n0 : Nat) (Z0 : n0 ≤ h0.size) :
    MetFree l (⟨"java/lang/Math", "max", "(II)I"⟩ : MethodName) (head1 (Jvm.Cond.code (⟨"java/lang/Math", "max", "(II)I"⟩ : MethodName) jdk_29_method_65_code 2 (some .int) :: ws) ({ frames := 0, cells := 0, slots := 0, locals := 0 } : Room)) (fun a U => a = #[(.int p0), (.int p1)] ∧ Z.Warmed39 U.vm ∧ U.heap = h0) (fun _ _ _ _ _ => True) (fun _ U o U' => ∃ v L, o = .returned v ∧ Q11 Z p0 p1 h0 n0 v U'.heap L ∧ FrameEnd U o U' L (({ frames := 0, cells := 0, slots := 0, locals := 0 } : Room)).cells (({ frames := 0, cells := 0, slots := 0, locals := 0 } : Room)).slots) := by
  refine MetFree.of_bodySF (Jvm.Free.JP.mathPlain rfl (by decide +kernel)) hisR ?_
  intro p e s m args below meth c s₁ Bd hml0 hP hK
  obtain ⟨rfl, hZ, hh⟩ := hP
  have hx := Bd.exec
  have hby := Bd.bytes
  have hml : c.maxLocals = 2 := hml0
  have hown : s.vm.findClass "java/lang/Math" = some m.cls := findClass_of_methodNamed Bd.named
  have hnm := (name_of_methodNamed Bd.named Bd.method).1
  have hlk : meth.locks = false := Bd.notSynchronized
  have X0 : Stand p l e ({ frames := 0, cells := 0, slots := 0, locals := 0 } : Room) s m #[(.int p0), (.int p1)] below meth c s₁ [] 0 0 := Stand.of_body Bd
  have e0 : s₁.heap = h0 := by rw [← hh, Bd.state]; rfl
  have N0 := Fr.nil n0
  have hret := Bd.returns
  show own_Go p e below s (Q11 Z p0 p1 h0 n0) _ _ (s₁.setTop (entryFrame m #[(.int p0), (.int p1)] 2))
  refine own_go (fun t k => castTop (ef_11 m p0 p1) k) ?_
  show own_Go p e below s _ _ _ (s₁.setTop (mkF m 0 #[.val (.int p0), .val (.int p1)] []))
  refine own_go (fun t_ kt_ => XS.iloadN X0.here hx rfl (hb hby d11_0) rfl kt_) ?_
  show own_Go p e below s _ _ _ (s₁.setTop (mkF m 1 #[.val (.int p0), .val (.int p1)] [(.int p0)]))
  refine own_go (fun t_ kt_ => XS.iloadN X0.here hx rfl (hb hby d11_1) rfl kt_) ?_
  show own_Go p e below s _ _ _ (s₁.setTop (mkF m 2 #[.val (.int p0), .val (.int p1)] [(.int p1), (.int p0)]))
  by_cases hc2 : p0 < p1
  · skip
    have hi2 : p0.toInt < p1.toInt := Int32.lt_iff_toInt_lt.mp hc2
    refine own_go (fun t_ kt_ => XS.icmpYes X0.here hx rfl (pc0 := 2) (pc' := 9) rfl (hb hby d11_2) rfl (tlt hc2).1 (by decide) (by decide) kt_) ?_
    show own_Go p e below s _ _ _ (s₁.setTop (mkF m 9 #[.val (.int p0), .val (.int p1)] []))
    refine own_go (fun t_ kt_ => XS.iloadN X0.here hx rfl (hb hby d11_9) rfl kt_) ?_
    show own_Go p e below s _ _ _ (s₁.setTop (mkF m 10 #[.val (.int p0), .val (.int p1)] [(.int p1)]))
    refine own_ret X0 (v := some (.int p1)) (fun h => by rw [hret] at h; cases h) hlk ?_ (by decide) (by decide) (fun fs hr => retI X0 hx hret (hb hby d11_10) hr)
    show Q11 Z p0 p1 h0 n0 (some (.int p1)) s₁.heap _
    rw [e0]
    exact ⟨congrArg (fun z => some (Value.int z)) (by unfold own_max; simp [hc2]), N0, rfl⟩
  · skip
    have hi2 : ¬ p0.toInt < p1.toInt := fun q => hc2 (Int32.lt_iff_toInt_lt.mpr q)
    refine own_go (fun t_ kt_ => XS.icmpNo X0.here hx rfl (hb hby d11_2) rfl (flt hc2).1 kt_) ?_
    show own_Go p e below s _ _ _ (s₁.setTop (mkF m 5 #[.val (.int p0), .val (.int p1)] []))
    refine own_go (fun t_ kt_ => XS.iloadN X0.here hx rfl (hb hby d11_5) rfl kt_) ?_
    show own_Go p e below s _ _ _ (s₁.setTop (mkF m 6 #[.val (.int p0), .val (.int p1)] [(.int p0)]))
    refine own_go (fun t_ kt_ => XS.goto X0.here hx rfl (pc0 := 6) (pc' := 10) rfl (hb hby d11_6) (by decide) (by decide) kt_) ?_
    show own_Go p e below s _ _ _ (s₁.setTop (mkF m 10 #[.val (.int p0), .val (.int p1)] [(.int p0)]))
    refine own_ret X0 (v := some (.int p0)) (fun h => by rw [hret] at h; cases h) hlk ?_ (by decide) (by decide) (fun fs hr => retI X0 hx hret (hb hby d11_10) hr)
    show Q11 Z p0 p1 h0 n0 (some (.int p0)) s₁.heap _
    rw [e0]
    exact ⟨congrArg (fun z => some (Value.int z)) (by unfold own_max; simp [hc2]), N0, rfl⟩
theorem d10_0 : decode jdk_38_method_6_code 0 = .ok (.aload_n 0, 1) := by decide +kernel
theorem d10_1 : decode jdk_38_method_6_code 1 = .ok (.getfield 9, 3) := by decide +kernel
theorem d10_4 : decode jdk_38_method_6_code 4 = .ok (.arraylength, 1) := by decide +kernel
theorem d10_5 : decode jdk_38_method_6_code 5 = .ok (.istore_n 2, 1) := by decide +kernel
theorem d10_6 : decode jdk_38_method_6_code 6 = .ok (.iload_n 2, 1) := by decide +kernel
theorem d10_7 : decode jdk_38_method_6_code 7 = .ok (.ifCond .gt 13, 3) := by decide +kernel
theorem d10_10 : decode jdk_38_method_6_code 10 = .ok (.aload_n 0, 1) := by decide +kernel
theorem d10_11 : decode jdk_38_method_6_code 11 = .ok (.getfield 9, 3) := by decide +kernel
theorem d10_14 : decode jdk_38_method_6_code 14 = .ok (.getstatic 39, 3) := by decide +kernel
theorem d10_17 : decode jdk_38_method_6_code 17 = .ok (.if_acmp .eq 28, 3) := by decide +kernel
theorem d10_45 : decode jdk_38_method_6_code 45 = .ok (.aload_n 0, 1) := by decide +kernel
theorem d10_46 : decode jdk_38_method_6_code 46 = .ok (.bipush 10, 2) := by decide +kernel
theorem d10_48 : decode jdk_38_method_6_code 48 = .ok (.iload_n 1, 1) := by decide +kernel
theorem d10_49 : decode jdk_38_method_6_code 49 = .ok (.invokestatic 79, 3) := by decide +kernel
theorem pd_1 : parseMethodDescriptor "(II)I" = some ⟨[.int, .int], some .int⟩ := by decide +kernel
theorem d10_52 : decode jdk_38_method_6_code 52 = .ok (.anewarray 7, 3) := by decide +kernel
theorem d10_55 : decode jdk_38_method_6_code 55 = .ok (.dup_x1, 1) := by decide +kernel
theorem d10_56 : decode jdk_38_method_6_code 56 = .ok (.putfield 9, 3) := by decide +kernel
theorem d10_59 : decode jdk_38_method_6_code 59 = .ok (.areturn, 1) := by decide +kernel
theorem ef_10 (m : MethodId) (r0 : Addr) : entryFrame m #[(.ref r0), (.int (1 : Int32))] 4 = mkF m 0 #[.val (.ref r0), .val (.int (1 : Int32)), .unset, .unset] [] := by first | (simp [entryFrame, mkF, argsToLocals, Value.category]; done) | rfl
def Q10 (Z : State) (r0 : Addr) (mc : Value) (dea : Addr) (fd : Nat → Value) (h0 : Heap) (n0 : Nat) (v : Option Value) (h : Heap) (L : List Loc) : Prop := ∃ b : Addr, v = some (.ref b) ∧ Fr n0 L ∧ Keep h0 h [r0] ∧ n0 ≤ b ∧ h0.size ≤ b ∧ own_Ary Z h b (.object "java/lang/Object") 10 (fun _ => .null) ∧ own_Ov Z h b "java/lang/Object" ∧ Fld Z h r0 "java/util/AbstractList" "modCount" "I" mc ∧ Fld Z h r0 "java/util/ArrayList" "elementData" "[Ljava/lang/Object;" (.ref b) ∧ Fld Z h r0 "java/util/ArrayList" "size" "I" (.int (0 : Int32))
set_option maxRecDepth 65536 in
set_option maxHeartbeats 40000000 in
theorem rm10 (l : Launch) (Z : State) (a0 : Array Value) (hw : ∀ d ∈ tables_1, d.before a0 Z = true) (ws : List Jvm.Cond) (r0 : Addr) (mc : Value) (dea : Addr) (fd : Nat → Value) (h0 : Heap) (n0 : Nat) (Z0 : n0 ≤ h0.size) (M0 : Fld Z h0 r0 "java/util/AbstractList" "modCount" "I" mc) (D0 : Fld Z h0 r0 "java/util/ArrayList" "elementData" "[Ljava/lang/Object;" (.ref dea)) (Z1 : Fld Z h0 r0 "java/util/ArrayList" "size" "I" (.int (0 : Int32))) (E0 : Exa Z h0 r0 "java/util/ArrayList") (g0 : n0 ≤ r0) (SD : Sta Z h0 "java/util/ArrayList" "DEFAULTCAPACITY_EMPTY_ELEMENTDATA" "[Ljava/lang/Object;" (.ref dea)) (AD : own_Ary Z h0 dea (.object "java/lang/Object") 0 fd) (ne0 : r0 ≠ dea) :
    MetFree l (⟨"java/util/ArrayList", "grow", "(I)[Ljava/lang/Object;"⟩ : MethodName) (head1 (Jvm.Cond.code (⟨"java/util/ArrayList", "grow", "(I)[Ljava/lang/Object;"⟩ : MethodName) jdk_38_method_6_code 4 (some (.array (.object "java/lang/Object"))) :: ws) ({ frames := 1, cells := 1, slots := 10, locals := 14 } : Room)) (fun a U => a = #[(.ref r0), (.int (1 : Int32))] ∧ Z.Warmed39 U.vm ∧ U.heap = h0) (fun _ _ _ _ _ => True) (fun _ U o U' => ∃ v L, o = .returned v ∧ Q10 Z r0 mc dea fd h0 n0 v U'.heap L ∧ FrameEnd U o U' L (({ frames := 1, cells := 1, slots := 10, locals := 14 } : Room)).cells (({ frames := 1, cells := 1, slots := 10, locals := 14 } : Room)).slots) := by
  refine MetFree.of_bodySF (plainFor_of_name pn_3) hisR ?_
  intro p e s m args below meth c s₁ Bd hml0 hP hK
  obtain ⟨rfl, hZ, hh⟩ := hP
  have hx := Bd.exec
  have hby := Bd.bytes
  have hml : c.maxLocals = 4 := hml0
  have hown : s.vm.findClass "java/util/ArrayList" = some m.cls := findClass_of_methodNamed Bd.named
  have hnm := (name_of_methodNamed Bd.named Bd.method).1
  have hlk : meth.locks = false := Bd.notSynchronized
  have X0 : Stand p l e ({ frames := 1, cells := 1, slots := 10, locals := 14 } : Room) s m #[(.ref r0), (.int (1 : Int32))] below meth c s₁ [] 0 0 := Stand.of_body Bd
  have e0 : s₁.heap = h0 := by rw [← hh, Bd.state]; rfl
  have N0 := Fr.nil n0
  have hret := Bd.returns
  show own_Go p e below s (Q10 Z r0 mc dea fd h0 n0) _ _ (s₁.setTop (entryFrame m #[(.ref r0), (.int (1 : Int32))] 4))
  refine own_go (fun t k => castTop (ef_10 m r0) k) ?_
  show own_Go p e below s _ _ _ (s₁.setTop (mkF m 0 #[.val (.ref r0), .val (.int (1 : Int32)), .unset, .unset] []))
  refine own_go (fun t_ kt_ => XS.aloadN X0.here hx rfl (hb hby d10_0) rfl rfl kt_) ?_
  show own_Go p e below s _ _ _ (s₁.setTop (mkF m 1 #[.val (.ref r0), .val (.int (1 : Int32)), .unset, .unset] [(.ref r0)]))
  obtain ⟨T1, X1, e1, st1⟩ := getF X0 hx hZ hown (host := "") (Or.inl (hw _ (List.mem_of_getElem? (i := 24) rfl))) Via.refl e0 D0 (g := (mkF m 1 #[.val (.ref r0), .val (.int (1 : Int32)), .unset, .unset] [(.ref r0)])) rfl rfl (hb hby d10_1)
  refine own_go (fun t_ kt_ => st1 _ kt_) ?_
  show own_Go p e below s _ _ _ (T1.setTop (mkF m 4 #[.val (.ref r0), .val (.int (1 : Int32)), .unset, .unset] [(.ref dea)]))
  obtain ⟨ce2, Ar2, S2, G2⟩ := id AD
  have q2 : ce2.slots.size.toInt32 = (0 : Int32) := (congrArg Nat.toInt32 S2).trans (by decide)
  refine own_go (fun t_ kt_ => X1.arraylength hx (by rw [e1]; exact Ar2.1) (State.isArrayOf_alike hZ.alike Ar2.2.1) (g := (mkF m 4 #[.val (.ref r0), .val (.int (1 : Int32)), .unset, .unset] [(.ref dea)])) rfl rfl (hb hby d10_4) _ (by rw [q2]; exact kt_)) ?_
  show own_Go p e below s _ _ _ (T1.setTop (mkF m 5 #[.val (.ref r0), .val (.int (1 : Int32)), .unset, .unset] [(.int (0 : Int32))]))
  refine own_go (fun t_ kt_ => XS.istoreN X1.here hx rfl (hb hby d10_5) rfl (l' := #[.val (.ref r0), .val (.int (1 : Int32)), .val (.int (0 : Int32)), .unset]) rfl kt_) ?_
  show own_Go p e below s _ _ _ (T1.setTop (mkF m 6 #[.val (.ref r0), .val (.int (1 : Int32)), .val (.int (0 : Int32)), .unset] []))
  refine own_go (fun t_ kt_ => XS.iloadN X1.here hx rfl (hb hby d10_6) rfl kt_) ?_
  show own_Go p e below s _ _ _ (T1.setTop (mkF m 7 #[.val (.ref r0), .val (.int (1 : Int32)), .val (.int (0 : Int32)), .unset] [(.int (0 : Int32))]))
  refine own_go (fun t_ kt_ => XS.ifNo X1.here hx rfl (hb hby d10_7) rfl ((if0 _ _).trans (flt (by decide)).2.2.1) kt_) ?_
  show own_Go p e below s _ _ _ (T1.setTop (mkF m 10 #[.val (.ref r0), .val (.int (1 : Int32)), .val (.int (0 : Int32)), .unset] []))
  refine own_go (fun t_ kt_ => XS.aloadN X1.here hx rfl (hb hby d10_10) rfl rfl kt_) ?_
  show own_Go p e below s _ _ _ (T1.setTop (mkF m 11 #[.val (.ref r0), .val (.int (1 : Int32)), .val (.int (0 : Int32)), .unset] [(.ref r0)]))
  obtain ⟨T3, X3, e3, st3⟩ := getF X1 hx hZ hown (host := "") (Or.inl (hw _ (List.mem_of_getElem? (i := 24) rfl))) Via.refl e1 D0 (g := (mkF m 11 #[.val (.ref r0), .val (.int (1 : Int32)), .val (.int (0 : Int32)), .unset] [(.ref r0)])) rfl rfl (hb hby d10_11)
  refine own_go (fun t_ kt_ => st3 _ kt_) ?_
  show own_Go p e below s _ _ _ (T3.setTop (mkF m 14 #[.val (.ref r0), .val (.int (1 : Int32)), .val (.int (0 : Int32)), .unset] [(.ref dea)]))
  obtain ⟨T4, X4, e4, st4⟩ := getS2 X3 hx hZ hown (host := "") (Or.inl (hw _ (List.mem_of_getElem? (i := 23) rfl))) Via.refl e3 SD (g := (mkF m 14 #[.val (.ref r0), .val (.int (1 : Int32)), .val (.int (0 : Int32)), .unset] [(.ref dea)])) rfl (hb hby d10_14)
  refine own_go (fun t_ kt_ => st4 _ kt_) ?_
  show own_Go p e below s _ _ _ (T4.setTop (mkF m 17 #[.val (.ref r0), .val (.int (1 : Int32)), .val (.int (0 : Int32)), .unset] [(.ref dea), (.ref dea)]))
  refine own_go (fun t_ kt_ => Jvm.RoadKit.acmp (g := (mkF m 17 #[.val (.ref r0), .val (.int (1 : Int32)), .val (.int (0 : Int32)), .unset] [(.ref dea), (.ref dea)])) X4 hx rfl rfl rfl (pc0 := 17) (pc' := 45) (same := true) rfl (hb hby d10_17) rfl (decide_eq_true rfl) (by decide) (by decide) kt_) ?_
  show own_Go p e below s _ _ _ (T4.setTop (mkF m 45 #[.val (.ref r0), .val (.int (1 : Int32)), .val (.int (0 : Int32)), .unset] []))
  refine own_go (fun t_ kt_ => XS.aloadN X4.here hx rfl (hb hby d10_45) rfl rfl kt_) ?_
  show own_Go p e below s _ _ _ (T4.setTop (mkF m 46 #[.val (.ref r0), .val (.int (1 : Int32)), .val (.int (0 : Int32)), .unset] [(.ref r0)]))
  refine own_go (fun t_ kt_ => XS.bipush X4.here hx rfl (hb hby d10_46) kt_) ?_
  show own_Go p e below s _ _ _ (T4.setTop (mkF m 48 #[.val (.ref r0), .val (.int (1 : Int32)), .val (.int (0 : Int32)), .unset] [(.int (10 : Int32)), (.ref r0)]))
  refine own_go (fun t_ kt_ => XS.iloadN X4.here hx rfl (hb hby d10_48) rfl kt_) ?_
  show own_Go p e below s _ _ _ (T4.setTop (mkF m 49 #[.val (.ref r0), .val (.int (1 : Int32)), .val (.int (0 : Int32)), .unset] [(.int (1 : Int32)), (.int (10 : Int32)), (.ref r0)]))
  obtain ⟨_, _, ⟨T5, L5, k5, n5⟩, -, X5, ⟨Lc5, hQ5, l5, y5, z5⟩, st5⟩ := Jvm.LawKit.callS X4 hx (y := (⟨"java/lang/Math", "max", "(II)I"⟩ : MethodName)) hown (mvT hZ (hw _ (List.mem_of_getElem? (i := 91) rfl))) (mvT hZ (hw _ (List.mem_of_getElem? (i := 92) rfl))) (mvT hZ (hw _ (List.mem_of_getElem? (i := 93) rfl))) (mvT hZ (hw _ (List.mem_of_getElem? (i := 94) rfl))) (by decide) (backOf (W := 1) (rm11 l Z a0 hw [] ((10 : Int32)) ((1 : Int32)) h0 n0 Z0 ) hZ (hw _ (List.mem_of_getElem? (i := 94) rfl)) (hw _ (List.mem_of_getElem? (i := 93) rfl)) (by decide) (by decide)) (g := (mkF m 49 #[.val (.ref r0), .val (.int (1 : Int32)), .val (.int (0 : Int32)), .unset] [(.int (1 : Int32)), (.int (10 : Int32)), (.ref r0)])) rfl (by rw [hml]; rfl) (argsL := [(.int (10 : Int32)), (.int (1 : Int32))]) (rest := [(.ref r0)]) (lenOf pd_1 rfl) rfl (by show 2 * 0 + _ ≤ _; exact Nat.le_of_eq rfl) (hb hby d10_49) (fun _ _ => ⟨rfl, e4, (by decide : 0 + 0 ≤ _), (by decide : 0 + 0 ≤ _)⟩)
  dsimp only [Pt.U, Pt.locs, Pt.cells, Pt.slots] at X5 l5 y5 z5 st5 hQ5
  subst l5 y5 z5
  obtain ⟨hv5, Nq5, eh5⟩ := hQ5
  rw [show own_max (10 : Int32) (1 : Int32) = (10 : Int32) from by decide] at hv5
  subst hv5
  have N5 := Fr.app N0 Nq5
  refine own_go (fun t_ kt_ => st5 _ kt_) ?_
  obtain ⟨lo5, X5g, N5g⟩ : ∃ lo, Stand p l e ({ frames := 1, cells := 1, slots := 10, locals := 14 } : Room) s m #[(.ref r0), (.int (1 : Int32))] below meth c T5 lo 0 0 ∧ Fr n0 lo := ⟨_, X5, N5⟩
  have e5 : T5.heap = h0 := eh5
  show own_Go p e below s _ _ _ (T5.setTop (mkF m 52 #[.val (.ref r0), .val (.int (1 : Int32)), .val (.int (0 : Int32)), .unset] [(.int (10 : Int32)), (.ref r0)]))
  obtain ⟨T6, h6, k6, X6, e6, E6, A6, O6, st6⟩ := newR X5g hx hZ hown (hw _ (List.mem_of_getElem? (i := 95) rfl)) (hw _ (List.mem_of_getElem? (i := 96) rfl)) e5 (g := (mkF m 52 #[.val (.ref r0), .val (.int (1 : Int32)), .val (.int (0 : Int32)), .unset] [(.int (10 : Int32)), (.ref r0)])) rfl (hb hby d10_52) rfl (by decide) (cap := 10) (by decide) (by decide) (by decide) (by decide)
  obtain ⟨ba, g6⟩ : ∃ z, z = h0.size := ⟨_, rfl⟩
  rw [← g6] at A6 st6
  refine own_go (fun t_ kt_ => st6 _ kt_) ?_
  have gt_ba : n0 ≤ ba := Nat.le_trans Z0 (Nat.le_of_eq g6.symm)
  have ne_r0_ba : r0 ≠ ba := Nat.ne_of_lt (Nat.lt_of_lt_of_le M0.lt (Nat.le_of_eq g6.symm))
  have ne_dea_ba : dea ≠ ba := Nat.ne_of_lt (Nat.lt_of_lt_of_le AD.lt (Nat.le_of_eq g6.symm))
  have sz_ba : h0.size ≤ ba := Nat.le_trans (Keep.refl h0 [r0]).1 (Nat.le_of_eq g6.symm)
  have ZZ_6 : n0 ≤ h6.size := Nat.le_trans Z0 E6.1
  have FM_6 : Fld Z h6 r0 "java/util/AbstractList" "modCount" "I" mc := M0.ext E6
  have FE_6 : Fld Z h6 r0 "java/util/ArrayList" "elementData" "[Ljava/lang/Object;" (.ref dea) := D0.ext E6
  have FS_6 : Fld Z h6 r0 "java/util/ArrayList" "size" "I" (.int (0 : Int32)) := Z1.ext E6
  have EE_6 : Exa Z h6 r0 "java/util/ArrayList" := E0.ext E6
  have S_DEFAULTCAPACITY_EMPTY_ELEMENTDATA_6 : Sta Z h6 "java/util/ArrayList" "DEFAULTCAPACITY_EMPTY_ELEMENTDATA" "[Ljava/lang/Object;" (.ref dea) := SD.ext E6
  have VD_6 : own_Ary Z h6 dea (.object "java/lang/Object") 0 fd := AD.ext E6
  have K6 : Keep h0 h6 [r0] := (Keep.refl h0 [r0]).ext E6
  have V_ba : own_Ary Z h6 ba (.object "java/lang/Object") 10 (fun _ => .null) := own_Ary.new A6 (by decide)
  have O_ba : own_Ov Z h6 ba "java/lang/Object" := ⟨_, A6.1, O6⟩
  show own_Go p e below s _ _ _ (T6.setTop (mkF m 55 #[.val (.ref r0), .val (.int (1 : Int32)), .val (.int (0 : Int32)), .unset] [(.ref ba), (.ref r0)]))
  refine own_go (fun t_ kt_ => XS.dupX1 X6.here hx rfl (hb hby d10_55) rfl rfl rfl kt_) ?_
  show own_Go p e below s _ _ _ (T6.setTop (mkF m 56 #[.val (.ref r0), .val (.int (1 : Int32)), .val (.int (0 : Int32)), .unset] [(.ref ba), (.ref r0), (.ref ba)]))
  obtain ⟨T7, h7, X7, e7, W7, st7⟩ := putF X6 hx hZ hown (host := "") (Or.inl (hw _ (List.mem_of_getElem? (i := 24) rfl))) Via.refl e6 FE_6 EE_6 (Or.inl (hw _ (List.mem_of_getElem? (i := 25) rfl))) (hw _ (List.mem_of_getElem? (i := 1) rfl)) (ty := (.array (.object "java/lang/Object"))) (by decide) rfl rfl (g := (mkF m 56 #[.val (.ref r0), .val (.int (1 : Int32)), .val (.int (0 : Int32)), .unset] [(.ref ba), (.ref r0), (.ref ba)])) rfl rfl (hb hby d10_56)
  refine own_go (fun t_ kt_ => st7 _ kt_) ?_
  have N7 := Fr.snoc X7 N5g g0
  obtain ⟨lo7, X7g, N7g⟩ : ∃ lo, Stand p l e ({ frames := 1, cells := 1, slots := 10, locals := 14 } : Room) s m #[(.ref r0), (.int (1 : Int32))] below meth c T7 lo 1 10 ∧ Fr n0 lo := ⟨_, X7, N7⟩
  have ZZ_7 : n0 ≤ h7.size := Nat.le_trans ZZ_6 (Nat.le_of_eq W7.size.symm)
  have FM_7 : Fld Z h7 r0 "java/util/AbstractList" "modCount" "I" mc := FM_6.other W7 (Or.inr (slot_ne (Or.inl (hw _ (List.mem_of_getElem? (i := 22) rfl))) (Or.inl (hw _ (List.mem_of_getElem? (i := 25) rfl))) (by decide) (t := .int) (t' := (.array (.object "java/lang/Object"))) (by decide) (by decide)))
  have FS_7 : Fld Z h7 r0 "java/util/ArrayList" "size" "I" (.int (0 : Int32)) := FS_6.other W7 (Or.inr (slot_ne (Or.inl (hw _ (List.mem_of_getElem? (i := 75) rfl))) (Or.inl (hw _ (List.mem_of_getElem? (i := 25) rfl))) (by decide) (t := .int) (t' := (.array (.object "java/lang/Object"))) (by decide) (by decide)))
  have EE_7 : Exa Z h7 r0 "java/util/ArrayList" := EE_6.wr W7
  have S_DEFAULTCAPACITY_EMPTY_ELEMENTDATA_7 : Sta Z h7 "java/util/ArrayList" "DEFAULTCAPACITY_EMPTY_ELEMENTDATA" "[Ljava/lang/Object;" (.ref dea) := S_DEFAULTCAPACITY_EMPTY_ELEMENTDATA_6.wr W7
  have VD_7 : own_Ary Z h7 dea (.object "java/lang/Object") 0 fd := VD_6.other W7 (Ne.symm ne0)
  have V_ba_7 : own_Ary Z h7 ba (.object "java/lang/Object") 10 (fun _ => .null) := V_ba.other W7 (Ne.symm ne_r0_ba)
  have O_ba_7 : own_Ov Z h7 ba "java/lang/Object" := O_ba.wr W7
  have FE_7 : Fld Z h7 r0 "java/util/ArrayList" "elementData" "[Ljava/lang/Object;" (.ref ba) := FE_6.same W7
  have K7 : Keep h0 h7 [r0] := K6.wr W7 (Or.inl (by simp))
  show own_Go p e below s _ _ _ (T7.setTop (mkF m 59 #[.val (.ref r0), .val (.int (1 : Int32)), .val (.int (0 : Int32)), .unset] [(.ref ba)]))
  refine own_ret X7g (v := some (.ref ba)) (fun h => by rw [hret] at h; cases h) hlk ?_ (by decide) (by decide) (fun fs hr => X7g.areturnOut hx rfl hret rfl (hb hby d10_59) hr)
  show Q10 Z r0 mc dea fd h0 n0 (some (.ref ba)) T7.heap _
  rw [e7]
  exact ⟨ba, rfl, N7g, K7, gt_ba, sz_ba, V_ba_7, O_ba_7, FM_7, FE_7, FS_7⟩
theorem d9_0 : decode jdk_38_method_7_code 0 = .ok (.aload_n 0, 1) := by decide +kernel
theorem d9_1 : decode jdk_38_method_7_code 1 = .ok (.aload_n 0, 1) := by decide +kernel
theorem d9_2 : decode jdk_38_method_7_code 2 = .ok (.getfield 48, 3) := by decide +kernel
theorem d9_5 : decode jdk_38_method_7_code 5 = .ok (.iconst 1, 1) := by decide +kernel
theorem d9_6 : decode jdk_38_method_7_code 6 = .ok (.iadd, 1) := by decide +kernel
theorem d9_7 : decode jdk_38_method_7_code 7 = .ok (.invokevirtual 69, 3) := by decide +kernel
theorem pd_2 : parseMethodDescriptor "(I)[Ljava/lang/Object;" = some ⟨[.int], some (.array (.object "java/lang/Object"))⟩ := by decide +kernel
theorem d9_10 : decode jdk_38_method_7_code 10 = .ok (.areturn, 1) := by decide +kernel
theorem ef_9 (m : MethodId) (r0 : Addr) : entryFrame m #[(.ref r0)] 1 = mkF m 0 #[.val (.ref r0)] [] := by first | (simp [entryFrame, mkF, argsToLocals, Value.category]; done) | rfl
def Q9 (Z : State) (r0 : Addr) (mc : Value) (dea : Addr) (fd : Nat → Value) (h0 : Heap) (n0 : Nat) (v : Option Value) (h : Heap) (L : List Loc) : Prop := ∃ b : Addr, v = some (.ref b) ∧ Fr n0 L ∧ Keep h0 h [r0] ∧ n0 ≤ b ∧ h0.size ≤ b ∧ own_Ary Z h b (.object "java/lang/Object") 10 (fun _ => .null) ∧ own_Ov Z h b "java/lang/Object" ∧ Fld Z h r0 "java/util/AbstractList" "modCount" "I" mc ∧ Fld Z h r0 "java/util/ArrayList" "elementData" "[Ljava/lang/Object;" (.ref b) ∧ Fld Z h r0 "java/util/ArrayList" "size" "I" (.int (0 : Int32))
set_option maxRecDepth 65536 in
set_option maxHeartbeats 40000000 in
theorem rm9 (l : Launch) (Z : State) (a0 : Array Value) (hw : ∀ d ∈ tables_1, d.before a0 Z = true) (ws : List Jvm.Cond) (r0 : Addr) (mc : Value) (dea : Addr) (fd : Nat → Value) (h0 : Heap) (n0 : Nat) (Z0 : n0 ≤ h0.size) (M0 : Fld Z h0 r0 "java/util/AbstractList" "modCount" "I" mc) (D0 : Fld Z h0 r0 "java/util/ArrayList" "elementData" "[Ljava/lang/Object;" (.ref dea)) (Z1 : Fld Z h0 r0 "java/util/ArrayList" "size" "I" (.int (0 : Int32))) (E0 : Exa Z h0 r0 "java/util/ArrayList") (g0 : n0 ≤ r0) (SD : Sta Z h0 "java/util/ArrayList" "DEFAULTCAPACITY_EMPTY_ELEMENTDATA" "[Ljava/lang/Object;" (.ref dea)) (AD : own_Ary Z h0 dea (.object "java/lang/Object") 0 fd) (ne0 : r0 ≠ dea) :
    MetFree l (⟨"java/util/ArrayList", "grow", "()[Ljava/lang/Object;"⟩ : MethodName) (head1 (Jvm.Cond.code (⟨"java/util/ArrayList", "grow", "()[Ljava/lang/Object;"⟩ : MethodName) jdk_38_method_7_code 1 (some (.array (.object "java/lang/Object"))) :: ws) ({ frames := 2, cells := 1, slots := 10, locals := 29 } : Room)) (fun a U => a = #[(.ref r0)] ∧ Z.Warmed39 U.vm ∧ U.heap = h0) (fun _ _ _ _ _ => True) (fun _ U o U' => ∃ v L, o = .returned v ∧ Q9 Z r0 mc dea fd h0 n0 v U'.heap L ∧ FrameEnd U o U' L (({ frames := 2, cells := 1, slots := 10, locals := 29 } : Room)).cells (({ frames := 2, cells := 1, slots := 10, locals := 29 } : Room)).slots) := by
  refine MetFree.of_bodySF (plainFor_of_name pn_3) hisR ?_
  intro p e s m args below meth c s₁ Bd hml0 hP hK
  obtain ⟨rfl, hZ, hh⟩ := hP
  have hx := Bd.exec
  have hby := Bd.bytes
  have hml : c.maxLocals = 1 := hml0
  have hown : s.vm.findClass "java/util/ArrayList" = some m.cls := findClass_of_methodNamed Bd.named
  have hnm := (name_of_methodNamed Bd.named Bd.method).1
  have hlk : meth.locks = false := Bd.notSynchronized
  have X0 : Stand p l e ({ frames := 2, cells := 1, slots := 10, locals := 29 } : Room) s m #[(.ref r0)] below meth c s₁ [] 0 0 := Stand.of_body Bd
  have e0 : s₁.heap = h0 := by rw [← hh, Bd.state]; rfl
  have N0 := Fr.nil n0
  have hret := Bd.returns
  show own_Go p e below s (Q9 Z r0 mc dea fd h0 n0) _ _ (s₁.setTop (entryFrame m #[(.ref r0)] 1))
  refine own_go (fun t k => castTop (ef_9 m r0) k) ?_
  show own_Go p e below s _ _ _ (s₁.setTop (mkF m 0 #[.val (.ref r0)] []))
  refine own_go (fun t_ kt_ => XS.aloadN X0.here hx rfl (hb hby d9_0) rfl rfl kt_) ?_
  show own_Go p e below s _ _ _ (s₁.setTop (mkF m 1 #[.val (.ref r0)] [(.ref r0)]))
  refine own_go (fun t_ kt_ => XS.aloadN X0.here hx rfl (hb hby d9_1) rfl rfl kt_) ?_
  show own_Go p e below s _ _ _ (s₁.setTop (mkF m 2 #[.val (.ref r0)] [(.ref r0), (.ref r0)]))
  obtain ⟨T1, X1, e1, st1⟩ := getF X0 hx hZ hown (host := "") (Or.inl (hw _ (List.mem_of_getElem? (i := 74) rfl))) Via.refl e0 Z1 (g := (mkF m 2 #[.val (.ref r0)] [(.ref r0), (.ref r0)])) rfl rfl (hb hby d9_2)
  refine own_go (fun t_ kt_ => st1 _ kt_) ?_
  show own_Go p e below s _ _ _ (T1.setTop (mkF m 5 #[.val (.ref r0)] [(.int (0 : Int32)), (.ref r0)]))
  refine own_go (fun t_ kt_ => XS.iconst X1.here hx rfl (hb hby d9_5) kt_) ?_
  show own_Go p e below s _ _ _ (T1.setTop (mkF m 6 #[.val (.ref r0)] [(.int (1 : Int32)), (.int (0 : Int32)), (.ref r0)]))
  refine own_go (fun t_ kt_ => XS.iadd X1.here hx rfl (hb hby d9_6) rfl kt_) ?_
  show own_Go p e below s _ _ _ (T1.setTop (mkF m 7 #[.val (.ref r0)] [(.int (1 : Int32)), (.ref r0)]))
  obtain ⟨cq2, q2, q2'⟩ := E0.cell
  obtain ⟨_, _, ⟨T2, L2, k2, n2⟩, -, X2, ⟨Lc2, hQ2, l2, y2, z2⟩, st2⟩ := X1.privateBack hx (y := (⟨"java/util/ArrayList", "grow", "(I)[Ljava/lang/Object;"⟩ : MethodName)) hown (mvT hZ (hw _ (List.mem_of_getElem? (i := 86) rfl))) (mvT hZ (hw _ (List.mem_of_getElem? (i := 87) rfl))) (mvT hZ (hw _ (List.mem_of_getElem? (i := 89) rfl))) (Cond.privateMethod_at (mvP hZ (hw _ (List.mem_of_getElem? (i := 88) rfl)) (args := #[]))) (mvT hZ (hw _ (List.mem_of_getElem? (i := 90) rfl))) (by decide) (backOf (W := 0) (rm10 l Z a0 hw [] (r0) (mc) (dea) (fd) h0 n0 Z0 M0 D0 Z1 E0 g0 SD AD ne0) hZ (hw _ (List.mem_of_getElem? (i := 90) rfl)) (hw _ (List.mem_of_getElem? (i := 2) rfl)) (by decide) (by decide)) (g := (mkF m 7 #[.val (.ref r0)] [(.int (1 : Int32)), (.ref r0)])) rfl (by rw [hml]; rfl) (Steps.refl _) (a := r0) (by rw [e1]; exact q2) q2' (argsL := [(.int (1 : Int32))]) (rest := []) (lenOf pd_2 rfl) rfl (by show 2 * 0 + _ ≤ _; exact Nat.le_of_eq rfl) (hb hby d9_7) (fun _ _ => ⟨rfl, e1, (by decide : 0 + 1 ≤ _), (by decide : 0 + 10 ≤ _)⟩)
  dsimp only [Pt.U, Pt.locs, Pt.cells, Pt.slots] at X2 l2 y2 z2 st2 hQ2
  subst l2 y2 z2
  obtain ⟨ba, rfl, Nq2, Kq2, gq2, Sq2, Vq2, Oq2, Fq2a, Fq2b, Fq2c⟩ := hQ2
  have N2 := Fr.app N0 Nq2
  refine own_go (fun t_ kt_ => st2.trans kt_) ?_
  obtain ⟨lo2, X2g, N2g⟩ : ∃ lo, Stand p l e ({ frames := 2, cells := 1, slots := 10, locals := 29 } : Room) s m #[(.ref r0)] below meth c T2 lo 1 10 ∧ Fr n0 lo := ⟨_, X2, N2⟩
  obtain ⟨h2, e2⟩ : ∃ z, T2.heap = z := ⟨_, rfl⟩
  rw [e2] at Kq2 Vq2 Oq2 Fq2a Fq2b Fq2c
  have ZZ_2 : n0 ≤ h2.size := Nat.le_trans Z0 Kq2.1
  have EE_2 : Exa Z h2 r0 "java/util/ArrayList" := E0.keep Kq2
  have S_DEFAULTCAPACITY_EMPTY_ELEMENTDATA_2 : Sta Z h2 "java/util/ArrayList" "DEFAULTCAPACITY_EMPTY_ELEMENTDATA" "[Ljava/lang/Object;" (.ref dea) := own_sta_keepN SD Kq2 E0
  have VD_2 : own_Ary Z h2 dea (.object "java/lang/Object") 0 fd := AD.keep Kq2 (ninS (Ne.symm ne0) nin0)
  have K2 : Keep h0 h2 [r0] := (Keep.refl h0 [r0]).trans Kq2 (allS (Or.inl (by simp)) all0)
  have sz_ba : h0.size ≤ ba := by exact Sq2
  show own_Go p e below s _ _ _ (T2.setTop (mkF m 10 #[.val (.ref r0)] [(.ref ba)]))
  refine own_ret X2g (v := some (.ref ba)) (fun h => by rw [hret] at h; cases h) hlk ?_ (by decide) (by decide) (fun fs hr => X2g.areturnOut hx rfl hret rfl (hb hby d9_10) hr)
  show Q9 Z r0 mc dea fd h0 n0 (some (.ref ba)) T2.heap _
  rw [e2]
  exact ⟨ba, rfl, N2g, K2, gq2, sz_ba, Vq2, Oq2, Fq2a, Fq2b, Fq2c⟩
theorem d8_0 : decode jdk_38_method_24_code 0 = .ok (.iload_n 3, 1) := by decide +kernel
theorem d8_1 : decode jdk_38_method_24_code 1 = .ok (.aload_n 2, 1) := by decide +kernel
theorem d8_2 : decode jdk_38_method_24_code 2 = .ok (.arraylength, 1) := by decide +kernel
theorem d8_3 : decode jdk_38_method_24_code 3 = .ok (.if_icmp .ne 8, 3) := by decide +kernel
theorem d8_6 : decode jdk_38_method_24_code 6 = .ok (.aload_n 0, 1) := by decide +kernel
theorem d8_7 : decode jdk_38_method_24_code 7 = .ok (.invokevirtual 129, 3) := by decide +kernel
theorem pd_3 : parseMethodDescriptor "()[Ljava/lang/Object;" = some ⟨[], some (.array (.object "java/lang/Object"))⟩ := by decide +kernel
theorem d8_10 : decode jdk_38_method_24_code 10 = .ok (.astore_n 2, 1) := by decide +kernel
theorem d8_11 : decode jdk_38_method_24_code 11 = .ok (.aload_n 2, 1) := by decide +kernel
theorem d8_12 : decode jdk_38_method_24_code 12 = .ok (.iload_n 3, 1) := by decide +kernel
theorem d8_13 : decode jdk_38_method_24_code 13 = .ok (.aload_n 1, 1) := by decide +kernel
theorem d8_14 : decode jdk_38_method_24_code 14 = .ok (.aastore, 1) := by decide +kernel
theorem d8_15 : decode jdk_38_method_24_code 15 = .ok (.aload_n 0, 1) := by decide +kernel
theorem d8_16 : decode jdk_38_method_24_code 16 = .ok (.iload_n 3, 1) := by decide +kernel
theorem d8_17 : decode jdk_38_method_24_code 17 = .ok (.iconst 1, 1) := by decide +kernel
theorem d8_18 : decode jdk_38_method_24_code 18 = .ok (.iadd, 1) := by decide +kernel
theorem d8_19 : decode jdk_38_method_24_code 19 = .ok (.putfield 48, 3) := by decide +kernel
theorem d8_22 : decode jdk_38_method_24_code 22 = .ok (.return_, 1) := by decide +kernel
theorem ef_8g (m : MethodId) (r0 : Addr) (r1 : Addr) (dea : Addr) : entryFrame m #[(.ref r0), (.ref r1), (.ref dea), (.int (0 : Int32))] 4 = mkF m 0 #[.val (.ref r0), .val (.ref r1), .val (.ref dea), .val (.int (0 : Int32))] [] := by first | (simp [entryFrame, mkF, argsToLocals, Value.category]; done) | rfl
def Q8g (Z : State) (r0 : Addr) (r1 : Addr) (dea : Addr) (mc : Value) (fd : Nat → Value) (h0 : Heap) (n0 : Nat) (v : Option Value) (h : Heap) (L : List Loc) : Prop := ∃ b : Addr, v = none ∧ Fr n0 L ∧ Keep h0 h [r0] ∧ n0 ≤ b ∧ h0.size ≤ b ∧ own_Ary Z h b (.object "java/lang/Object") 10 (own_set (fun _ => .null) 0 (.ref r1)) ∧ own_Ov Z h b "java/lang/Object" ∧ Fld Z h r0 "java/util/AbstractList" "modCount" "I" mc ∧ Fld Z h r0 "java/util/ArrayList" "elementData" "[Ljava/lang/Object;" (.ref b) ∧ Fld Z h r0 "java/util/ArrayList" "size" "I" (.int (1 : Int32))
set_option maxRecDepth 65536 in
set_option maxHeartbeats 40000000 in
theorem rm8g (l : Launch) (Z : State) (a0 : Array Value) (hw : ∀ d ∈ tables_1, d.before a0 Z = true) (ws : List Jvm.Cond) (r0 : Addr) (r1 : Addr) (dea : Addr) (mc : Value) (fd : Nat → Value) (h0 : Heap) (n0 : Nat) (Z0 : n0 ≤ h0.size) (M0 : Fld Z h0 r0 "java/util/AbstractList" "modCount" "I" mc) (D0 : Fld Z h0 r0 "java/util/ArrayList" "elementData" "[Ljava/lang/Object;" (.ref dea)) (Z1 : Fld Z h0 r0 "java/util/ArrayList" "size" "I" (.int (0 : Int32))) (E0 : Exa Z h0 r0 "java/util/ArrayList") (g0 : n0 ≤ r0) (SD : Sta Z h0 "java/util/ArrayList" "DEFAULTCAPACITY_EMPTY_ELEMENTDATA" "[Ljava/lang/Object;" (.ref dea)) (AD : own_Ary Z h0 dea (.object "java/lang/Object") 0 fd) (ne0 : r0 ≠ dea) (XE1 : Exa Z h0 r1 "com/example/lint_for_clocks/lintforclocks/model/Edge") (ne1 : r0 ≠ r1) :
    MetFree l (⟨"java/util/ArrayList", "add", "(Ljava/lang/Object;[Ljava/lang/Object;I)V"⟩ : MethodName) (head1 (Jvm.Cond.code (⟨"java/util/ArrayList", "add", "(Ljava/lang/Object;[Ljava/lang/Object;I)V"⟩ : MethodName) jdk_38_method_24_code 4 none :: ws) ({ frames := 3, cells := 1, slots := 10, locals := 41 } : Room)) (fun a U => a = #[(.ref r0), (.ref r1), (.ref dea), (.int (0 : Int32))] ∧ Z.Warmed39 U.vm ∧ U.heap = h0) (fun _ _ _ _ _ => True) (fun _ U o U' => ∃ v L, o = .returned v ∧ Q8g Z r0 r1 dea mc fd h0 n0 v U'.heap L ∧ FrameEnd U o U' L (({ frames := 3, cells := 1, slots := 10, locals := 41 } : Room)).cells (({ frames := 3, cells := 1, slots := 10, locals := 41 } : Room)).slots) := by
  refine MetFree.of_bodySF (plainFor_of_name pn_3) hisR ?_
  intro p e s m args below meth c s₁ Bd hml0 hP hK
  obtain ⟨rfl, hZ, hh⟩ := hP
  have hx := Bd.exec
  have hby := Bd.bytes
  have hml : c.maxLocals = 4 := hml0
  have hown : s.vm.findClass "java/util/ArrayList" = some m.cls := findClass_of_methodNamed Bd.named
  have hnm := (name_of_methodNamed Bd.named Bd.method).1
  have hlk : meth.locks = false := Bd.notSynchronized
  have X0 : Stand p l e ({ frames := 3, cells := 1, slots := 10, locals := 41 } : Room) s m #[(.ref r0), (.ref r1), (.ref dea), (.int (0 : Int32))] below meth c s₁ [] 0 0 := Stand.of_body Bd
  have e0 : s₁.heap = h0 := by rw [← hh, Bd.state]; rfl
  have N0 := Fr.nil n0
  have hret := Bd.returns
  show own_Go p e below s (Q8g Z r0 r1 dea mc fd h0 n0) _ _ (s₁.setTop (entryFrame m #[(.ref r0), (.ref r1), (.ref dea), (.int (0 : Int32))] 4))
  refine own_go (fun t k => castTop (ef_8g m r0 r1 dea) k) ?_
  show own_Go p e below s _ _ _ (s₁.setTop (mkF m 0 #[.val (.ref r0), .val (.ref r1), .val (.ref dea), .val (.int (0 : Int32))] []))
  refine own_go (fun t_ kt_ => XS.iloadN X0.here hx rfl (hb hby d8_0) rfl kt_) ?_
  show own_Go p e below s _ _ _ (s₁.setTop (mkF m 1 #[.val (.ref r0), .val (.ref r1), .val (.ref dea), .val (.int (0 : Int32))] [(.int (0 : Int32))]))
  refine own_go (fun t_ kt_ => XS.aloadN X0.here hx rfl (hb hby d8_1) rfl rfl kt_) ?_
  show own_Go p e below s _ _ _ (s₁.setTop (mkF m 2 #[.val (.ref r0), .val (.ref r1), .val (.ref dea), .val (.int (0 : Int32))] [(.ref dea), (.int (0 : Int32))]))
  obtain ⟨ce1, Ar1, S1, G1⟩ := id AD
  have q1 : ce1.slots.size.toInt32 = (0 : Int32) := (congrArg Nat.toInt32 S1).trans (by decide)
  refine own_go (fun t_ kt_ => X0.arraylength hx (by rw [e0]; exact Ar1.1) (State.isArrayOf_alike hZ.alike Ar1.2.1) (g := (mkF m 2 #[.val (.ref r0), .val (.ref r1), .val (.ref dea), .val (.int (0 : Int32))] [(.ref dea), (.int (0 : Int32))])) rfl rfl (hb hby d8_2) _ (by rw [q1]; exact kt_)) ?_
  show own_Go p e below s _ _ _ (s₁.setTop (mkF m 3 #[.val (.ref r0), .val (.ref r1), .val (.ref dea), .val (.int (0 : Int32))] [(.int (0 : Int32)), (.int (0 : Int32))]))
  refine own_go (fun t_ kt_ => XS.icmpNo X0.here hx rfl (hb hby d8_3) rfl (teq (by decide)).2 kt_) ?_
  show own_Go p e below s _ _ _ (s₁.setTop (mkF m 6 #[.val (.ref r0), .val (.ref r1), .val (.ref dea), .val (.int (0 : Int32))] []))
  refine own_go (fun t_ kt_ => XS.aloadN X0.here hx rfl (hb hby d8_6) rfl rfl kt_) ?_
  show own_Go p e below s _ _ _ (s₁.setTop (mkF m 7 #[.val (.ref r0), .val (.ref r1), .val (.ref dea), .val (.int (0 : Int32))] [(.ref r0)]))
  obtain ⟨cq2, q2, q2'⟩ := E0.cell
  obtain ⟨_, _, ⟨T2, L2, k2, n2⟩, -, X2, ⟨Lc2, hQ2, l2, y2, z2⟩, st2⟩ := X0.privateBack hx (y := (⟨"java/util/ArrayList", "grow", "()[Ljava/lang/Object;"⟩ : MethodName)) hown (mvT hZ (hw _ (List.mem_of_getElem? (i := 81) rfl))) (mvT hZ (hw _ (List.mem_of_getElem? (i := 82) rfl))) (mvT hZ (hw _ (List.mem_of_getElem? (i := 84) rfl))) (Cond.privateMethod_at (mvP hZ (hw _ (List.mem_of_getElem? (i := 83) rfl)) (args := #[]))) (mvT hZ (hw _ (List.mem_of_getElem? (i := 85) rfl))) (by decide) (backOf (W := 0) (rm9 l Z a0 hw [] (r0) (mc) (dea) (fd) h0 n0 Z0 M0 D0 Z1 E0 g0 SD AD ne0) hZ (hw _ (List.mem_of_getElem? (i := 85) rfl)) (hw _ (List.mem_of_getElem? (i := 2) rfl)) (by decide) (by decide)) (g := (mkF m 7 #[.val (.ref r0), .val (.ref r1), .val (.ref dea), .val (.int (0 : Int32))] [(.ref r0)])) rfl (by rw [hml]; rfl) (Steps.refl _) (a := r0) (by rw [e0]; exact q2) q2' (argsL := []) (rest := []) (lenOf pd_3 rfl) rfl (by show 2 * 0 + _ ≤ _; exact Nat.le_of_eq rfl) (hb hby d8_7) (fun _ _ => ⟨rfl, e0, (by decide : 0 + 1 ≤ _), (by decide : 0 + 10 ≤ _)⟩)
  dsimp only [Pt.U, Pt.locs, Pt.cells, Pt.slots] at X2 l2 y2 z2 st2 hQ2
  subst l2 y2 z2
  obtain ⟨ba, rfl, Nq2, Kq2, gq2, Sq2, Vq2, Oq2, Fq2a, Fq2b, Fq2c⟩ := hQ2
  have N2 := Fr.app N0 Nq2
  refine own_go (fun t_ kt_ => st2.trans kt_) ?_
  obtain ⟨lo2, X2g, N2g⟩ : ∃ lo, Stand p l e ({ frames := 3, cells := 1, slots := 10, locals := 41 } : Room) s m #[(.ref r0), (.ref r1), (.ref dea), (.int (0 : Int32))] below meth c T2 lo 1 10 ∧ Fr n0 lo := ⟨_, X2, N2⟩
  obtain ⟨h2, e2⟩ : ∃ z, T2.heap = z := ⟨_, rfl⟩
  rw [e2] at Kq2 Vq2 Oq2 Fq2a Fq2b Fq2c
  have ZZ_2 : n0 ≤ h2.size := Nat.le_trans Z0 Kq2.1
  have EE_2 : Exa Z h2 r0 "java/util/ArrayList" := E0.keep Kq2
  have S_DEFAULTCAPACITY_EMPTY_ELEMENTDATA_2 : Sta Z h2 "java/util/ArrayList" "DEFAULTCAPACITY_EMPTY_ELEMENTDATA" "[Ljava/lang/Object;" (.ref dea) := own_sta_keepN SD Kq2 E0
  have VD_2 : own_Ary Z h2 dea (.object "java/lang/Object") 0 fd := AD.keep Kq2 (ninS (Ne.symm ne0) nin0)
  have EX_2 : Exa Z h2 r1 "com/example/lint_for_clocks/lintforclocks/model/Edge" := XE1.keep Kq2
  have K2 : Keep h0 h2 [r0] := (Keep.refl h0 [r0]).trans Kq2 (allS (Or.inl (by simp)) all0)
  have ne_r0_ba : r0 ≠ ba := Nat.ne_of_lt (Nat.lt_of_lt_of_le M0.lt Sq2)
  have ne_dea_ba : dea ≠ ba := Nat.ne_of_lt (Nat.lt_of_lt_of_le AD.lt Sq2)
  have ne_r1_ba : r1 ≠ ba := Nat.ne_of_lt (Nat.lt_of_lt_of_le XE1.lt Sq2)
  show own_Go p e below s _ _ _ (T2.setTop (mkF m 10 #[.val (.ref r0), .val (.ref r1), .val (.ref dea), .val (.int (0 : Int32))] [(.ref ba)]))
  refine own_go (fun t_ kt_ => XS.astoreN X2g.here hx rfl (hb hby d8_10) rfl rfl (l' := #[.val (.ref r0), .val (.ref r1), .val (.ref ba), .val (.int (0 : Int32))]) rfl kt_) ?_
  show own_Go p e below s _ _ _ (T2.setTop (mkF m 11 #[.val (.ref r0), .val (.ref r1), .val (.ref ba), .val (.int (0 : Int32))] []))
  refine own_go (fun t_ kt_ => XS.aloadN X2g.here hx rfl (hb hby d8_11) rfl rfl kt_) ?_
  show own_Go p e below s _ _ _ (T2.setTop (mkF m 12 #[.val (.ref r0), .val (.ref r1), .val (.ref ba), .val (.int (0 : Int32))] [(.ref ba)]))
  refine own_go (fun t_ kt_ => XS.iloadN X2g.here hx rfl (hb hby d8_12) rfl kt_) ?_
  show own_Go p e below s _ _ _ (T2.setTop (mkF m 13 #[.val (.ref r0), .val (.ref r1), .val (.ref ba), .val (.int (0 : Int32))] [(.int (0 : Int32)), (.ref ba)]))
  refine own_go (fun t_ kt_ => XS.aloadN X2g.here hx rfl (hb hby d8_13) rfl rfl kt_) ?_
  show own_Go p e below s _ _ _ (T2.setTop (mkF m 14 #[.val (.ref r0), .val (.ref r1), .val (.ref ba), .val (.int (0 : Int32))] [(.ref r1), (.int (0 : Int32)), (.ref ba)]))
  obtain ⟨ce3, Ar3, S3, G3⟩ := id Vq2
  obtain ⟨T3, h3, X3, e3, W3, st3⟩ := stR X2g hx hZ e2 Ar3 (j := (0 : Int32)) (own_in (i := 0) S3 (by decide) (by decide)) rfl (own_sto Ar3 Oq2 (Ins.of_exa EX_2 (hw _ (List.mem_of_getElem? (i := 97) rfl)))) (g := (mkF m 14 #[.val (.ref r0), .val (.ref r1), .val (.ref ba), .val (.int (0 : Int32))] [(.ref r1), (.int (0 : Int32)), (.ref ba)])) rfl rfl (hb hby d8_14)
  rw [own_cl (j := (0 : Int32)) (i := 0) (by decide)] at W3 X3
  refine own_go (fun t_ kt_ => st3 _ kt_) ?_
  have N3 := Fr.snoc X3 N2g gq2
  obtain ⟨lo3, X3g, N3g⟩ : ∃ lo, Stand p l e ({ frames := 3, cells := 1, slots := 10, locals := 41 } : Room) s m #[(.ref r0), (.ref r1), (.ref dea), (.int (0 : Int32))] below meth c T3 lo 1 10 ∧ Fr n0 lo := ⟨_, X3, N3⟩
  have ZZ_3 : n0 ≤ h3.size := Nat.le_trans ZZ_2 (Nat.le_of_eq W3.size.symm)
  have EE_3 : Exa Z h3 r0 "java/util/ArrayList" := EE_2.wr W3
  have S_DEFAULTCAPACITY_EMPTY_ELEMENTDATA_3 : Sta Z h3 "java/util/ArrayList" "DEFAULTCAPACITY_EMPTY_ELEMENTDATA" "[Ljava/lang/Object;" (.ref dea) := S_DEFAULTCAPACITY_EMPTY_ELEMENTDATA_2.wr W3
  have VD_3 : own_Ary Z h3 dea (.object "java/lang/Object") 0 fd := VD_2.other W3 ne_dea_ba
  have EX_3 : Exa Z h3 r1 "com/example/lint_for_clocks/lintforclocks/model/Edge" := EX_2.wr W3
  have FM_3 : Fld Z h3 r0 "java/util/AbstractList" "modCount" "I" mc := Fq2a.other W3 (Or.inl ne_r0_ba)
  have FE_3 : Fld Z h3 r0 "java/util/ArrayList" "elementData" "[Ljava/lang/Object;" (.ref ba) := Fq2b.other W3 (Or.inl ne_r0_ba)
  have FS_3 : Fld Z h3 r0 "java/util/ArrayList" "size" "I" (.int (0 : Int32)) := Fq2c.other W3 (Or.inl ne_r0_ba)
  have O_ba_3 : own_Ov Z h3 ba "java/lang/Object" := Oq2.wr W3
  have V_ba_3 : own_Ary Z h3 ba (.object "java/lang/Object") 10 (own_set (fun _ => .null) 0 (.ref r1)) := own_Ary.set Ar3 S3 G3 W3
  have K3 : Keep h0 h3 [r0] := K2.wr W3 (Or.inr Sq2)
  show own_Go p e below s _ _ _ (T3.setTop (mkF m 15 #[.val (.ref r0), .val (.ref r1), .val (.ref ba), .val (.int (0 : Int32))] []))
  refine own_go (fun t_ kt_ => XS.aloadN X3g.here hx rfl (hb hby d8_15) rfl rfl kt_) ?_
  show own_Go p e below s _ _ _ (T3.setTop (mkF m 16 #[.val (.ref r0), .val (.ref r1), .val (.ref ba), .val (.int (0 : Int32))] [(.ref r0)]))
  refine own_go (fun t_ kt_ => XS.iloadN X3g.here hx rfl (hb hby d8_16) rfl kt_) ?_
  show own_Go p e below s _ _ _ (T3.setTop (mkF m 17 #[.val (.ref r0), .val (.ref r1), .val (.ref ba), .val (.int (0 : Int32))] [(.int (0 : Int32)), (.ref r0)]))
  refine own_go (fun t_ kt_ => XS.iconst X3g.here hx rfl (hb hby d8_17) kt_) ?_
  show own_Go p e below s _ _ _ (T3.setTop (mkF m 18 #[.val (.ref r0), .val (.ref r1), .val (.ref ba), .val (.int (0 : Int32))] [(.int (1 : Int32)), (.int (0 : Int32)), (.ref r0)]))
  refine own_go (fun t_ kt_ => XS.iadd X3g.here hx rfl (hb hby d8_18) rfl kt_) ?_
  show own_Go p e below s _ _ _ (T3.setTop (mkF m 19 #[.val (.ref r0), .val (.ref r1), .val (.ref ba), .val (.int (0 : Int32))] [(.int (1 : Int32)), (.ref r0)]))
  obtain ⟨T4, h4, X4, e4, W4, st4⟩ := putF X3g hx hZ hown (host := "") (Or.inl (hw _ (List.mem_of_getElem? (i := 74) rfl))) Via.refl e3 FS_3 EE_3 (Or.inl (hw _ (List.mem_of_getElem? (i := 75) rfl))) (hw _ (List.mem_of_getElem? (i := 1) rfl)) (ty := .int) (by decide) rfl rfl (g := (mkF m 19 #[.val (.ref r0), .val (.ref r1), .val (.ref ba), .val (.int (0 : Int32))] [(.int (1 : Int32)), (.ref r0)])) rfl rfl (hb hby d8_19)
  refine own_go (fun t_ kt_ => st4 _ kt_) ?_
  have N4 := Fr.snoc X4 N3g g0
  obtain ⟨lo4, X4g, N4g⟩ : ∃ lo, Stand p l e ({ frames := 3, cells := 1, slots := 10, locals := 41 } : Room) s m #[(.ref r0), (.ref r1), (.ref dea), (.int (0 : Int32))] below meth c T4 lo 1 10 ∧ Fr n0 lo := ⟨_, X4, N4⟩
  have ZZ_4 : n0 ≤ h4.size := Nat.le_trans ZZ_3 (Nat.le_of_eq W4.size.symm)
  have EE_4 : Exa Z h4 r0 "java/util/ArrayList" := EE_3.wr W4
  have S_DEFAULTCAPACITY_EMPTY_ELEMENTDATA_4 : Sta Z h4 "java/util/ArrayList" "DEFAULTCAPACITY_EMPTY_ELEMENTDATA" "[Ljava/lang/Object;" (.ref dea) := S_DEFAULTCAPACITY_EMPTY_ELEMENTDATA_3.wr W4
  have VD_4 : own_Ary Z h4 dea (.object "java/lang/Object") 0 fd := VD_3.other W4 (Ne.symm ne0)
  have EX_4 : Exa Z h4 r1 "com/example/lint_for_clocks/lintforclocks/model/Edge" := EX_3.wr W4
  have FM_4 : Fld Z h4 r0 "java/util/AbstractList" "modCount" "I" mc := FM_3.other W4 (Or.inr (slot_ne (Or.inl (hw _ (List.mem_of_getElem? (i := 22) rfl))) (Or.inl (hw _ (List.mem_of_getElem? (i := 75) rfl))) (by decide) (t := .int) (t' := .int) (by decide) (by decide)))
  have FE_4 : Fld Z h4 r0 "java/util/ArrayList" "elementData" "[Ljava/lang/Object;" (.ref ba) := FE_3.other W4 (Or.inr (slot_ne (Or.inl (hw _ (List.mem_of_getElem? (i := 25) rfl))) (Or.inl (hw _ (List.mem_of_getElem? (i := 75) rfl))) (by decide) (t := (.array (.object "java/lang/Object"))) (t' := .int) (by decide) (by decide)))
  have V_ba_4 : own_Ary Z h4 ba (.object "java/lang/Object") 10 (own_set (fun _ => .null) 0 (.ref r1)) := V_ba_3.other W4 (Ne.symm ne_r0_ba)
  have O_ba_4 : own_Ov Z h4 ba "java/lang/Object" := O_ba_3.wr W4
  have FS_4 : Fld Z h4 r0 "java/util/ArrayList" "size" "I" (.int (1 : Int32)) := FS_3.same W4
  have K4 : Keep h0 h4 [r0] := K3.wr W4 (Or.inl (by simp))
  show own_Go p e below s _ _ _ (T4.setTop (mkF m 22 #[.val (.ref r0), .val (.ref r1), .val (.ref ba), .val (.int (0 : Int32))] []))
  refine own_ret X4g (v := none) (fun _ => rfl) hlk ?_ (by decide) (by decide) (fun fs hr => X4g.returnOut hx hret (hb hby d8_22) hr)
  show Q8g Z r0 r1 dea mc fd h0 n0 (none) T4.heap _
  rw [e4]
  exact ⟨ba, rfl, N4g, K4, gq2, Sq2, V_ba_4, O_ba_4, FM_4, FE_4, FS_4⟩
theorem ef_8n (m : MethodId) (r0 : Addr) (r1 : Addr) (r2 : Addr) (sz : Int32) : entryFrame m #[(.ref r0), (.ref r1), (.ref r2), (.int sz)] 4 = mkF m 0 #[.val (.ref r0), .val (.ref r1), .val (.ref r2), .val (.int sz)] [] := by first | (simp [entryFrame, mkF, argsToLocals, Value.category]; done) | rfl
def Q8n (Z : State) (r0 : Addr) (r1 : Addr) (r2 : Addr) (sz : Int32) (mc : Value) (f : Nat → Value) (k : Nat) (h0 : Heap) (n0 : Nat) (v : Option Value) (h : Heap) (L : List Loc) : Prop := v = none ∧ Fr n0 L ∧ Keep h0 h [r0, r2] ∧ own_Ary Z h r2 (.object "java/lang/Object") 10 (own_set f k (.ref r1)) ∧ own_Ov Z h r2 "java/lang/Object" ∧ Fld Z h r0 "java/util/AbstractList" "modCount" "I" mc ∧ Fld Z h r0 "java/util/ArrayList" "elementData" "[Ljava/lang/Object;" (.ref r2) ∧ Fld Z h r0 "java/util/ArrayList" "size" "I" (.int (sz + (1 : Int32)))
set_option maxRecDepth 65536 in
set_option maxHeartbeats 40000000 in
theorem rm8n (l : Launch) (Z : State) (a0 : Array Value) (hw : ∀ d ∈ tables_1, d.before a0 Z = true) (ws : List Jvm.Cond) (r0 : Addr) (r1 : Addr) (r2 : Addr) (sz : Int32) (mc : Value) (f : Nat → Value) (k : Nat) (h0 : Heap) (n0 : Nat) (Z0 : n0 ≤ h0.size) (M0 : Fld Z h0 r0 "java/util/AbstractList" "modCount" "I" mc) (D0 : Fld Z h0 r0 "java/util/ArrayList" "elementData" "[Ljava/lang/Object;" (.ref r2)) (Z1 : Fld Z h0 r0 "java/util/ArrayList" "size" "I" (.int sz)) (E0 : Exa Z h0 r0 "java/util/ArrayList") (g0 : n0 ≤ r0) (AN : own_Ary Z h0 r2 (.object "java/lang/Object") 10 f) (OV : own_Ov Z h0 r2 "java/lang/Object") (XE1 : Exa Z h0 r1 "com/example/lint_for_clocks/lintforclocks/model/Edge") (g2 : n0 ≤ r2) (ne0 : r0 ≠ r2) (ne1 : r0 ≠ r1) (ne2 : r1 ≠ r2) (kz : sz.toInt = (k : Int)) (k10 : k < 10) :
    MetFree l (⟨"java/util/ArrayList", "add", "(Ljava/lang/Object;[Ljava/lang/Object;I)V"⟩ : MethodName) (head1 (Jvm.Cond.code (⟨"java/util/ArrayList", "add", "(Ljava/lang/Object;[Ljava/lang/Object;I)V"⟩ : MethodName) jdk_38_method_24_code 4 none :: ws) ({ frames := 0, cells := 0, slots := 0, locals := 0 } : Room)) (fun a U => a = #[(.ref r0), (.ref r1), (.ref r2), (.int sz)] ∧ Z.Warmed39 U.vm ∧ U.heap = h0) (fun _ _ _ _ _ => True) (fun _ U o U' => ∃ v L, o = .returned v ∧ Q8n Z r0 r1 r2 sz mc f k h0 n0 v U'.heap L ∧ FrameEnd U o U' L (({ frames := 0, cells := 0, slots := 0, locals := 0 } : Room)).cells (({ frames := 0, cells := 0, slots := 0, locals := 0 } : Room)).slots) := by
  refine MetFree.of_bodySF (plainFor_of_name pn_3) hisR ?_
  intro p e s m args below meth c s₁ Bd hml0 hP hK
  obtain ⟨rfl, hZ, hh⟩ := hP
  have hx := Bd.exec
  have hby := Bd.bytes
  have hml : c.maxLocals = 4 := hml0
  have hown : s.vm.findClass "java/util/ArrayList" = some m.cls := findClass_of_methodNamed Bd.named
  have hnm := (name_of_methodNamed Bd.named Bd.method).1
  have hlk : meth.locks = false := Bd.notSynchronized
  have X0 : Stand p l e ({ frames := 0, cells := 0, slots := 0, locals := 0 } : Room) s m #[(.ref r0), (.ref r1), (.ref r2), (.int sz)] below meth c s₁ [] 0 0 := Stand.of_body Bd
  have e0 : s₁.heap = h0 := by rw [← hh, Bd.state]; rfl
  have N0 := Fr.nil n0
  have hret := Bd.returns
  show own_Go p e below s (Q8n Z r0 r1 r2 sz mc f k h0 n0) _ _ (s₁.setTop (entryFrame m #[(.ref r0), (.ref r1), (.ref r2), (.int sz)] 4))
  refine own_go (fun t k => castTop (ef_8n m r0 r1 r2 sz) k) ?_
  show own_Go p e below s _ _ _ (s₁.setTop (mkF m 0 #[.val (.ref r0), .val (.ref r1), .val (.ref r2), .val (.int sz)] []))
  refine own_go (fun t_ kt_ => XS.iloadN X0.here hx rfl (hb hby d8_0) rfl kt_) ?_
  show own_Go p e below s _ _ _ (s₁.setTop (mkF m 1 #[.val (.ref r0), .val (.ref r1), .val (.ref r2), .val (.int sz)] [(.int sz)]))
  refine own_go (fun t_ kt_ => XS.aloadN X0.here hx rfl (hb hby d8_1) rfl rfl kt_) ?_
  show own_Go p e below s _ _ _ (s₁.setTop (mkF m 2 #[.val (.ref r0), .val (.ref r1), .val (.ref r2), .val (.int sz)] [(.ref r2), (.int sz)]))
  obtain ⟨ce1, Ar1, S1, G1⟩ := id AN
  have q1 : ce1.slots.size.toInt32 = (10 : Int32) := (congrArg Nat.toInt32 S1).trans (by decide)
  refine own_go (fun t_ kt_ => X0.arraylength hx (by rw [e0]; exact Ar1.1) (State.isArrayOf_alike hZ.alike Ar1.2.1) (g := (mkF m 2 #[.val (.ref r0), .val (.ref r1), .val (.ref r2), .val (.int sz)] [(.ref r2), (.int sz)])) rfl rfl (hb hby d8_2) _ (by rw [q1]; exact kt_)) ?_
  show own_Go p e below s _ _ _ (s₁.setTop (mkF m 3 #[.val (.ref r0), .val (.ref r1), .val (.ref r2), .val (.int sz)] [(.int (10 : Int32)), (.int sz)]))
  refine own_go (fun t_ kt_ => XS.icmpYes X0.here hx rfl (pc0 := 3) (pc' := 11) rfl (hb hby d8_3) rfl (feq (own_n10 kz k10)).2 (by decide) (by decide) kt_) ?_
  show own_Go p e below s _ _ _ (s₁.setTop (mkF m 11 #[.val (.ref r0), .val (.ref r1), .val (.ref r2), .val (.int sz)] []))
  refine own_go (fun t_ kt_ => XS.aloadN X0.here hx rfl (hb hby d8_11) rfl rfl kt_) ?_
  show own_Go p e below s _ _ _ (s₁.setTop (mkF m 12 #[.val (.ref r0), .val (.ref r1), .val (.ref r2), .val (.int sz)] [(.ref r2)]))
  refine own_go (fun t_ kt_ => XS.iloadN X0.here hx rfl (hb hby d8_12) rfl kt_) ?_
  show own_Go p e below s _ _ _ (s₁.setTop (mkF m 13 #[.val (.ref r0), .val (.ref r1), .val (.ref r2), .val (.int sz)] [(.int sz), (.ref r2)]))
  refine own_go (fun t_ kt_ => XS.aloadN X0.here hx rfl (hb hby d8_13) rfl rfl kt_) ?_
  show own_Go p e below s _ _ _ (s₁.setTop (mkF m 14 #[.val (.ref r0), .val (.ref r1), .val (.ref r2), .val (.int sz)] [(.ref r1), (.int sz), (.ref r2)]))
  obtain ⟨ce2, Ar2, S2, G2⟩ := id AN
  obtain ⟨T2, h2, X2, e2, W2, st2⟩ := stR X0 hx hZ e0 Ar2 (j := sz) (own_in (i := k) S2 kz k10) rfl (own_sto Ar2 OV (Ins.of_exa XE1 (hw _ (List.mem_of_getElem? (i := 97) rfl)))) (g := (mkF m 14 #[.val (.ref r0), .val (.ref r1), .val (.ref r2), .val (.int sz)] [(.ref r1), (.int sz), (.ref r2)])) rfl rfl (hb hby d8_14)
  rw [own_cl (j := sz) (i := k) kz] at W2 X2
  refine own_go (fun t_ kt_ => st2 _ kt_) ?_
  have N2 := Fr.snoc X2 N0 g2
  obtain ⟨lo2, X2g, N2g⟩ : ∃ lo, Stand p l e ({ frames := 0, cells := 0, slots := 0, locals := 0 } : Room) s m #[(.ref r0), (.ref r1), (.ref r2), (.int sz)] below meth c T2 lo 0 0 ∧ Fr n0 lo := ⟨_, X2, N2⟩
  have ZZ_2 : n0 ≤ h2.size := Nat.le_trans Z0 (Nat.le_of_eq W2.size.symm)
  have FM_2 : Fld Z h2 r0 "java/util/AbstractList" "modCount" "I" mc := M0.other W2 (Or.inl ne0)
  have FE_2 : Fld Z h2 r0 "java/util/ArrayList" "elementData" "[Ljava/lang/Object;" (.ref r2) := D0.other W2 (Or.inl ne0)
  have FS_2 : Fld Z h2 r0 "java/util/ArrayList" "size" "I" (.int sz) := Z1.other W2 (Or.inl ne0)
  have EE_2 : Exa Z h2 r0 "java/util/ArrayList" := E0.wr W2
  have ON_2 : own_Ov Z h2 r2 "java/lang/Object" := OV.wr W2
  have EX_2 : Exa Z h2 r1 "com/example/lint_for_clocks/lintforclocks/model/Edge" := XE1.wr W2
  have VN_2 : own_Ary Z h2 r2 (.object "java/lang/Object") 10 (own_set f k (.ref r1)) := own_Ary.set Ar2 S2 G2 W2
  have K2 : Keep h0 h2 [r0, r2] := (Keep.refl h0 [r0, r2]).wr W2 (Or.inl (by simp))
  show own_Go p e below s _ _ _ (T2.setTop (mkF m 15 #[.val (.ref r0), .val (.ref r1), .val (.ref r2), .val (.int sz)] []))
  refine own_go (fun t_ kt_ => XS.aloadN X2g.here hx rfl (hb hby d8_15) rfl rfl kt_) ?_
  show own_Go p e below s _ _ _ (T2.setTop (mkF m 16 #[.val (.ref r0), .val (.ref r1), .val (.ref r2), .val (.int sz)] [(.ref r0)]))
  refine own_go (fun t_ kt_ => XS.iloadN X2g.here hx rfl (hb hby d8_16) rfl kt_) ?_
  show own_Go p e below s _ _ _ (T2.setTop (mkF m 17 #[.val (.ref r0), .val (.ref r1), .val (.ref r2), .val (.int sz)] [(.int sz), (.ref r0)]))
  refine own_go (fun t_ kt_ => XS.iconst X2g.here hx rfl (hb hby d8_17) kt_) ?_
  show own_Go p e below s _ _ _ (T2.setTop (mkF m 18 #[.val (.ref r0), .val (.ref r1), .val (.ref r2), .val (.int sz)] [(.int (1 : Int32)), (.int sz), (.ref r0)]))
  refine own_go (fun t_ kt_ => XS.iadd X2g.here hx rfl (hb hby d8_18) rfl kt_) ?_
  show own_Go p e below s _ _ _ (T2.setTop (mkF m 19 #[.val (.ref r0), .val (.ref r1), .val (.ref r2), .val (.int sz)] [(.int (sz + (1 : Int32))), (.ref r0)]))
  obtain ⟨T3, h3, X3, e3, W3, st3⟩ := putF X2g hx hZ hown (host := "") (Or.inl (hw _ (List.mem_of_getElem? (i := 74) rfl))) Via.refl e2 FS_2 EE_2 (Or.inl (hw _ (List.mem_of_getElem? (i := 75) rfl))) (hw _ (List.mem_of_getElem? (i := 1) rfl)) (ty := .int) (by decide) rfl rfl (g := (mkF m 19 #[.val (.ref r0), .val (.ref r1), .val (.ref r2), .val (.int sz)] [(.int (sz + (1 : Int32))), (.ref r0)])) rfl rfl (hb hby d8_19)
  refine own_go (fun t_ kt_ => st3 _ kt_) ?_
  have N3 := Fr.snoc X3 N2g g0
  obtain ⟨lo3, X3g, N3g⟩ : ∃ lo, Stand p l e ({ frames := 0, cells := 0, slots := 0, locals := 0 } : Room) s m #[(.ref r0), (.ref r1), (.ref r2), (.int sz)] below meth c T3 lo 0 0 ∧ Fr n0 lo := ⟨_, X3, N3⟩
  have ZZ_3 : n0 ≤ h3.size := Nat.le_trans ZZ_2 (Nat.le_of_eq W3.size.symm)
  have FM_3 : Fld Z h3 r0 "java/util/AbstractList" "modCount" "I" mc := FM_2.other W3 (Or.inr (slot_ne (Or.inl (hw _ (List.mem_of_getElem? (i := 22) rfl))) (Or.inl (hw _ (List.mem_of_getElem? (i := 75) rfl))) (by decide) (t := .int) (t' := .int) (by decide) (by decide)))
  have FE_3 : Fld Z h3 r0 "java/util/ArrayList" "elementData" "[Ljava/lang/Object;" (.ref r2) := FE_2.other W3 (Or.inr (slot_ne (Or.inl (hw _ (List.mem_of_getElem? (i := 25) rfl))) (Or.inl (hw _ (List.mem_of_getElem? (i := 75) rfl))) (by decide) (t := (.array (.object "java/lang/Object"))) (t' := .int) (by decide) (by decide)))
  have EE_3 : Exa Z h3 r0 "java/util/ArrayList" := EE_2.wr W3
  have VN_3 : own_Ary Z h3 r2 (.object "java/lang/Object") 10 (own_set f k (.ref r1)) := VN_2.other W3 (Ne.symm ne0)
  have ON_3 : own_Ov Z h3 r2 "java/lang/Object" := ON_2.wr W3
  have EX_3 : Exa Z h3 r1 "com/example/lint_for_clocks/lintforclocks/model/Edge" := EX_2.wr W3
  have FS_3 : Fld Z h3 r0 "java/util/ArrayList" "size" "I" (.int (sz + (1 : Int32))) := FS_2.same W3
  have K3 : Keep h0 h3 [r0, r2] := K2.wr W3 (Or.inl (by simp))
  show own_Go p e below s _ _ _ (T3.setTop (mkF m 22 #[.val (.ref r0), .val (.ref r1), .val (.ref r2), .val (.int sz)] []))
  refine own_ret X3g (v := none) (fun _ => rfl) hlk ?_ (by decide) (by decide) (fun fs hr => X3g.returnOut hx hret (hb hby d8_22) hr)
  show Q8n Z r0 r1 r2 sz mc f k h0 n0 (none) T3.heap _
  rw [e3]
  exact ⟨rfl, N3g, K3, VN_3, ON_3, FM_3, FE_3, FS_3⟩
theorem d7_0 : decode jdk_38_method_25_code 0 = .ok (.aload_n 0, 1) := by decide +kernel
theorem d7_1 : decode jdk_38_method_25_code 1 = .ok (.dup, 1) := by decide +kernel
theorem d7_2 : decode jdk_38_method_25_code 2 = .ok (.getfield 63, 3) := by decide +kernel
theorem d7_5 : decode jdk_38_method_25_code 5 = .ok (.iconst 1, 1) := by decide +kernel
theorem d7_6 : decode jdk_38_method_25_code 6 = .ok (.iadd, 1) := by decide +kernel
theorem d7_7 : decode jdk_38_method_25_code 7 = .ok (.putfield 63, 3) := by decide +kernel
theorem d7_10 : decode jdk_38_method_25_code 10 = .ok (.aload_n 0, 1) := by decide +kernel
theorem d7_11 : decode jdk_38_method_25_code 11 = .ok (.aload_n 1, 1) := by decide +kernel
theorem d7_12 : decode jdk_38_method_25_code 12 = .ok (.aload_n 0, 1) := by decide +kernel
theorem d7_13 : decode jdk_38_method_25_code 13 = .ok (.getfield 9, 3) := by decide +kernel
theorem d7_16 : decode jdk_38_method_25_code 16 = .ok (.aload_n 0, 1) := by decide +kernel
theorem d7_17 : decode jdk_38_method_25_code 17 = .ok (.getfield 48, 3) := by decide +kernel
theorem d7_20 : decode jdk_38_method_25_code 20 = .ok (.invokevirtual 131, 3) := by decide +kernel
theorem pd_4 : parseMethodDescriptor "(Ljava/lang/Object;[Ljava/lang/Object;I)V" = some ⟨[(.object "java/lang/Object"), (.array (.object "java/lang/Object")), .int], none⟩ := by decide +kernel
theorem d7_23 : decode jdk_38_method_25_code 23 = .ok (.iconst 1, 1) := by decide +kernel
theorem d7_24 : decode jdk_38_method_25_code 24 = .ok (.ireturn, 1) := by decide +kernel
theorem ef_7g (m : MethodId) (r0 : Addr) (r1 : Addr) : entryFrame m #[(.ref r0), (.ref r1)] 2 = mkF m 0 #[.val (.ref r0), .val (.ref r1)] [] := by first | (simp [entryFrame, mkF, argsToLocals, Value.category]; done) | rfl
def Q7g (Z : State) (r0 : Addr) (r1 : Addr) (mi : Int32) (dea : Addr) (fd : Nat → Value) (h0 : Heap) (n0 : Nat) (v : Option Value) (h : Heap) (L : List Loc) : Prop := ∃ b : Addr, v = some (.int 1) ∧ Fr n0 L ∧ Keep h0 h [r0] ∧ n0 ≤ b ∧ h0.size ≤ b ∧ own_Ary Z h b (.object "java/lang/Object") 10 (own_set (fun _ => .null) 0 (.ref r1)) ∧ own_Ov Z h b "java/lang/Object" ∧ Fld Z h r0 "java/util/AbstractList" "modCount" "I" (.int (mi + (1 : Int32))) ∧ Fld Z h r0 "java/util/ArrayList" "elementData" "[Ljava/lang/Object;" (.ref b) ∧ Fld Z h r0 "java/util/ArrayList" "size" "I" (.int (1 : Int32))
set_option maxRecDepth 65536 in
set_option maxHeartbeats 40000000 in
theorem rm7g (l : Launch) (Z : State) (a0 : Array Value) (hw : ∀ d ∈ tables_1, d.before a0 Z = true) (ws : List Jvm.Cond) (r0 : Addr) (r1 : Addr) (mi : Int32) (dea : Addr) (fd : Nat → Value) (h0 : Heap) (n0 : Nat) (Z0 : n0 ≤ h0.size) (M0 : Fld Z h0 r0 "java/util/AbstractList" "modCount" "I" (.int mi)) (D0 : Fld Z h0 r0 "java/util/ArrayList" "elementData" "[Ljava/lang/Object;" (.ref dea)) (Z1 : Fld Z h0 r0 "java/util/ArrayList" "size" "I" (.int (0 : Int32))) (E0 : Exa Z h0 r0 "java/util/ArrayList") (g0 : n0 ≤ r0) (SD : Sta Z h0 "java/util/ArrayList" "DEFAULTCAPACITY_EMPTY_ELEMENTDATA" "[Ljava/lang/Object;" (.ref dea)) (AD : own_Ary Z h0 dea (.object "java/lang/Object") 0 fd) (ne0 : r0 ≠ dea) (XE1 : Exa Z h0 r1 "com/example/lint_for_clocks/lintforclocks/model/Edge") (ne1 : r0 ≠ r1) :
    MetFree l (⟨"java/util/ArrayList", "add", "(Ljava/lang/Object;)Z"⟩ : MethodName) (head1 (Jvm.Cond.code (⟨"java/util/ArrayList", "add", "(Ljava/lang/Object;)Z"⟩ : MethodName) jdk_38_method_25_code 2 (some .boolean) :: ws) ({ frames := 4, cells := 1, slots := 10, locals := 56 } : Room)) (fun a U => a = #[(.ref r0), (.ref r1)] ∧ Z.Warmed39 U.vm ∧ U.heap = h0) (fun _ _ _ _ _ => True) (fun _ U o U' => ∃ v L, o = .returned v ∧ Q7g Z r0 r1 mi dea fd h0 n0 v U'.heap L ∧ FrameEnd U o U' L (({ frames := 4, cells := 1, slots := 10, locals := 56 } : Room)).cells (({ frames := 4, cells := 1, slots := 10, locals := 56 } : Room)).slots) := by
  refine MetFree.of_bodySF (plainFor_of_name pn_3) hisR ?_
  intro p e s m args below meth c s₁ Bd hml0 hP hK
  obtain ⟨rfl, hZ, hh⟩ := hP
  have hx := Bd.exec
  have hby := Bd.bytes
  have hml : c.maxLocals = 2 := hml0
  have hown : s.vm.findClass "java/util/ArrayList" = some m.cls := findClass_of_methodNamed Bd.named
  have hnm := (name_of_methodNamed Bd.named Bd.method).1
  have hlk : meth.locks = false := Bd.notSynchronized
  have X0 : Stand p l e ({ frames := 4, cells := 1, slots := 10, locals := 56 } : Room) s m #[(.ref r0), (.ref r1)] below meth c s₁ [] 0 0 := Stand.of_body Bd
  have e0 : s₁.heap = h0 := by rw [← hh, Bd.state]; rfl
  have N0 := Fr.nil n0
  have hret := Bd.returns
  show own_Go p e below s (Q7g Z r0 r1 mi dea fd h0 n0) _ _ (s₁.setTop (entryFrame m #[(.ref r0), (.ref r1)] 2))
  refine own_go (fun t k => castTop (ef_7g m r0 r1) k) ?_
  show own_Go p e below s _ _ _ (s₁.setTop (mkF m 0 #[.val (.ref r0), .val (.ref r1)] []))
  refine own_go (fun t_ kt_ => XS.aloadN X0.here hx rfl (hb hby d7_0) rfl rfl kt_) ?_
  show own_Go p e below s _ _ _ (s₁.setTop (mkF m 1 #[.val (.ref r0), .val (.ref r1)] [(.ref r0)]))
  refine own_go (fun t_ kt_ => XS.dup X0.here hx rfl (hb hby d7_1) rfl rfl kt_) ?_
  show own_Go p e below s _ _ _ (s₁.setTop (mkF m 2 #[.val (.ref r0), .val (.ref r1)] [(.ref r0), (.ref r0)]))
  obtain ⟨T1, X1, e1, st1⟩ := getF X0 hx hZ hown (host := "") (Or.inl (hw _ (List.mem_of_getElem? (i := 72) rfl))) (Via.of (hw _ (List.mem_of_getElem? (i := 73) rfl))) e0 M0 (g := (mkF m 2 #[.val (.ref r0), .val (.ref r1)] [(.ref r0), (.ref r0)])) rfl rfl (hb hby d7_2)
  refine own_go (fun t_ kt_ => st1 _ kt_) ?_
  show own_Go p e below s _ _ _ (T1.setTop (mkF m 5 #[.val (.ref r0), .val (.ref r1)] [(.int mi), (.ref r0)]))
  refine own_go (fun t_ kt_ => XS.iconst X1.here hx rfl (hb hby d7_5) kt_) ?_
  show own_Go p e below s _ _ _ (T1.setTop (mkF m 6 #[.val (.ref r0), .val (.ref r1)] [(.int (1 : Int32)), (.int mi), (.ref r0)]))
  refine own_go (fun t_ kt_ => XS.iadd X1.here hx rfl (hb hby d7_6) rfl kt_) ?_
  show own_Go p e below s _ _ _ (T1.setTop (mkF m 7 #[.val (.ref r0), .val (.ref r1)] [(.int (mi + (1 : Int32))), (.ref r0)]))
  obtain ⟨T2, h2, X2, e2, W2, st2⟩ := putF X1 hx hZ hown (host := "") (Or.inl (hw _ (List.mem_of_getElem? (i := 72) rfl))) (Via.of (hw _ (List.mem_of_getElem? (i := 73) rfl))) e1 M0 E0 (Or.inl (hw _ (List.mem_of_getElem? (i := 22) rfl))) (hw _ (List.mem_of_getElem? (i := 1) rfl)) (ty := .int) (by decide) rfl rfl (g := (mkF m 7 #[.val (.ref r0), .val (.ref r1)] [(.int (mi + (1 : Int32))), (.ref r0)])) rfl rfl (hb hby d7_7)
  refine own_go (fun t_ kt_ => st2 _ kt_) ?_
  have N2 := Fr.snoc X2 N0 g0
  obtain ⟨lo2, X2g, N2g⟩ : ∃ lo, Stand p l e ({ frames := 4, cells := 1, slots := 10, locals := 56 } : Room) s m #[(.ref r0), (.ref r1)] below meth c T2 lo 0 0 ∧ Fr n0 lo := ⟨_, X2, N2⟩
  have ZZ_2 : n0 ≤ h2.size := Nat.le_trans Z0 (Nat.le_of_eq W2.size.symm)
  have FE_2 : Fld Z h2 r0 "java/util/ArrayList" "elementData" "[Ljava/lang/Object;" (.ref dea) := D0.other W2 (Or.inr (slot_ne (Or.inl (hw _ (List.mem_of_getElem? (i := 25) rfl))) (Or.inl (hw _ (List.mem_of_getElem? (i := 22) rfl))) (by decide) (t := (.array (.object "java/lang/Object"))) (t' := .int) (by decide) (by decide)))
  have FS_2 : Fld Z h2 r0 "java/util/ArrayList" "size" "I" (.int (0 : Int32)) := Z1.other W2 (Or.inr (slot_ne (Or.inl (hw _ (List.mem_of_getElem? (i := 75) rfl))) (Or.inl (hw _ (List.mem_of_getElem? (i := 22) rfl))) (by decide) (t := .int) (t' := .int) (by decide) (by decide)))
  have EE_2 : Exa Z h2 r0 "java/util/ArrayList" := E0.wr W2
  have S_DEFAULTCAPACITY_EMPTY_ELEMENTDATA_2 : Sta Z h2 "java/util/ArrayList" "DEFAULTCAPACITY_EMPTY_ELEMENTDATA" "[Ljava/lang/Object;" (.ref dea) := SD.wr W2
  have VD_2 : own_Ary Z h2 dea (.object "java/lang/Object") 0 fd := AD.other W2 (Ne.symm ne0)
  have EX_2 : Exa Z h2 r1 "com/example/lint_for_clocks/lintforclocks/model/Edge" := XE1.wr W2
  have FM_2 : Fld Z h2 r0 "java/util/AbstractList" "modCount" "I" (.int (mi + (1 : Int32))) := M0.same W2
  have K2 : Keep h0 h2 [r0] := (Keep.refl h0 [r0]).wr W2 (Or.inl (by simp))
  show own_Go p e below s _ _ _ (T2.setTop (mkF m 10 #[.val (.ref r0), .val (.ref r1)] []))
  refine own_go (fun t_ kt_ => XS.aloadN X2g.here hx rfl (hb hby d7_10) rfl rfl kt_) ?_
  show own_Go p e below s _ _ _ (T2.setTop (mkF m 11 #[.val (.ref r0), .val (.ref r1)] [(.ref r0)]))
  refine own_go (fun t_ kt_ => XS.aloadN X2g.here hx rfl (hb hby d7_11) rfl rfl kt_) ?_
  show own_Go p e below s _ _ _ (T2.setTop (mkF m 12 #[.val (.ref r0), .val (.ref r1)] [(.ref r1), (.ref r0)]))
  refine own_go (fun t_ kt_ => XS.aloadN X2g.here hx rfl (hb hby d7_12) rfl rfl kt_) ?_
  show own_Go p e below s _ _ _ (T2.setTop (mkF m 13 #[.val (.ref r0), .val (.ref r1)] [(.ref r0), (.ref r1), (.ref r0)]))
  obtain ⟨T3, X3, e3, st3⟩ := getF X2g hx hZ hown (host := "") (Or.inl (hw _ (List.mem_of_getElem? (i := 24) rfl))) Via.refl e2 FE_2 (g := (mkF m 13 #[.val (.ref r0), .val (.ref r1)] [(.ref r0), (.ref r1), (.ref r0)])) rfl rfl (hb hby d7_13)
  refine own_go (fun t_ kt_ => st3 _ kt_) ?_
  show own_Go p e below s _ _ _ (T3.setTop (mkF m 16 #[.val (.ref r0), .val (.ref r1)] [(.ref dea), (.ref r1), (.ref r0)]))
  refine own_go (fun t_ kt_ => XS.aloadN X3.here hx rfl (hb hby d7_16) rfl rfl kt_) ?_
  show own_Go p e below s _ _ _ (T3.setTop (mkF m 17 #[.val (.ref r0), .val (.ref r1)] [(.ref r0), (.ref dea), (.ref r1), (.ref r0)]))
  obtain ⟨T4, X4, e4, st4⟩ := getF X3 hx hZ hown (host := "") (Or.inl (hw _ (List.mem_of_getElem? (i := 74) rfl))) Via.refl e3 FS_2 (g := (mkF m 17 #[.val (.ref r0), .val (.ref r1)] [(.ref r0), (.ref dea), (.ref r1), (.ref r0)])) rfl rfl (hb hby d7_17)
  refine own_go (fun t_ kt_ => st4 _ kt_) ?_
  show own_Go p e below s _ _ _ (T4.setTop (mkF m 20 #[.val (.ref r0), .val (.ref r1)] [(.int (0 : Int32)), (.ref dea), (.ref r1), (.ref r0)]))
  obtain ⟨cq5, q5, q5'⟩ := EE_2.cell
  obtain ⟨_, _, ⟨T5, L5, k5, n5⟩, -, X5, ⟨Lc5, hQ5, l5, y5, z5⟩, st5⟩ := X4.privateBack hx (y := (⟨"java/util/ArrayList", "add", "(Ljava/lang/Object;[Ljava/lang/Object;I)V"⟩ : MethodName)) hown (mvT hZ (hw _ (List.mem_of_getElem? (i := 76) rfl))) (mvT hZ (hw _ (List.mem_of_getElem? (i := 77) rfl))) (mvT hZ (hw _ (List.mem_of_getElem? (i := 79) rfl))) (Cond.privateMethod_at (mvP hZ (hw _ (List.mem_of_getElem? (i := 78) rfl)) (args := #[]))) (mvT hZ (hw _ (List.mem_of_getElem? (i := 80) rfl))) (by decide) (backOf (W := 0) (rm8g l Z a0 hw [] (r0) (r1) (dea) ((.int (mi + (1 : Int32)))) (fd) h2 n0 ZZ_2 FM_2 FE_2 FS_2 EE_2 g0 S_DEFAULTCAPACITY_EMPTY_ELEMENTDATA_2 VD_2 ne0 EX_2 ne1) hZ (hw _ (List.mem_of_getElem? (i := 80) rfl)) (hw _ (List.mem_of_getElem? (i := 2) rfl)) (by decide) (by decide)) (g := (mkF m 20 #[.val (.ref r0), .val (.ref r1)] [(.int (0 : Int32)), (.ref dea), (.ref r1), (.ref r0)])) rfl (by rw [hml]; rfl) (Steps.refl _) (a := r0) (by rw [e4]; exact q5) q5' (argsL := [(.ref r1), (.ref dea), (.int (0 : Int32))]) (rest := []) (lenOf pd_4 rfl) rfl (by show 2 * 0 + _ ≤ _; exact Nat.le_of_eq rfl) (hb hby d7_20) (fun _ _ => ⟨rfl, e4, (by decide : 0 + 1 ≤ _), (by decide : 0 + 10 ≤ _)⟩)
  dsimp only [Pt.U, Pt.locs, Pt.cells, Pt.slots] at X5 l5 y5 z5 st5 hQ5
  subst l5 y5 z5
  obtain ⟨ba, rfl, Nq5, Kq5, gq5, Sq5, Vq5, Oq5, Fq5a, Fq5b, Fq5c⟩ := hQ5
  have N5 := Fr.app N2g Nq5
  refine own_go (fun t_ kt_ => st5.trans kt_) ?_
  obtain ⟨lo5, X5g, N5g⟩ : ∃ lo, Stand p l e ({ frames := 4, cells := 1, slots := 10, locals := 56 } : Room) s m #[(.ref r0), (.ref r1)] below meth c T5 lo 1 10 ∧ Fr n0 lo := ⟨_, X5, N5⟩
  obtain ⟨h5, e5⟩ : ∃ z, T5.heap = z := ⟨_, rfl⟩
  rw [e5] at Kq5 Vq5 Oq5 Fq5a Fq5b Fq5c
  have ZZ_5 : n0 ≤ h5.size := Nat.le_trans ZZ_2 Kq5.1
  have EE_5 : Exa Z h5 r0 "java/util/ArrayList" := EE_2.keep Kq5
  have S_DEFAULTCAPACITY_EMPTY_ELEMENTDATA_5 : Sta Z h5 "java/util/ArrayList" "DEFAULTCAPACITY_EMPTY_ELEMENTDATA" "[Ljava/lang/Object;" (.ref dea) := own_sta_keepN S_DEFAULTCAPACITY_EMPTY_ELEMENTDATA_2 Kq5 EE_2
  have VD_5 : own_Ary Z h5 dea (.object "java/lang/Object") 0 fd := VD_2.keep Kq5 (ninS (Ne.symm ne0) nin0)
  have EX_5 : Exa Z h5 r1 "com/example/lint_for_clocks/lintforclocks/model/Edge" := EX_2.keep Kq5
  have K5 : Keep h0 h5 [r0] := K2.trans Kq5 (allS (Or.inl (by simp)) all0)
  have sz_ba : h0.size ≤ ba := Nat.le_trans K2.1 Sq5
  show own_Go p e below s _ _ _ (T5.setTop (mkF m 23 #[.val (.ref r0), .val (.ref r1)] []))
  refine own_go (fun t_ kt_ => XS.iconst X5g.here hx rfl (hb hby d7_23) kt_) ?_
  show own_Go p e below s _ _ _ (T5.setTop (mkF m 24 #[.val (.ref r0), .val (.ref r1)] [(.int (1 : Int32))]))
  refine own_ret X5g (v := some (.int (1 : Int32))) (fun h => by rw [hret] at h; cases h) hlk ?_ (by decide) (by decide) (fun fs hr => retN X5g hx (t := .boolean) hret (by simp) (hb hby d7_24) hr)
  show Q7g Z r0 r1 mi dea fd h0 n0 (some (.int (1 : Int32))) T5.heap _
  rw [e5]
  exact ⟨ba, rfl, N5g, K5, gq5, sz_ba, Vq5, Oq5, Fq5a, Fq5b, Fq5c⟩
theorem ef_7n (m : MethodId) (r0 : Addr) (r1 : Addr) : entryFrame m #[(.ref r0), (.ref r1)] 2 = mkF m 0 #[.val (.ref r0), .val (.ref r1)] [] := by first | (simp [entryFrame, mkF, argsToLocals, Value.category]; done) | rfl
def Q7n (Z : State) (r0 : Addr) (r1 : Addr) (mi : Int32) (f : Nat → Value) (k : Nat) (sz : Int32) (r2 : Addr) (h0 : Heap) (n0 : Nat) (v : Option Value) (h : Heap) (L : List Loc) : Prop := v = some (.int 1) ∧ Fr n0 L ∧ Keep h0 h [r0, r2] ∧ own_Ary Z h r2 (.object "java/lang/Object") 10 (own_set f k (.ref r1)) ∧ own_Ov Z h r2 "java/lang/Object" ∧ Fld Z h r0 "java/util/AbstractList" "modCount" "I" (.int (mi + (1 : Int32))) ∧ Fld Z h r0 "java/util/ArrayList" "elementData" "[Ljava/lang/Object;" (.ref r2) ∧ Fld Z h r0 "java/util/ArrayList" "size" "I" (.int (sz + (1 : Int32)))
set_option maxRecDepth 65536 in
set_option maxHeartbeats 40000000 in
theorem rm7n (l : Launch) (Z : State) (a0 : Array Value) (hw : ∀ d ∈ tables_1, d.before a0 Z = true) (ws : List Jvm.Cond) (r0 : Addr) (r1 : Addr) (mi : Int32) (f : Nat → Value) (k : Nat) (sz : Int32) (r2 : Addr) (h0 : Heap) (n0 : Nat) (Z0 : n0 ≤ h0.size) (M0 : Fld Z h0 r0 "java/util/AbstractList" "modCount" "I" (.int mi)) (D0 : Fld Z h0 r0 "java/util/ArrayList" "elementData" "[Ljava/lang/Object;" (.ref r2)) (Z1 : Fld Z h0 r0 "java/util/ArrayList" "size" "I" (.int sz)) (E0 : Exa Z h0 r0 "java/util/ArrayList") (g0 : n0 ≤ r0) (AN : own_Ary Z h0 r2 (.object "java/lang/Object") 10 f) (OV : own_Ov Z h0 r2 "java/lang/Object") (XE1 : Exa Z h0 r1 "com/example/lint_for_clocks/lintforclocks/model/Edge") (g2 : n0 ≤ r2) (ne0 : r0 ≠ r2) (ne1 : r0 ≠ r1) (ne2 : r1 ≠ r2) (kz : sz.toInt = (k : Int)) (k10 : k < 10) :
    MetFree l (⟨"java/util/ArrayList", "add", "(Ljava/lang/Object;)Z"⟩ : MethodName) (head1 (Jvm.Cond.code (⟨"java/util/ArrayList", "add", "(Ljava/lang/Object;)Z"⟩ : MethodName) jdk_38_method_25_code 2 (some .boolean) :: ws) ({ frames := 1, cells := 0, slots := 0, locals := 15 } : Room)) (fun a U => a = #[(.ref r0), (.ref r1)] ∧ Z.Warmed39 U.vm ∧ U.heap = h0) (fun _ _ _ _ _ => True) (fun _ U o U' => ∃ v L, o = .returned v ∧ Q7n Z r0 r1 mi f k sz r2 h0 n0 v U'.heap L ∧ FrameEnd U o U' L (({ frames := 1, cells := 0, slots := 0, locals := 15 } : Room)).cells (({ frames := 1, cells := 0, slots := 0, locals := 15 } : Room)).slots) := by
  refine MetFree.of_bodySF (plainFor_of_name pn_3) hisR ?_
  intro p e s m args below meth c s₁ Bd hml0 hP hK
  obtain ⟨rfl, hZ, hh⟩ := hP
  have hx := Bd.exec
  have hby := Bd.bytes
  have hml : c.maxLocals = 2 := hml0
  have hown : s.vm.findClass "java/util/ArrayList" = some m.cls := findClass_of_methodNamed Bd.named
  have hnm := (name_of_methodNamed Bd.named Bd.method).1
  have hlk : meth.locks = false := Bd.notSynchronized
  have X0 : Stand p l e ({ frames := 1, cells := 0, slots := 0, locals := 15 } : Room) s m #[(.ref r0), (.ref r1)] below meth c s₁ [] 0 0 := Stand.of_body Bd
  have e0 : s₁.heap = h0 := by rw [← hh, Bd.state]; rfl
  have N0 := Fr.nil n0
  have hret := Bd.returns
  show own_Go p e below s (Q7n Z r0 r1 mi f k sz r2 h0 n0) _ _ (s₁.setTop (entryFrame m #[(.ref r0), (.ref r1)] 2))
  refine own_go (fun t k => castTop (ef_7n m r0 r1) k) ?_
  show own_Go p e below s _ _ _ (s₁.setTop (mkF m 0 #[.val (.ref r0), .val (.ref r1)] []))
  refine own_go (fun t_ kt_ => XS.aloadN X0.here hx rfl (hb hby d7_0) rfl rfl kt_) ?_
  show own_Go p e below s _ _ _ (s₁.setTop (mkF m 1 #[.val (.ref r0), .val (.ref r1)] [(.ref r0)]))
  refine own_go (fun t_ kt_ => XS.dup X0.here hx rfl (hb hby d7_1) rfl rfl kt_) ?_
  show own_Go p e below s _ _ _ (s₁.setTop (mkF m 2 #[.val (.ref r0), .val (.ref r1)] [(.ref r0), (.ref r0)]))
  obtain ⟨T1, X1, e1, st1⟩ := getF X0 hx hZ hown (host := "") (Or.inl (hw _ (List.mem_of_getElem? (i := 72) rfl))) (Via.of (hw _ (List.mem_of_getElem? (i := 73) rfl))) e0 M0 (g := (mkF m 2 #[.val (.ref r0), .val (.ref r1)] [(.ref r0), (.ref r0)])) rfl rfl (hb hby d7_2)
  refine own_go (fun t_ kt_ => st1 _ kt_) ?_
  show own_Go p e below s _ _ _ (T1.setTop (mkF m 5 #[.val (.ref r0), .val (.ref r1)] [(.int mi), (.ref r0)]))
  refine own_go (fun t_ kt_ => XS.iconst X1.here hx rfl (hb hby d7_5) kt_) ?_
  show own_Go p e below s _ _ _ (T1.setTop (mkF m 6 #[.val (.ref r0), .val (.ref r1)] [(.int (1 : Int32)), (.int mi), (.ref r0)]))
  refine own_go (fun t_ kt_ => XS.iadd X1.here hx rfl (hb hby d7_6) rfl kt_) ?_
  show own_Go p e below s _ _ _ (T1.setTop (mkF m 7 #[.val (.ref r0), .val (.ref r1)] [(.int (mi + (1 : Int32))), (.ref r0)]))
  obtain ⟨T2, h2, X2, e2, W2, st2⟩ := putF X1 hx hZ hown (host := "") (Or.inl (hw _ (List.mem_of_getElem? (i := 72) rfl))) (Via.of (hw _ (List.mem_of_getElem? (i := 73) rfl))) e1 M0 E0 (Or.inl (hw _ (List.mem_of_getElem? (i := 22) rfl))) (hw _ (List.mem_of_getElem? (i := 1) rfl)) (ty := .int) (by decide) rfl rfl (g := (mkF m 7 #[.val (.ref r0), .val (.ref r1)] [(.int (mi + (1 : Int32))), (.ref r0)])) rfl rfl (hb hby d7_7)
  refine own_go (fun t_ kt_ => st2 _ kt_) ?_
  have N2 := Fr.snoc X2 N0 g0
  obtain ⟨lo2, X2g, N2g⟩ : ∃ lo, Stand p l e ({ frames := 1, cells := 0, slots := 0, locals := 15 } : Room) s m #[(.ref r0), (.ref r1)] below meth c T2 lo 0 0 ∧ Fr n0 lo := ⟨_, X2, N2⟩
  have ZZ_2 : n0 ≤ h2.size := Nat.le_trans Z0 (Nat.le_of_eq W2.size.symm)
  have FE_2 : Fld Z h2 r0 "java/util/ArrayList" "elementData" "[Ljava/lang/Object;" (.ref r2) := D0.other W2 (Or.inr (slot_ne (Or.inl (hw _ (List.mem_of_getElem? (i := 25) rfl))) (Or.inl (hw _ (List.mem_of_getElem? (i := 22) rfl))) (by decide) (t := (.array (.object "java/lang/Object"))) (t' := .int) (by decide) (by decide)))
  have FS_2 : Fld Z h2 r0 "java/util/ArrayList" "size" "I" (.int sz) := Z1.other W2 (Or.inr (slot_ne (Or.inl (hw _ (List.mem_of_getElem? (i := 75) rfl))) (Or.inl (hw _ (List.mem_of_getElem? (i := 22) rfl))) (by decide) (t := .int) (t' := .int) (by decide) (by decide)))
  have EE_2 : Exa Z h2 r0 "java/util/ArrayList" := E0.wr W2
  have VN_2 : own_Ary Z h2 r2 (.object "java/lang/Object") 10 f := AN.other W2 (Ne.symm ne0)
  have ON_2 : own_Ov Z h2 r2 "java/lang/Object" := OV.wr W2
  have EX_2 : Exa Z h2 r1 "com/example/lint_for_clocks/lintforclocks/model/Edge" := XE1.wr W2
  have FM_2 : Fld Z h2 r0 "java/util/AbstractList" "modCount" "I" (.int (mi + (1 : Int32))) := M0.same W2
  have K2 : Keep h0 h2 [r0, r2] := (Keep.refl h0 [r0, r2]).wr W2 (Or.inl (by simp))
  show own_Go p e below s _ _ _ (T2.setTop (mkF m 10 #[.val (.ref r0), .val (.ref r1)] []))
  refine own_go (fun t_ kt_ => XS.aloadN X2g.here hx rfl (hb hby d7_10) rfl rfl kt_) ?_
  show own_Go p e below s _ _ _ (T2.setTop (mkF m 11 #[.val (.ref r0), .val (.ref r1)] [(.ref r0)]))
  refine own_go (fun t_ kt_ => XS.aloadN X2g.here hx rfl (hb hby d7_11) rfl rfl kt_) ?_
  show own_Go p e below s _ _ _ (T2.setTop (mkF m 12 #[.val (.ref r0), .val (.ref r1)] [(.ref r1), (.ref r0)]))
  refine own_go (fun t_ kt_ => XS.aloadN X2g.here hx rfl (hb hby d7_12) rfl rfl kt_) ?_
  show own_Go p e below s _ _ _ (T2.setTop (mkF m 13 #[.val (.ref r0), .val (.ref r1)] [(.ref r0), (.ref r1), (.ref r0)]))
  obtain ⟨T3, X3, e3, st3⟩ := getF X2g hx hZ hown (host := "") (Or.inl (hw _ (List.mem_of_getElem? (i := 24) rfl))) Via.refl e2 FE_2 (g := (mkF m 13 #[.val (.ref r0), .val (.ref r1)] [(.ref r0), (.ref r1), (.ref r0)])) rfl rfl (hb hby d7_13)
  refine own_go (fun t_ kt_ => st3 _ kt_) ?_
  show own_Go p e below s _ _ _ (T3.setTop (mkF m 16 #[.val (.ref r0), .val (.ref r1)] [(.ref r2), (.ref r1), (.ref r0)]))
  refine own_go (fun t_ kt_ => XS.aloadN X3.here hx rfl (hb hby d7_16) rfl rfl kt_) ?_
  show own_Go p e below s _ _ _ (T3.setTop (mkF m 17 #[.val (.ref r0), .val (.ref r1)] [(.ref r0), (.ref r2), (.ref r1), (.ref r0)]))
  obtain ⟨T4, X4, e4, st4⟩ := getF X3 hx hZ hown (host := "") (Or.inl (hw _ (List.mem_of_getElem? (i := 74) rfl))) Via.refl e3 FS_2 (g := (mkF m 17 #[.val (.ref r0), .val (.ref r1)] [(.ref r0), (.ref r2), (.ref r1), (.ref r0)])) rfl rfl (hb hby d7_17)
  refine own_go (fun t_ kt_ => st4 _ kt_) ?_
  show own_Go p e below s _ _ _ (T4.setTop (mkF m 20 #[.val (.ref r0), .val (.ref r1)] [(.int sz), (.ref r2), (.ref r1), (.ref r0)]))
  obtain ⟨cq5, q5, q5'⟩ := EE_2.cell
  obtain ⟨_, _, ⟨T5, L5, k5, n5⟩, -, X5, ⟨Lc5, hQ5, l5, y5, z5⟩, st5⟩ := X4.privateBack hx (y := (⟨"java/util/ArrayList", "add", "(Ljava/lang/Object;[Ljava/lang/Object;I)V"⟩ : MethodName)) hown (mvT hZ (hw _ (List.mem_of_getElem? (i := 76) rfl))) (mvT hZ (hw _ (List.mem_of_getElem? (i := 77) rfl))) (mvT hZ (hw _ (List.mem_of_getElem? (i := 79) rfl))) (Cond.privateMethod_at (mvP hZ (hw _ (List.mem_of_getElem? (i := 78) rfl)) (args := #[]))) (mvT hZ (hw _ (List.mem_of_getElem? (i := 80) rfl))) (by decide) (backOf (W := 0) (rm8n l Z a0 hw [] (r0) (r1) (r2) (sz) ((.int (mi + (1 : Int32)))) (f) (k) h2 n0 ZZ_2 FM_2 FE_2 FS_2 EE_2 g0 VN_2 ON_2 EX_2 g2 ne0 ne1 ne2 kz k10) hZ (hw _ (List.mem_of_getElem? (i := 80) rfl)) (hw _ (List.mem_of_getElem? (i := 2) rfl)) (by decide) (by decide)) (g := (mkF m 20 #[.val (.ref r0), .val (.ref r1)] [(.int sz), (.ref r2), (.ref r1), (.ref r0)])) rfl (by rw [hml]; rfl) (Steps.refl _) (a := r0) (by rw [e4]; exact q5) q5' (argsL := [(.ref r1), (.ref r2), (.int sz)]) (rest := []) (lenOf pd_4 rfl) rfl (by show 2 * 0 + _ ≤ _; exact Nat.le_of_eq rfl) (hb hby d7_20) (fun _ _ => ⟨rfl, e4, (by decide : 0 + 0 ≤ _), (by decide : 0 + 0 ≤ _)⟩)
  dsimp only [Pt.U, Pt.locs, Pt.cells, Pt.slots] at X5 l5 y5 z5 st5 hQ5
  subst l5 y5 z5
  obtain ⟨rfl, Nq5, Kq5, Vq5, Oq5, Fq5a, Fq5b, Fq5c⟩ := hQ5
  have N5 := Fr.app N2g Nq5
  refine own_go (fun t_ kt_ => st5.trans kt_) ?_
  obtain ⟨lo5, X5g, N5g⟩ : ∃ lo, Stand p l e ({ frames := 1, cells := 0, slots := 0, locals := 15 } : Room) s m #[(.ref r0), (.ref r1)] below meth c T5 lo 0 0 ∧ Fr n0 lo := ⟨_, X5, N5⟩
  obtain ⟨h5, e5⟩ : ∃ z, T5.heap = z := ⟨_, rfl⟩
  rw [e5] at Kq5 Vq5 Oq5 Fq5a Fq5b Fq5c
  have ZZ_5 : n0 ≤ h5.size := Nat.le_trans ZZ_2 Kq5.1
  have EE_5 : Exa Z h5 r0 "java/util/ArrayList" := EE_2.keep Kq5
  have ON_5 : own_Ov Z h5 r2 "java/lang/Object" := ON_2.keep Kq5
  have EX_5 : Exa Z h5 r1 "com/example/lint_for_clocks/lintforclocks/model/Edge" := EX_2.keep Kq5
  have K5 : Keep h0 h5 [r0, r2] := K2.trans Kq5 (allS (Or.inl (by simp)) (allS (Or.inl (by simp)) all0))
  show own_Go p e below s _ _ _ (T5.setTop (mkF m 23 #[.val (.ref r0), .val (.ref r1)] []))
  refine own_go (fun t_ kt_ => XS.iconst X5g.here hx rfl (hb hby d7_23) kt_) ?_
  show own_Go p e below s _ _ _ (T5.setTop (mkF m 24 #[.val (.ref r0), .val (.ref r1)] [(.int (1 : Int32))]))
  refine own_ret X5g (v := some (.int (1 : Int32))) (fun h => by rw [hret] at h; cases h) hlk ?_ (by decide) (by decide) (fun fs hr => retN X5g hx (t := .boolean) hret (by simp) (hb hby d7_24) hr)
  show Q7n Z r0 r1 mi f k sz r2 h0 n0 (some (.int (1 : Int32))) T5.heap _
  rw [e5]
  exact ⟨rfl, N5g, K5, Vq5, Oq5, Fq5a, Fq5b, Fq5c⟩
theorem d15_0 : decode prog_60_method_11_code 0 = .ok (.aload_n 0, 1) := by decide +kernel
theorem d15_1 : decode prog_60_method_11_code 1 = .ok (.getfield 30, 3) := by decide +kernel
theorem d15_4 : decode prog_60_method_11_code 4 = .ok (.areturn, 1) := by decide +kernel
theorem ef_15 (m : MethodId) (r0 : Addr) : entryFrame m #[(.ref r0)] 1 = mkF m 0 #[.val (.ref r0)] [] := by first | (simp [entryFrame, mkF, argsToLocals, Value.category]; done) | rfl
def Q15 (Z : State) (r0 : Addr) (al : Addr) (h0 : Heap) (n0 : Nat) (v : Option Value) (h : Heap) (L : List Loc) : Prop := v = some (.ref al) ∧ Fr n0 L ∧ h = h0
set_option maxRecDepth 65536 in
set_option maxHeartbeats 40000000 in
theorem rm15 (l : Launch) (Z : State) (a0 : Array Value) (hw : ∀ d ∈ tables_1, d.before a0 Z = true) (ws : List Jvm.Cond) (r0 : Addr) (al : Addr) (h0 : Heap) (n0 : Nat) (Z0 : n0 ≤ h0.size) (F0 : Fld Z h0 r0 "com/example/lint_for_clocks/lintforclocks/model/Template" "edges" "Ljava/util/List;" (.ref al)) :
    MetFree l (⟨"com/example/lint_for_clocks/lintforclocks/model/Template", "edges", "()Ljava/util/List;"⟩ : MethodName) (head1 (Jvm.Cond.code (⟨"com/example/lint_for_clocks/lintforclocks/model/Template", "edges", "()Ljava/util/List;"⟩ : MethodName) prog_60_method_11_code 1 (some (.object "java/util/List")) :: ws) ({ frames := 0, cells := 0, slots := 0, locals := 0 } : Room)) (fun a U => a = #[(.ref r0)] ∧ Z.Warmed39 U.vm ∧ U.heap = h0) (fun _ _ _ _ _ => True) (fun _ U o U' => ∃ v L, o = .returned v ∧ Q15 Z r0 al h0 n0 v U'.heap L ∧ FrameEnd U o U' L (({ frames := 0, cells := 0, slots := 0, locals := 0 } : Room)).cells (({ frames := 0, cells := 0, slots := 0, locals := 0 } : Room)).slots) := by
  refine MetFree.of_bodySF (plainFor_of_name pn_5) hisR ?_
  intro p e s m args below meth c s₁ Bd hml0 hP hK
  obtain ⟨rfl, hZ, hh⟩ := hP
  have hx := Bd.exec
  have hby := Bd.bytes
  have hml : c.maxLocals = 1 := hml0
  have hown : s.vm.findClass "com/example/lint_for_clocks/lintforclocks/model/Template" = some m.cls := findClass_of_methodNamed Bd.named
  have hnm := (name_of_methodNamed Bd.named Bd.method).1
  have hlk : meth.locks = false := Bd.notSynchronized
  have X0 : Stand p l e ({ frames := 0, cells := 0, slots := 0, locals := 0 } : Room) s m #[(.ref r0)] below meth c s₁ [] 0 0 := Stand.of_body Bd
  have e0 : s₁.heap = h0 := by rw [← hh, Bd.state]; rfl
  have N0 := Fr.nil n0
  have hret := Bd.returns
  show own_Go p e below s (Q15 Z r0 al h0 n0) _ _ (s₁.setTop (entryFrame m #[(.ref r0)] 1))
  refine own_go (fun t k => castTop (ef_15 m r0) k) ?_
  show own_Go p e below s _ _ _ (s₁.setTop (mkF m 0 #[.val (.ref r0)] []))
  refine own_go (fun t_ kt_ => XS.aloadN X0.here hx rfl (hb hby d15_0) rfl rfl kt_) ?_
  show own_Go p e below s _ _ _ (s₁.setTop (mkF m 1 #[.val (.ref r0)] [(.ref r0)]))
  obtain ⟨T1, X1, e1, st1⟩ := getF X0 hx hZ hown (host := "") (Or.inl (hw _ (List.mem_of_getElem? (i := 119) rfl))) Via.refl e0 F0 (g := (mkF m 1 #[.val (.ref r0)] [(.ref r0)])) rfl rfl (hb hby d15_1)
  refine own_go (fun t_ kt_ => st1 _ kt_) ?_
  show own_Go p e below s _ _ _ (T1.setTop (mkF m 4 #[.val (.ref r0)] [(.ref al)]))
  refine own_ret X1 (v := some (.ref al)) (fun h => by rw [hret] at h; cases h) hlk ?_ (by decide) (by decide) (fun fs hr => X1.areturnOut hx rfl hret rfl (hb hby d15_4) hr)
  show Q15 Z r0 al h0 n0 (some (.ref al)) T1.heap _
  rw [e1]
  exact ⟨rfl, N0, rfl⟩
theorem pn_7 : plainName "jdk/internal/util/Preconditions" = true := by first | (simp [plainName, overriddenIn]; done) | decide +kernel
theorem d18_0 : decode jdk_41_method_11_code 0 = .ok (.iload_n 0, 1) := by decide +kernel
theorem d18_1 : decode jdk_41_method_11_code 1 = .ok (.ifCond .lt 8, 3) := by decide +kernel
theorem d18_4 : decode jdk_41_method_11_code 4 = .ok (.iload_n 0, 1) := by decide +kernel
theorem d18_5 : decode jdk_41_method_11_code 5 = .ok (.iload_n 1, 1) := by decide +kernel
theorem d18_6 : decode jdk_41_method_11_code 6 = .ok (.if_icmp .lt 10, 3) := by decide +kernel
theorem d18_16 : decode jdk_41_method_11_code 16 = .ok (.iload_n 0, 1) := by decide +kernel
theorem d18_17 : decode jdk_41_method_11_code 17 = .ok (.ireturn, 1) := by decide +kernel
theorem ef_18 (m : MethodId) (p0 : Int32) (p1 : Int32) : entryFrame m #[(.int p0), (.int p1), .null] 3 = mkF m 0 #[.val (.int p0), .val (.int p1), .val .null] [] := by first | (simp [entryFrame, mkF, argsToLocals, Value.category]; done) | rfl
def Q18 (Z : State) (p0 : Int32) (p1 : Int32) (h0 : Heap) (n0 : Nat) (v : Option Value) (h : Heap) (L : List Loc) : Prop := v = some (.int p0) ∧ Fr n0 L ∧ h = h0
set_option maxRecDepth 65536 in
set_option maxHeartbeats 40000000 in
theorem rm18 (l : Launch) (Z : State) (a0 : Array Value) (hw : ∀ d ∈ tables_1, d.before a0 Z = true) (ws : List Jvm.Cond) (p0 : Int32) (p1 : Int32) (h0 : Heap) (n0 : Nat) (Z0 : n0 ≤ h0.size) (cl : ¬ p0 < (0 : Int32)) (ch : p0 < p1) :
    MetFree l (⟨"jdk/internal/util/Preconditions", "checkIndex", "(IILjava/util/function/BiFunction;)I"⟩ : MethodName) (head1 (Jvm.Cond.code (⟨"jdk/internal/util/Preconditions", "checkIndex", "(IILjava/util/function/BiFunction;)I"⟩ : MethodName) jdk_41_method_11_code 3 (some .int) :: ws) ({ frames := 0, cells := 0, slots := 0, locals := 0 } : Room)) (fun a U => a = #[(.int p0), (.int p1), .null] ∧ Z.Warmed39 U.vm ∧ U.heap = h0) (fun _ _ _ _ _ => True) (fun _ U o U' => ∃ v L, o = .returned v ∧ Q18 Z p0 p1 h0 n0 v U'.heap L ∧ FrameEnd U o U' L (({ frames := 0, cells := 0, slots := 0, locals := 0 } : Room)).cells (({ frames := 0, cells := 0, slots := 0, locals := 0 } : Room)).slots) := by
  refine MetFree.of_bodySF (plainFor_of_name pn_7) hisR ?_
  intro p e s m args below meth c s₁ Bd hml0 hP hK
  obtain ⟨rfl, hZ, hh⟩ := hP
  have hx := Bd.exec
  have hby := Bd.bytes
  have hml : c.maxLocals = 3 := hml0
  have hown : s.vm.findClass "jdk/internal/util/Preconditions" = some m.cls := findClass_of_methodNamed Bd.named
  have hnm := (name_of_methodNamed Bd.named Bd.method).1
  have hlk : meth.locks = false := Bd.notSynchronized
  have X0 : Stand p l e ({ frames := 0, cells := 0, slots := 0, locals := 0 } : Room) s m #[(.int p0), (.int p1), .null] below meth c s₁ [] 0 0 := Stand.of_body Bd
  have e0 : s₁.heap = h0 := by rw [← hh, Bd.state]; rfl
  have N0 := Fr.nil n0
  have hret := Bd.returns
  show own_Go p e below s (Q18 Z p0 p1 h0 n0) _ _ (s₁.setTop (entryFrame m #[(.int p0), (.int p1), .null] 3))
  refine own_go (fun t k => castTop (ef_18 m p0 p1) k) ?_
  show own_Go p e below s _ _ _ (s₁.setTop (mkF m 0 #[.val (.int p0), .val (.int p1), .val .null] []))
  refine own_go (fun t_ kt_ => XS.iloadN X0.here hx rfl (hb hby d18_0) rfl kt_) ?_
  show own_Go p e below s _ _ _ (s₁.setTop (mkF m 1 #[.val (.int p0), .val (.int p1), .val .null] [(.int p0)]))
  refine own_go (fun t_ kt_ => XS.ifNo X0.here hx rfl (hb hby d18_1) rfl ((if0 _ _).trans (flt cl).1) kt_) ?_
  show own_Go p e below s _ _ _ (s₁.setTop (mkF m 4 #[.val (.int p0), .val (.int p1), .val .null] []))
  refine own_go (fun t_ kt_ => XS.iloadN X0.here hx rfl (hb hby d18_4) rfl kt_) ?_
  show own_Go p e below s _ _ _ (s₁.setTop (mkF m 5 #[.val (.int p0), .val (.int p1), .val .null] [(.int p0)]))
  refine own_go (fun t_ kt_ => XS.iloadN X0.here hx rfl (hb hby d18_5) rfl kt_) ?_
  show own_Go p e below s _ _ _ (s₁.setTop (mkF m 6 #[.val (.int p0), .val (.int p1), .val .null] [(.int p1), (.int p0)]))
  refine own_go (fun t_ kt_ => XS.icmpYes X0.here hx rfl (pc0 := 6) (pc' := 16) rfl (hb hby d18_6) rfl (tlt ch).1 (by decide) (by decide) kt_) ?_
  show own_Go p e below s _ _ _ (s₁.setTop (mkF m 16 #[.val (.int p0), .val (.int p1), .val .null] []))
  refine own_go (fun t_ kt_ => XS.iloadN X0.here hx rfl (hb hby d18_16) rfl kt_) ?_
  show own_Go p e below s _ _ _ (s₁.setTop (mkF m 17 #[.val (.int p0), .val (.int p1), .val .null] [(.int p0)]))
  refine own_ret X0 (v := some (.int p0)) (fun h => by rw [hret] at h; cases h) hlk ?_ (by decide) (by decide) (fun fs hr => retI X0 hx hret (hb hby d18_17) hr)
  show Q18 Z p0 p1 h0 n0 (some (.int p0)) s₁.heap _
  rw [e0]
  exact ⟨rfl, N0, rfl⟩
theorem pn_8 : plainName "java/util/Objects" = true := by first | (simp [plainName, overriddenIn]; done) | decide +kernel
theorem d17_0 : decode jdk_31_method_17_code 0 = .ok (.iload_n 0, 1) := by decide +kernel
theorem d17_1 : decode jdk_31_method_17_code 1 = .ok (.iload_n 1, 1) := by decide +kernel
theorem d17_2 : decode jdk_31_method_17_code 2 = .ok (.aconst_null, 1) := by decide +kernel
theorem d17_3 : decode jdk_31_method_17_code 3 = .ok (.invokestatic 105, 3) := by decide +kernel
theorem pd_5 : parseMethodDescriptor "(IILjava/util/function/BiFunction;)I" = some ⟨[.int, .int, (.object "java/util/function/BiFunction")], some .int⟩ := by decide +kernel
theorem d17_6 : decode jdk_31_method_17_code 6 = .ok (.ireturn, 1) := by decide +kernel
theorem ef_17 (m : MethodId) (p0 : Int32) (p1 : Int32) : entryFrame m #[(.int p0), (.int p1)] 2 = mkF m 0 #[.val (.int p0), .val (.int p1)] [] := by first | (simp [entryFrame, mkF, argsToLocals, Value.category]; done) | rfl
def Q17 (Z : State) (p0 : Int32) (p1 : Int32) (h0 : Heap) (n0 : Nat) (v : Option Value) (h : Heap) (L : List Loc) : Prop := v = some (.int p0) ∧ Fr n0 L ∧ h = h0
set_option maxRecDepth 65536 in
set_option maxHeartbeats 40000000 in
theorem rm17 (l : Launch) (Z : State) (a0 : Array Value) (hw : ∀ d ∈ tables_1, d.before a0 Z = true) (ws : List Jvm.Cond) (p0 : Int32) (p1 : Int32) (h0 : Heap) (n0 : Nat) (Z0 : n0 ≤ h0.size) (cl : ¬ p0 < (0 : Int32)) (ch : p0 < p1) :
    MetFree l (⟨"java/util/Objects", "checkIndex", "(II)I"⟩ : MethodName) (head1 (Jvm.Cond.code (⟨"java/util/Objects", "checkIndex", "(II)I"⟩ : MethodName) jdk_31_method_17_code 2 (some .int) :: ws) ({ frames := 1, cells := 0, slots := 0, locals := 14 } : Room)) (fun a U => a = #[(.int p0), (.int p1)] ∧ Z.Warmed39 U.vm ∧ U.heap = h0) (fun _ _ _ _ _ => True) (fun _ U o U' => ∃ v L, o = .returned v ∧ Q17 Z p0 p1 h0 n0 v U'.heap L ∧ FrameEnd U o U' L (({ frames := 1, cells := 0, slots := 0, locals := 14 } : Room)).cells (({ frames := 1, cells := 0, slots := 0, locals := 14 } : Room)).slots) := by
  refine MetFree.of_bodySF (plainFor_of_name pn_8) hisR ?_
  intro p e s m args below meth c s₁ Bd hml0 hP hK
  obtain ⟨rfl, hZ, hh⟩ := hP
  have hx := Bd.exec
  have hby := Bd.bytes
  have hml : c.maxLocals = 2 := hml0
  have hown : s.vm.findClass "java/util/Objects" = some m.cls := findClass_of_methodNamed Bd.named
  have hnm := (name_of_methodNamed Bd.named Bd.method).1
  have hlk : meth.locks = false := Bd.notSynchronized
  have X0 : Stand p l e ({ frames := 1, cells := 0, slots := 0, locals := 14 } : Room) s m #[(.int p0), (.int p1)] below meth c s₁ [] 0 0 := Stand.of_body Bd
  have e0 : s₁.heap = h0 := by rw [← hh, Bd.state]; rfl
  have N0 := Fr.nil n0
  have hret := Bd.returns
  show own_Go p e below s (Q17 Z p0 p1 h0 n0) _ _ (s₁.setTop (entryFrame m #[(.int p0), (.int p1)] 2))
  refine own_go (fun t k => castTop (ef_17 m p0 p1) k) ?_
  show own_Go p e below s _ _ _ (s₁.setTop (mkF m 0 #[.val (.int p0), .val (.int p1)] []))
  refine own_go (fun t_ kt_ => XS.iloadN X0.here hx rfl (hb hby d17_0) rfl kt_) ?_
  show own_Go p e below s _ _ _ (s₁.setTop (mkF m 1 #[.val (.int p0), .val (.int p1)] [(.int p0)]))
  refine own_go (fun t_ kt_ => XS.iloadN X0.here hx rfl (hb hby d17_1) rfl kt_) ?_
  show own_Go p e below s _ _ _ (s₁.setTop (mkF m 2 #[.val (.int p0), .val (.int p1)] [(.int p1), (.int p0)]))
  refine own_go (fun t_ kt_ => XS.aconstNull X0.here hx rfl (hb hby d17_2) kt_) ?_
  show own_Go p e below s _ _ _ (s₁.setTop (mkF m 3 #[.val (.int p0), .val (.int p1)] [.null, (.int p1), (.int p0)]))
  obtain ⟨_, _, ⟨T1, L1, k1, n1⟩, -, X1, ⟨Lc1, hQ1, l1, y1, z1⟩, st1⟩ := Jvm.LawKit.callS X0 hx (y := (⟨"jdk/internal/util/Preconditions", "checkIndex", "(IILjava/util/function/BiFunction;)I"⟩ : MethodName)) hown (mvT hZ (hw _ (List.mem_of_getElem? (i := 158) rfl))) (mvT hZ (hw _ (List.mem_of_getElem? (i := 159) rfl))) (mvT hZ (hw _ (List.mem_of_getElem? (i := 160) rfl))) (mvT hZ (hw _ (List.mem_of_getElem? (i := 161) rfl))) (by decide) (backOf (W := 0) (rm18 l Z a0 hw [] (p0) (p1) h0 n0 Z0 cl ch) hZ (hw _ (List.mem_of_getElem? (i := 161) rfl)) (hw _ (List.mem_of_getElem? (i := 160) rfl)) (by decide) (by decide)) (g := (mkF m 3 #[.val (.int p0), .val (.int p1)] [.null, (.int p1), (.int p0)])) rfl (by rw [hml]; rfl) (argsL := [(.int p0), (.int p1), .null]) (rest := []) (lenOf pd_5 rfl) rfl (by show 2 * 0 + _ ≤ _; exact Nat.le_of_eq rfl) (hb hby d17_3) (fun _ _ => ⟨rfl, e0, (by decide : 0 + 0 ≤ _), (by decide : 0 + 0 ≤ _)⟩)
  dsimp only [Pt.U, Pt.locs, Pt.cells, Pt.slots] at X1 l1 y1 z1 st1 hQ1
  subst l1 y1 z1
  obtain ⟨rfl, Nq1, eh1⟩ := hQ1
  have N1 := Fr.app N0 Nq1
  refine own_go (fun t_ kt_ => st1 _ kt_) ?_
  obtain ⟨lo1, X1g, N1g⟩ : ∃ lo, Stand p l e ({ frames := 1, cells := 0, slots := 0, locals := 14 } : Room) s m #[(.int p0), (.int p1)] below meth c T1 lo 0 0 ∧ Fr n0 lo := ⟨_, X1, N1⟩
  have e1 : T1.heap = h0 := eh1
  show own_Go p e below s _ _ _ (T1.setTop (mkF m 6 #[.val (.int p0), .val (.int p1)] [(.int p0)]))
  refine own_ret X1g (v := some (.int p0)) (fun h => by rw [hret] at h; cases h) hlk ?_ (by decide) (by decide) (fun fs hr => retI X1g hx hret (hb hby d17_6) hr)
  show Q17 Z p0 p1 h0 n0 (some (.int p0)) T1.heap _
  rw [e1]
  exact ⟨rfl, N1g, rfl⟩
theorem d19_0 : decode jdk_38_method_18_code 0 = .ok (.aload_n 0, 1) := by decide +kernel
theorem d19_1 : decode jdk_38_method_18_code 1 = .ok (.getfield 9, 3) := by decide +kernel
theorem d19_4 : decode jdk_38_method_18_code 4 = .ok (.iload_n 1, 1) := by decide +kernel
theorem d19_5 : decode jdk_38_method_18_code 5 = .ok (.aaload, 1) := by decide +kernel
theorem d19_6 : decode jdk_38_method_18_code 6 = .ok (.areturn, 1) := by decide +kernel
theorem ef_19 (m : MethodId) (r0 : Addr) (p1 : Int32) : entryFrame m #[(.ref r0), (.int p1)] 2 = mkF m 0 #[.val (.ref r0), .val (.int p1)] [] := by first | (simp [entryFrame, mkF, argsToLocals, Value.category]; done) | rfl
def Q19 (Z : State) (r0 : Addr) (p1 : Int32) (ba : Addr) (f : Nat → Value) (k : Nat) (ek : Addr) (h0 : Heap) (n0 : Nat) (v : Option Value) (h : Heap) (L : List Loc) : Prop := v = some (.ref ek) ∧ Fr n0 L ∧ h = h0
set_option maxRecDepth 65536 in
set_option maxHeartbeats 40000000 in
theorem rm19 (l : Launch) (Z : State) (a0 : Array Value) (hw : ∀ d ∈ tables_1, d.before a0 Z = true) (ws : List Jvm.Cond) (r0 : Addr) (p1 : Int32) (ba : Addr) (f : Nat → Value) (k : Nat) (ek : Addr) (h0 : Heap) (n0 : Nat) (Z0 : n0 ≤ h0.size) (D0 : Fld Z h0 r0 "java/util/ArrayList" "elementData" "[Ljava/lang/Object;" (.ref ba)) (VB : own_Ary Z h0 ba (.object "java/lang/Object") 10 f) (kz : p1.toInt = (k : Int)) (k10 : k < 10) (fk : f k = .ref ek) :
    MetFree l (⟨"java/util/ArrayList", "elementData", "(I)Ljava/lang/Object;"⟩ : MethodName) (head1 (Jvm.Cond.code (⟨"java/util/ArrayList", "elementData", "(I)Ljava/lang/Object;"⟩ : MethodName) jdk_38_method_18_code 2 (some (.object "java/lang/Object")) :: ws) ({ frames := 0, cells := 0, slots := 0, locals := 0 } : Room)) (fun a U => a = #[(.ref r0), (.int p1)] ∧ Z.Warmed39 U.vm ∧ U.heap = h0) (fun _ _ _ _ _ => True) (fun _ U o U' => ∃ v L, o = .returned v ∧ Q19 Z r0 p1 ba f k ek h0 n0 v U'.heap L ∧ FrameEnd U o U' L (({ frames := 0, cells := 0, slots := 0, locals := 0 } : Room)).cells (({ frames := 0, cells := 0, slots := 0, locals := 0 } : Room)).slots) := by
  refine MetFree.of_bodySF (plainFor_of_name pn_3) hisR ?_
  intro p e s m args below meth c s₁ Bd hml0 hP hK
  obtain ⟨rfl, hZ, hh⟩ := hP
  have hx := Bd.exec
  have hby := Bd.bytes
  have hml : c.maxLocals = 2 := hml0
  have hown : s.vm.findClass "java/util/ArrayList" = some m.cls := findClass_of_methodNamed Bd.named
  have hnm := (name_of_methodNamed Bd.named Bd.method).1
  have hlk : meth.locks = false := Bd.notSynchronized
  have X0 : Stand p l e ({ frames := 0, cells := 0, slots := 0, locals := 0 } : Room) s m #[(.ref r0), (.int p1)] below meth c s₁ [] 0 0 := Stand.of_body Bd
  have e0 : s₁.heap = h0 := by rw [← hh, Bd.state]; rfl
  have N0 := Fr.nil n0
  have hret := Bd.returns
  show own_Go p e below s (Q19 Z r0 p1 ba f k ek h0 n0) _ _ (s₁.setTop (entryFrame m #[(.ref r0), (.int p1)] 2))
  refine own_go (fun t k => castTop (ef_19 m r0 p1) k) ?_
  show own_Go p e below s _ _ _ (s₁.setTop (mkF m 0 #[.val (.ref r0), .val (.int p1)] []))
  refine own_go (fun t_ kt_ => XS.aloadN X0.here hx rfl (hb hby d19_0) rfl rfl kt_) ?_
  show own_Go p e below s _ _ _ (s₁.setTop (mkF m 1 #[.val (.ref r0), .val (.int p1)] [(.ref r0)]))
  obtain ⟨T1, X1, e1, st1⟩ := getF X0 hx hZ hown (host := "") (Or.inl (hw _ (List.mem_of_getElem? (i := 24) rfl))) Via.refl e0 D0 (g := (mkF m 1 #[.val (.ref r0), .val (.int p1)] [(.ref r0)])) rfl rfl (hb hby d19_1)
  refine own_go (fun t_ kt_ => st1 _ kt_) ?_
  show own_Go p e below s _ _ _ (T1.setTop (mkF m 4 #[.val (.ref r0), .val (.int p1)] [(.ref ba)]))
  refine own_go (fun t_ kt_ => XS.iloadN X1.here hx rfl (hb hby d19_4) rfl kt_) ?_
  show own_Go p e below s _ _ _ (T1.setTop (mkF m 5 #[.val (.ref r0), .val (.int p1)] [(.int p1), (.ref ba)]))
  obtain ⟨ce2, Ar2, S2, G2⟩ := id VB
  have q2 : ce2.slots[(p1).toNatClampNeg]? = some (.ref ek) := by rw [own_cl (j := p1) (i := k) kz]; exact (G2 _ k10).trans (congrArg some (fk))
  refine own_go (fun t_ kt_ => X1.aaload hx (j := p1) (v := (.ref ek)) (by rw [e1]; exact Ar2.1) (State.isArrayOf_alike hZ.alike Ar2.2.1) rfl Ar2.2.2 (own_in (i := k) S2 kz k10) q2 (g := (mkF m 5 #[.val (.ref r0), .val (.int p1)] [(.int p1), (.ref ba)])) rfl rfl (hb hby d19_5) _ kt_) ?_
  show own_Go p e below s _ _ _ (T1.setTop (mkF m 6 #[.val (.ref r0), .val (.int p1)] [(.ref ek)]))
  refine own_ret X1 (v := some (.ref ek)) (fun h => by rw [hret] at h; cases h) hlk ?_ (by decide) (by decide) (fun fs hr => X1.areturnOut hx rfl hret rfl (hb hby d19_6) hr)
  show Q19 Z r0 p1 ba f k ek h0 n0 (some (.ref ek)) T1.heap _
  rw [e1]
  exact ⟨rfl, N0, rfl⟩
theorem d16_0 : decode jdk_38_method_20_code 0 = .ok (.iload_n 1, 1) := by decide +kernel
theorem d16_1 : decode jdk_38_method_20_code 1 = .ok (.aload_n 0, 1) := by decide +kernel
theorem d16_2 : decode jdk_38_method_20_code 2 = .ok (.getfield 48, 3) := by decide +kernel
theorem d16_5 : decode jdk_38_method_20_code 5 = .ok (.invokestatic 118, 3) := by decide +kernel
theorem d16_8 : decode jdk_38_method_20_code 8 = .ok (.pop, 1) := by decide +kernel
theorem d16_9 : decode jdk_38_method_20_code 9 = .ok (.aload_n 0, 1) := by decide +kernel
theorem d16_10 : decode jdk_38_method_20_code 10 = .ok (.iload_n 1, 1) := by decide +kernel
theorem d16_11 : decode jdk_38_method_20_code 11 = .ok (.invokevirtual 123, 3) := by decide +kernel
theorem pd_6 : parseMethodDescriptor "(I)Ljava/lang/Object;" = some ⟨[.int], some (.object "java/lang/Object")⟩ := by decide +kernel
theorem d16_14 : decode jdk_38_method_20_code 14 = .ok (.areturn, 1) := by decide +kernel
theorem ef_16 (m : MethodId) (r0 : Addr) (p1 : Int32) : entryFrame m #[(.ref r0), (.int p1)] 2 = mkF m 0 #[.val (.ref r0), .val (.int p1)] [] := by first | (simp [entryFrame, mkF, argsToLocals, Value.category]; done) | rfl
def Q16 (Z : State) (r0 : Addr) (p1 : Int32) (ba : Addr) (f : Nat → Value) (k : Nat) (ek : Addr) (sz : Int32) (h0 : Heap) (n0 : Nat) (v : Option Value) (h : Heap) (L : List Loc) : Prop := v = some (.ref ek) ∧ Fr n0 L ∧ h = h0
set_option maxRecDepth 65536 in
set_option maxHeartbeats 40000000 in
theorem rm16 (l : Launch) (Z : State) (a0 : Array Value) (hw : ∀ d ∈ tables_1, d.before a0 Z = true) (ws : List Jvm.Cond) (r0 : Addr) (p1 : Int32) (ba : Addr) (f : Nat → Value) (k : Nat) (ek : Addr) (sz : Int32) (h0 : Heap) (n0 : Nat) (Z0 : n0 ≤ h0.size) (D0 : Fld Z h0 r0 "java/util/ArrayList" "elementData" "[Ljava/lang/Object;" (.ref ba)) (VB : own_Ary Z h0 ba (.object "java/lang/Object") 10 f) (kz : p1.toInt = (k : Int)) (k10 : k < 10) (fk : f k = .ref ek) (Z1 : Fld Z h0 r0 "java/util/ArrayList" "size" "I" (.int sz)) (E0 : Exa Z h0 r0 "java/util/ArrayList") (cl : ¬ p1 < (0 : Int32)) (ch : p1 < sz) :
    MetFree l (⟨"java/util/ArrayList", "get", "(I)Ljava/lang/Object;"⟩ : MethodName) (head1 (Jvm.Cond.code (⟨"java/util/ArrayList", "get", "(I)Ljava/lang/Object;"⟩ : MethodName) jdk_38_method_20_code 2 (some (.object "java/lang/Object")) :: ws) ({ frames := 2, cells := 0, slots := 0, locals := 27 } : Room)) (fun a U => a = #[(.ref r0), (.int p1)] ∧ Z.Warmed39 U.vm ∧ U.heap = h0) (fun _ _ _ _ _ => True) (fun _ U o U' => ∃ v L, o = .returned v ∧ Q16 Z r0 p1 ba f k ek sz h0 n0 v U'.heap L ∧ FrameEnd U o U' L (({ frames := 2, cells := 0, slots := 0, locals := 27 } : Room)).cells (({ frames := 2, cells := 0, slots := 0, locals := 27 } : Room)).slots) := by
  refine MetFree.of_bodySF (plainFor_of_name pn_3) hisR ?_
  intro p e s m args below meth c s₁ Bd hml0 hP hK
  obtain ⟨rfl, hZ, hh⟩ := hP
  have hx := Bd.exec
  have hby := Bd.bytes
  have hml : c.maxLocals = 2 := hml0
  have hown : s.vm.findClass "java/util/ArrayList" = some m.cls := findClass_of_methodNamed Bd.named
  have hnm := (name_of_methodNamed Bd.named Bd.method).1
  have hlk : meth.locks = false := Bd.notSynchronized
  have X0 : Stand p l e ({ frames := 2, cells := 0, slots := 0, locals := 27 } : Room) s m #[(.ref r0), (.int p1)] below meth c s₁ [] 0 0 := Stand.of_body Bd
  have e0 : s₁.heap = h0 := by rw [← hh, Bd.state]; rfl
  have N0 := Fr.nil n0
  have hret := Bd.returns
  show own_Go p e below s (Q16 Z r0 p1 ba f k ek sz h0 n0) _ _ (s₁.setTop (entryFrame m #[(.ref r0), (.int p1)] 2))
  refine own_go (fun t k => castTop (ef_16 m r0 p1) k) ?_
  show own_Go p e below s _ _ _ (s₁.setTop (mkF m 0 #[.val (.ref r0), .val (.int p1)] []))
  refine own_go (fun t_ kt_ => XS.iloadN X0.here hx rfl (hb hby d16_0) rfl kt_) ?_
  show own_Go p e below s _ _ _ (s₁.setTop (mkF m 1 #[.val (.ref r0), .val (.int p1)] [(.int p1)]))
  refine own_go (fun t_ kt_ => XS.aloadN X0.here hx rfl (hb hby d16_1) rfl rfl kt_) ?_
  show own_Go p e below s _ _ _ (s₁.setTop (mkF m 2 #[.val (.ref r0), .val (.int p1)] [(.ref r0), (.int p1)]))
  obtain ⟨T1, X1, e1, st1⟩ := getF X0 hx hZ hown (host := "") (Or.inl (hw _ (List.mem_of_getElem? (i := 74) rfl))) Via.refl e0 Z1 (g := (mkF m 2 #[.val (.ref r0), .val (.int p1)] [(.ref r0), (.int p1)])) rfl rfl (hb hby d16_2)
  refine own_go (fun t_ kt_ => st1 _ kt_) ?_
  show own_Go p e below s _ _ _ (T1.setTop (mkF m 5 #[.val (.ref r0), .val (.int p1)] [(.int sz), (.int p1)]))
  obtain ⟨_, _, ⟨T2, L2, k2, n2⟩, -, X2, ⟨Lc2, hQ2, l2, y2, z2⟩, st2⟩ := Jvm.LawKit.callS X1 hx (y := (⟨"java/util/Objects", "checkIndex", "(II)I"⟩ : MethodName)) hown (mvT hZ (hw _ (List.mem_of_getElem? (i := 154) rfl))) (mvT hZ (hw _ (List.mem_of_getElem? (i := 155) rfl))) (mvT hZ (hw _ (List.mem_of_getElem? (i := 156) rfl))) (mvT hZ (hw _ (List.mem_of_getElem? (i := 157) rfl))) (by decide) (backOf (W := 0) (rm17 l Z a0 hw [] (p1) (sz) h0 n0 Z0 cl ch) hZ (hw _ (List.mem_of_getElem? (i := 157) rfl)) (hw _ (List.mem_of_getElem? (i := 156) rfl)) (by decide) (by decide)) (g := (mkF m 5 #[.val (.ref r0), .val (.int p1)] [(.int sz), (.int p1)])) rfl (by rw [hml]; rfl) (argsL := [(.int p1), (.int sz)]) (rest := []) (lenOf pd_1 rfl) rfl (by show 2 * 0 + _ ≤ _; exact Nat.le_of_eq rfl) (hb hby d16_5) (fun _ _ => ⟨rfl, e1, (by decide : 0 + 0 ≤ _), (by decide : 0 + 0 ≤ _)⟩)
  dsimp only [Pt.U, Pt.locs, Pt.cells, Pt.slots] at X2 l2 y2 z2 st2 hQ2
  subst l2 y2 z2
  obtain ⟨rfl, Nq2, eh2⟩ := hQ2
  have N2 := Fr.app N0 Nq2
  refine own_go (fun t_ kt_ => st2 _ kt_) ?_
  obtain ⟨lo2, X2g, N2g⟩ : ∃ lo, Stand p l e ({ frames := 2, cells := 0, slots := 0, locals := 27 } : Room) s m #[(.ref r0), (.int p1)] below meth c T2 lo 0 0 ∧ Fr n0 lo := ⟨_, X2, N2⟩
  have e2 : T2.heap = h0 := eh2
  show own_Go p e below s _ _ _ (T2.setTop (mkF m 8 #[.val (.ref r0), .val (.int p1)] [(.int p1)]))
  refine own_go (fun t_ kt_ => XS.pop X2g.here hx rfl (hb hby d16_8) rfl rfl kt_) ?_
  show own_Go p e below s _ _ _ (T2.setTop (mkF m 9 #[.val (.ref r0), .val (.int p1)] []))
  refine own_go (fun t_ kt_ => XS.aloadN X2g.here hx rfl (hb hby d16_9) rfl rfl kt_) ?_
  show own_Go p e below s _ _ _ (T2.setTop (mkF m 10 #[.val (.ref r0), .val (.int p1)] [(.ref r0)]))
  refine own_go (fun t_ kt_ => XS.iloadN X2g.here hx rfl (hb hby d16_10) rfl kt_) ?_
  show own_Go p e below s _ _ _ (T2.setTop (mkF m 11 #[.val (.ref r0), .val (.int p1)] [(.int p1), (.ref r0)]))
  obtain ⟨cq3, kq3, q3a, q3b, q3c⟩ := isOf hZ e2 E0
  obtain ⟨_, _, ⟨T3, L3, k3, n3⟩, -, X3, ⟨Lc3, hQ3, l3, y3, z3⟩, st3⟩ := X2g.virtualBack hx (y := (⟨"java/util/ArrayList", "elementData", "(I)Ljava/lang/Object;"⟩ : MethodName)) (z := (⟨"java/util/ArrayList", "elementData", "(I)Ljava/lang/Object;"⟩ : MethodName)) hown (mvT hZ (hw _ (List.mem_of_getElem? (i := 162) rfl))) (mvT hZ (hw _ (List.mem_of_getElem? (i := 163) rfl))) (notFace_of_selects (args := #[]) (mvT hZ (hw _ (List.mem_of_getElem? (i := 165) rfl)))) (mvT hZ (hw _ (List.mem_of_getElem? (i := 165) rfl))) (mvT hZ (hw _ (List.mem_of_getElem? (i := 164) rfl))) (by decide) (backOf (W := 0) (rm19 l Z a0 hw [] (r0) (p1) (ba) (f) (k) (ek) h0 n0 Z0 D0 VB kz k10 fk) hZ (hw _ (List.mem_of_getElem? (i := 166) rfl)) (hw _ (List.mem_of_getElem? (i := 2) rfl)) (by decide) (by decide)) q3a q3c (g := (mkF m 11 #[.val (.ref r0), .val (.int p1)] [(.int p1), (.ref r0)])) rfl (by rw [hml]; rfl) (Steps.refl _) (argsL := [(.int p1)]) (rest := []) (lenOf pd_6 rfl) rfl (by show 2 * 0 + _ ≤ _; exact Nat.le_of_eq rfl) (hb hby d16_11) (fun _ _ => ⟨rfl, e2, (by decide : 0 + 0 ≤ _), (by decide : 0 + 0 ≤ _)⟩)
  dsimp only [Pt.U, Pt.locs, Pt.cells, Pt.slots] at X3 l3 y3 z3 st3 hQ3
  subst l3 y3 z3
  obtain ⟨rfl, Nq3, eh3⟩ := hQ3
  have N3 := Fr.app N2g Nq3
  refine own_go (fun t_ kt_ => st3.trans kt_) ?_
  obtain ⟨lo3, X3g, N3g⟩ : ∃ lo, Stand p l e ({ frames := 2, cells := 0, slots := 0, locals := 27 } : Room) s m #[(.ref r0), (.int p1)] below meth c T3 lo 0 0 ∧ Fr n0 lo := ⟨_, X3, N3⟩
  have e3 : T3.heap = h0 := eh3
  show own_Go p e below s _ _ _ (T3.setTop (mkF m 14 #[.val (.ref r0), .val (.int p1)] [(.ref ek)]))
  refine own_ret X3g (v := some (.ref ek)) (fun h => by rw [hret] at h; cases h) hlk ?_ (by decide) (by decide) (fun fs hr => X3g.areturnOut hx rfl hret rfl (hb hby d16_14) hr)
  show Q16 Z r0 p1 ba f k ek sz h0 n0 (some (.ref ek)) T3.heap _
  rw [e3]
  exact ⟨rfl, N3g, rfl⟩
theorem d20_0 : decode prog_6_method_8_code 0 = .ok (.aload_n 0, 1) := by decide +kernel
theorem d20_1 : decode prog_6_method_8_code 1 = .ok (.getfield 16, 3) := by decide +kernel
theorem d20_4 : decode prog_6_method_8_code 4 = .ok (.ireturn, 1) := by decide +kernel
theorem ef_20 (m : MethodId) (r0 : Addr) : entryFrame m #[(.ref r0)] 1 = mkF m 0 #[.val (.ref r0)] [] := by first | (simp [entryFrame, mkF, argsToLocals, Value.category]; done) | rfl
def Q20 (Z : State) (r0 : Addr) (x : Int32) (h0 : Heap) (n0 : Nat) (v : Option Value) (h : Heap) (L : List Loc) : Prop := v = some (.int x) ∧ Fr n0 L ∧ h = h0
set_option maxRecDepth 65536 in
set_option maxHeartbeats 40000000 in
theorem rm20 (l : Launch) (Z : State) (a0 : Array Value) (hw : ∀ d ∈ tables_1, d.before a0 Z = true) (ws : List Jvm.Cond) (r0 : Addr) (x : Int32) (h0 : Heap) (n0 : Nat) (Z0 : n0 ≤ h0.size) (F0 : Fld Z h0 r0 "com/example/lint_for_clocks/lintforclocks/model/Edge" "line" "I" (.int x)) :
    MetFree l (⟨"com/example/lint_for_clocks/lintforclocks/model/Edge", "line", "()I"⟩ : MethodName) (head1 (Jvm.Cond.code (⟨"com/example/lint_for_clocks/lintforclocks/model/Edge", "line", "()I"⟩ : MethodName) prog_6_method_8_code 1 (some .int) :: ws) ({ frames := 0, cells := 0, slots := 0, locals := 0 } : Room)) (fun a U => a = #[(.ref r0)] ∧ Z.Warmed39 U.vm ∧ U.heap = h0) (fun _ _ _ _ _ => True) (fun _ U o U' => ∃ v L, o = .returned v ∧ Q20 Z r0 x h0 n0 v U'.heap L ∧ FrameEnd U o U' L (({ frames := 0, cells := 0, slots := 0, locals := 0 } : Room)).cells (({ frames := 0, cells := 0, slots := 0, locals := 0 } : Room)).slots) := by
  refine MetFree.of_bodySF (plainFor_of_name pn_4) hisR ?_
  intro p e s m args below meth c s₁ Bd hml0 hP hK
  obtain ⟨rfl, hZ, hh⟩ := hP
  have hx := Bd.exec
  have hby := Bd.bytes
  have hml : c.maxLocals = 1 := hml0
  have hown : s.vm.findClass "com/example/lint_for_clocks/lintforclocks/model/Edge" = some m.cls := findClass_of_methodNamed Bd.named
  have hnm := (name_of_methodNamed Bd.named Bd.method).1
  have hlk : meth.locks = false := Bd.notSynchronized
  have X0 : Stand p l e ({ frames := 0, cells := 0, slots := 0, locals := 0 } : Room) s m #[(.ref r0)] below meth c s₁ [] 0 0 := Stand.of_body Bd
  have e0 : s₁.heap = h0 := by rw [← hh, Bd.state]; rfl
  have N0 := Fr.nil n0
  have hret := Bd.returns
  show own_Go p e below s (Q20 Z r0 x h0 n0) _ _ (s₁.setTop (entryFrame m #[(.ref r0)] 1))
  refine own_go (fun t k => castTop (ef_20 m r0) k) ?_
  show own_Go p e below s _ _ _ (s₁.setTop (mkF m 0 #[.val (.ref r0)] []))
  refine own_go (fun t_ kt_ => XS.aloadN X0.here hx rfl (hb hby d20_0) rfl rfl kt_) ?_
  show own_Go p e below s _ _ _ (s₁.setTop (mkF m 1 #[.val (.ref r0)] [(.ref r0)]))
  obtain ⟨T1, X1, e1, st1⟩ := getF X0 hx hZ hown (host := "") (Or.inl (hw _ (List.mem_of_getElem? (i := 51) rfl))) Via.refl e0 F0 (g := (mkF m 1 #[.val (.ref r0)] [(.ref r0)])) rfl rfl (hb hby d20_1)
  refine own_go (fun t_ kt_ => st1 _ kt_) ?_
  show own_Go p e below s _ _ _ (T1.setTop (mkF m 4 #[.val (.ref r0)] [(.int x)]))
  refine own_ret X1 (v := some (.int x)) (fun h => by rw [hret] at h; cases h) hlk ?_ (by decide) (by decide) (fun fs hr => retI X1 hx hret (hb hby d20_4) hr)
  show Q20 Z r0 x h0 n0 (some (.int x)) T1.heap _
  rw [e1]
  exact ⟨rfl, N0, rfl⟩
theorem own_k3 {z : Int32} {k : Nat} (h : z.toInt = (k : Int)) (q : k < 3) : ¬ z < (0 : Int32) ∧ z < (3 : Int32) := by
  have e0 : (0 : Int32).toInt = 0 := by decide
  have e3 : (3 : Int32).toInt = 3 := by decide
  exact ⟨fun e => by have := Int32.lt_iff_toInt_lt.mp e; omega, Int32.lt_iff_toInt_lt.mpr (by omega)⟩
theorem d14_0 : decode prog_74_method_4_code 0 = .ok (.aload_n 0, 1) := by decide +kernel
theorem d14_1 : decode prog_74_method_4_code 1 = .ok (.getfield 7, 3) := by decide +kernel
theorem d14_4 : decode prog_74_method_4_code 4 = .ok (.invokevirtual 21, 3) := by decide +kernel
theorem pd_7 : parseMethodDescriptor "()Ljava/util/List;" = some ⟨[], some (.object "java/util/List")⟩ := by decide +kernel
theorem d14_7 : decode prog_74_method_4_code 7 = .ok (.aload_n 0, 1) := by decide +kernel
theorem d14_8 : decode prog_74_method_4_code 8 = .ok (.getfield 17, 3) := by decide +kernel
theorem d14_11 : decode prog_74_method_4_code 11 = .ok (.iconst 0, 1) := by decide +kernel
theorem d14_12 : decode prog_74_method_4_code 12 = .ok (.iaload, 1) := by decide +kernel
theorem d14_13 : decode prog_74_method_4_code 13 = .ok (.invokeinterface 26 2, 5) := by decide +kernel
theorem d14_18 : decode prog_74_method_4_code 18 = .ok (.checkcast 32, 3) := by decide +kernel
theorem d14_21 : decode prog_74_method_4_code 21 = .ok (.invokevirtual 34, 3) := by decide +kernel
theorem pd_8 : parseMethodDescriptor "()I" = some ⟨[], some .int⟩ := by decide +kernel
theorem d14_24 : decode prog_74_method_4_code 24 = .ok (.ireturn, 1) := by decide +kernel
theorem ef_14 (m : MethodId) (r0 : Addr) : entryFrame m #[(.ref r0)] 1 = mkF m 0 #[.val (.ref r0)] [] := by first | (simp [entryFrame, mkF, argsToLocals, Value.category]; done) | rfl
def Q14 (Z : State) (r0 : Addr) (te : Addr) (al : Addr) (ed : Addr) (fe : Nat → Value) (i0 : Int32) (ba : Addr) (f : Nat → Value) (k : Nat) (ek : Addr) (x : Int32) (h0 : Heap) (n0 : Nat) (v : Option Value) (h : Heap) (L : List Loc) : Prop := v = some (.int x) ∧ Fr n0 L ∧ h = h0
set_option maxRecDepth 65536 in
set_option maxHeartbeats 40000000 in
theorem rm14 (l : Launch) (Z : State) (a0 : Array Value) (hw : ∀ d ∈ tables_1, d.before a0 Z = true) (ws : List Jvm.Cond) (r0 : Addr) (te : Addr) (al : Addr) (ed : Addr) (fe : Nat → Value) (i0 : Int32) (ba : Addr) (f : Nat → Value) (k : Nat) (ek : Addr) (x : Int32) (h0 : Heap) (n0 : Nat) (Z0 : n0 ≤ h0.size) (F1 : Fld Z h0 r0 "com/example/lint_for_clocks/lintforclocks/rules/Loop" "template" "Lcom/example/lint_for_clocks/lintforclocks/model/Template;" (.ref te)) (F2 : Fld Z h0 r0 "com/example/lint_for_clocks/lintforclocks/rules/Loop" "edges" "[I" (.ref ed)) (E1_ : Exa Z h0 te "com/example/lint_for_clocks/lintforclocks/model/Template") (F3 : Fld Z h0 te "com/example/lint_for_clocks/lintforclocks/model/Template" "edges" "Ljava/util/List;" (.ref al)) (E2_ : Exa Z h0 al "java/util/ArrayList") (VE : own_Ary Z h0 ed .int 2 fe) (fe0 : fe 0 = .int i0) (F4 : Fld Z h0 al "java/util/ArrayList" "size" "I" (.int (3 : Int32))) (F5 : Fld Z h0 al "java/util/ArrayList" "elementData" "[Ljava/lang/Object;" (.ref ba)) (VB : own_Ary Z h0 ba (.object "java/lang/Object") 10 f) (kz : i0.toInt = (k : Int)) (k3 : k < 3) (fk : f k = .ref ek) (E3_ : Exa Z h0 ek "com/example/lint_for_clocks/lintforclocks/model/Edge") (F6 : Fld Z h0 ek "com/example/lint_for_clocks/lintforclocks/model/Edge" "line" "I" (.int x)) :
    MetFree l (⟨"com/example/lint_for_clocks/lintforclocks/rules/Loop", "line", "()I"⟩ : MethodName) (head1 (Jvm.Cond.code (⟨"com/example/lint_for_clocks/lintforclocks/rules/Loop", "line", "()I"⟩ : MethodName) prog_74_method_4_code 1 (some .int) :: ws) ({ frames := 3, cells := 0, slots := 0, locals := 40 } : Room)) (fun a U => a = #[(.ref r0)] ∧ Z.Warmed39 U.vm ∧ U.heap = h0) (fun _ _ _ _ _ => True) (fun _ U o U' => ∃ v L, o = .returned v ∧ Q14 Z r0 te al ed fe i0 ba f k ek x h0 n0 v U'.heap L ∧ FrameEnd U o U' L (({ frames := 3, cells := 0, slots := 0, locals := 40 } : Room)).cells (({ frames := 3, cells := 0, slots := 0, locals := 40 } : Room)).slots) := by
  refine MetFree.of_bodySF (plainFor_of_name pn_6) hisR ?_
  intro p e s m args below meth c s₁ Bd hml0 hP hK
  obtain ⟨rfl, hZ, hh⟩ := hP
  have hx := Bd.exec
  have hby := Bd.bytes
  have hml : c.maxLocals = 1 := hml0
  have hown : s.vm.findClass "com/example/lint_for_clocks/lintforclocks/rules/Loop" = some m.cls := findClass_of_methodNamed Bd.named
  have hnm := (name_of_methodNamed Bd.named Bd.method).1
  have hlk : meth.locks = false := Bd.notSynchronized
  have X0 : Stand p l e ({ frames := 3, cells := 0, slots := 0, locals := 40 } : Room) s m #[(.ref r0)] below meth c s₁ [] 0 0 := Stand.of_body Bd
  have e0 : s₁.heap = h0 := by rw [← hh, Bd.state]; rfl
  have N0 := Fr.nil n0
  have hret := Bd.returns
  show own_Go p e below s (Q14 Z r0 te al ed fe i0 ba f k ek x h0 n0) _ _ (s₁.setTop (entryFrame m #[(.ref r0)] 1))
  refine own_go (fun t k => castTop (ef_14 m r0) k) ?_
  show own_Go p e below s _ _ _ (s₁.setTop (mkF m 0 #[.val (.ref r0)] []))
  refine own_go (fun t_ kt_ => XS.aloadN X0.here hx rfl (hb hby d14_0) rfl rfl kt_) ?_
  show own_Go p e below s _ _ _ (s₁.setTop (mkF m 1 #[.val (.ref r0)] [(.ref r0)]))
  obtain ⟨T1, X1, e1, st1⟩ := getF X0 hx hZ hown (host := "") (Or.inl (hw _ (List.mem_of_getElem? (i := 130) rfl))) Via.refl e0 F1 (g := (mkF m 1 #[.val (.ref r0)] [(.ref r0)])) rfl rfl (hb hby d14_1)
  refine own_go (fun t_ kt_ => st1 _ kt_) ?_
  show own_Go p e below s _ _ _ (T1.setTop (mkF m 4 #[.val (.ref r0)] [(.ref te)]))
  obtain ⟨cq2, kq2, q2a, q2b, q2c⟩ := isOf hZ e1 E1_
  obtain ⟨_, _, ⟨T2, L2, k2, n2⟩, -, X2, ⟨Lc2, hQ2, l2, y2, z2⟩, st2⟩ := X1.virtualBack hx (y := (⟨"com/example/lint_for_clocks/lintforclocks/model/Template", "edges", "()Ljava/util/List;"⟩ : MethodName)) (z := (⟨"com/example/lint_for_clocks/lintforclocks/model/Template", "edges", "()Ljava/util/List;"⟩ : MethodName)) hown (mvT hZ (hw _ (List.mem_of_getElem? (i := 141) rfl))) (mvT hZ (hw _ (List.mem_of_getElem? (i := 142) rfl))) (notFace_of_selects (args := #[]) (mvT hZ (hw _ (List.mem_of_getElem? (i := 144) rfl)))) (mvT hZ (hw _ (List.mem_of_getElem? (i := 144) rfl))) (mvT hZ (hw _ (List.mem_of_getElem? (i := 143) rfl))) (by decide) (backOf (W := 0) (rm15 l Z a0 hw [] (te) (al) h0 n0 Z0 F3) hZ (hw _ (List.mem_of_getElem? (i := 145) rfl)) (hw _ (List.mem_of_getElem? (i := 101) rfl)) (by decide) (by decide)) q2a q2c (g := (mkF m 4 #[.val (.ref r0)] [(.ref te)])) rfl (by rw [hml]; rfl) (Steps.refl _) (argsL := []) (rest := []) (lenOf pd_7 rfl) rfl (by show 2 * 0 + _ ≤ _; exact Nat.le_of_eq rfl) (hb hby d14_4) (fun _ _ => ⟨rfl, e1, (by decide : 0 + 0 ≤ _), (by decide : 0 + 0 ≤ _)⟩)
  dsimp only [Pt.U, Pt.locs, Pt.cells, Pt.slots] at X2 l2 y2 z2 st2 hQ2
  subst l2 y2 z2
  obtain ⟨rfl, Nq2, eh2⟩ := hQ2
  have N2 := Fr.app N0 Nq2
  refine own_go (fun t_ kt_ => st2.trans kt_) ?_
  obtain ⟨lo2, X2g, N2g⟩ : ∃ lo, Stand p l e ({ frames := 3, cells := 0, slots := 0, locals := 40 } : Room) s m #[(.ref r0)] below meth c T2 lo 0 0 ∧ Fr n0 lo := ⟨_, X2, N2⟩
  have e2 : T2.heap = h0 := eh2
  show own_Go p e below s _ _ _ (T2.setTop (mkF m 7 #[.val (.ref r0)] [(.ref al)]))
  refine own_go (fun t_ kt_ => XS.aloadN X2g.here hx rfl (hb hby d14_7) rfl rfl kt_) ?_
  show own_Go p e below s _ _ _ (T2.setTop (mkF m 8 #[.val (.ref r0)] [(.ref r0), (.ref al)]))
  obtain ⟨T3, X3, e3, st3⟩ := getF X2g hx hZ hown (host := "") (Or.inl (hw _ (List.mem_of_getElem? (i := 134) rfl))) Via.refl e2 F2 (g := (mkF m 8 #[.val (.ref r0)] [(.ref r0), (.ref al)])) rfl rfl (hb hby d14_8)
  refine own_go (fun t_ kt_ => st3 _ kt_) ?_
  show own_Go p e below s _ _ _ (T3.setTop (mkF m 11 #[.val (.ref r0)] [(.ref ed), (.ref al)]))
  refine own_go (fun t_ kt_ => XS.iconst X3.here hx rfl (hb hby d14_11) kt_) ?_
  show own_Go p e below s _ _ _ (T3.setTop (mkF m 12 #[.val (.ref r0)] [(.int (0 : Int32)), (.ref ed), (.ref al)]))
  obtain ⟨ce4, Ar4, S4, G4⟩ := id VE
  have q4 : ce4.slots[((0 : Int32)).toNatClampNeg]? = some (.int i0) := by rw [own_cl (j := (0 : Int32)) (i := 0) (by decide)]; exact (G4 _ (by decide)).trans (congrArg some (fe0))
  refine own_go (fun t_ kt_ => X3.iaload hx (j := (0 : Int32)) (v := (.int i0)) (by rw [e3]; exact Ar4.1) (State.isArrayOf_alike hZ.alike Ar4.2.1) Ar4.2.2 (own_in (i := 0) S4 (by decide) (by decide)) q4 (g := (mkF m 12 #[.val (.ref r0)] [(.int (0 : Int32)), (.ref ed), (.ref al)])) rfl rfl (hb hby d14_12) _ kt_) ?_
  show own_Go p e below s _ _ _ (T3.setTop (mkF m 13 #[.val (.ref r0)] [(.int i0), (.ref al)]))
  obtain ⟨cq5, kq5, q5a, q5b, q5c⟩ := isOf hZ e3 E2_
  obtain ⟨_, _, ⟨T5, L5, k5, n5⟩, -, X5, ⟨Lc5, hQ5, l5, y5, z5⟩, st5⟩ := X3.interfaceBack hx (xi := (⟨"java/util/List", "get", "(I)Ljava/lang/Object;"⟩ : MethodName)) (y := (⟨"java/util/ArrayList", "get", "(I)Ljava/lang/Object;"⟩ : MethodName)) hown (mvT hZ (hw _ (List.mem_of_getElem? (i := 146) rfl))) (mvT hZ (hw _ (List.mem_of_getElem? (i := 147) rfl))) (mvT hZ (hw _ (List.mem_of_getElem? (i := 148) rfl))) (mvT hZ (hw _ (List.mem_of_getElem? (i := 149) rfl))) (mvT hZ (hw _ (List.mem_of_getElem? (i := 150) rfl))) (mvT hZ (hw _ (List.mem_of_getElem? (i := 151) rfl))) (mvT hZ (hw _ (List.mem_of_getElem? (i := 152) rfl))) (mvT hZ (hw _ (List.mem_of_getElem? (i := 70) rfl))) (by decide) (backOf (W := 0) (rm16 l Z a0 hw [] (al) (i0) (ba) (f) (k) (ek) ((3 : Int32)) h0 n0 Z0 F5 VB kz (Nat.lt_trans k3 (by decide)) fk F4 E2_ (own_k3 kz k3).1 (own_k3 kz k3).2) hZ (hw _ (List.mem_of_getElem? (i := 153) rfl)) (hw _ (List.mem_of_getElem? (i := 2) rfl)) (by decide) (by decide)) q5a q5b q5c (g := (mkF m 13 #[.val (.ref r0)] [(.int i0), (.ref al)])) rfl (by rw [hml]; rfl) (Steps.refl _) (argsL := [(.int i0)]) (rest := []) (lenOf pd_6 rfl) rfl (by show 2 * 0 + _ ≤ _; exact Nat.le_of_eq rfl) (hb hby d14_13) (fun _ _ => ⟨rfl, e3, (by decide : 0 + 0 ≤ _), (by decide : 0 + 0 ≤ _)⟩)
  dsimp only [Pt.U, Pt.locs, Pt.cells, Pt.slots] at X5 l5 y5 z5 st5 hQ5
  subst l5 y5 z5
  obtain ⟨rfl, Nq5, eh5⟩ := hQ5
  have N5 := Fr.app N2g Nq5
  refine own_go (fun t_ kt_ => st5.trans kt_) ?_
  obtain ⟨lo5, X5g, N5g⟩ : ∃ lo, Stand p l e ({ frames := 3, cells := 0, slots := 0, locals := 40 } : Room) s m #[(.ref r0)] below meth c T5 lo 0 0 ∧ Fr n0 lo := ⟨_, X5, N5⟩
  have e5 : T5.heap = h0 := eh5
  show own_Go p e below s _ _ _ (T5.setTop (mkF m 18 #[.val (.ref r0)] [(.ref ek)]))
  obtain ⟨T6, X6, e6, st6⟩ := castY X5g hx hZ hown (hw _ (List.mem_of_getElem? (i := 167) rfl)) e5 (Ins.self E3_) (g := (mkF m 18 #[.val (.ref r0)] [(.ref ek)])) rfl rfl (hb hby d14_18)
  refine own_go (fun t_ kt_ => st6 _ kt_) ?_
  show own_Go p e below s _ _ _ (T6.setTop (mkF m 21 #[.val (.ref r0)] [(.ref ek)]))
  obtain ⟨cq7, kq7, q7a, q7b, q7c⟩ := isOf hZ e6 E3_
  obtain ⟨_, _, ⟨T7, L7, k7, n7⟩, -, X7, ⟨Lc7, hQ7, l7, y7, z7⟩, st7⟩ := X6.virtualBack hx (y := (⟨"com/example/lint_for_clocks/lintforclocks/model/Edge", "line", "()I"⟩ : MethodName)) (z := (⟨"com/example/lint_for_clocks/lintforclocks/model/Edge", "line", "()I"⟩ : MethodName)) hown (mvT hZ (hw _ (List.mem_of_getElem? (i := 169) rfl))) (mvT hZ (hw _ (List.mem_of_getElem? (i := 170) rfl))) (notFace_of_selects (args := #[]) (mvT hZ (hw _ (List.mem_of_getElem? (i := 172) rfl)))) (mvT hZ (hw _ (List.mem_of_getElem? (i := 172) rfl))) (mvT hZ (hw _ (List.mem_of_getElem? (i := 171) rfl))) (by decide) (backOf (W := 0) (rm20 l Z a0 hw [] (ek) (x) h0 n0 Z0 F6) hZ (hw _ (List.mem_of_getElem? (i := 173) rfl)) (hw _ (List.mem_of_getElem? (i := 28) rfl)) (by decide) (by decide)) q7a q7c (g := (mkF m 21 #[.val (.ref r0)] [(.ref ek)])) rfl (by rw [hml]; rfl) (Steps.refl _) (argsL := []) (rest := []) (lenOf pd_8 rfl) rfl (by show 2 * 0 + _ ≤ _; exact Nat.le_of_eq rfl) (hb hby d14_21) (fun _ _ => ⟨rfl, e6, (by decide : 0 + 0 ≤ _), (by decide : 0 + 0 ≤ _)⟩)
  dsimp only [Pt.U, Pt.locs, Pt.cells, Pt.slots] at X7 l7 y7 z7 st7 hQ7
  subst l7 y7 z7
  obtain ⟨rfl, Nq7, eh7⟩ := hQ7
  have N7 := Fr.app N5g Nq7
  refine own_go (fun t_ kt_ => st7.trans kt_) ?_
  obtain ⟨lo7, X7g, N7g⟩ : ∃ lo, Stand p l e ({ frames := 3, cells := 0, slots := 0, locals := 40 } : Room) s m #[(.ref r0)] below meth c T7 lo 0 0 ∧ Fr n0 lo := ⟨_, X7, N7⟩
  have e7 : T7.heap = h0 := eh7
  show own_Go p e below s _ _ _ (T7.setTop (mkF m 24 #[.val (.ref r0)] [(.int x)]))
  refine own_ret X7g (v := some (.int x)) (fun h => by rw [hret] at h; cases h) hlk ?_ (by decide) (by decide) (fun fs hr => retI X7g hx hret (hb hby d14_24) hr)
  show Q14 Z r0 te al ed fe i0 ba f k ek x h0 n0 (some (.int x)) T7.heap _
  rw [e7]
  exact ⟨rfl, N7g, rfl⟩
theorem pn_9 : plainName "com/example/lint_for_clocks/lintforclocks/rules/LoopLinePinLaw" = true := by first | (simp [plainName, overriddenIn]; done) | decide +kernel
theorem pd_9 : parseMethodDescriptor "(Ljava/lang/String;Ljava/lang/String;ILjava/util/List;Ljava/util/List;Lcom/example/lint_for_clocks/lintforclocks/model/Expr;Lcom/example/lint_for_clocks/lintforclocks/model/Synchronisation;Ljava/util/List;)V" = some ⟨[(.object "java/lang/String"), (.object "java/lang/String"), .int, (.object "java/util/List"), (.object "java/util/List"), (.object "com/example/lint_for_clocks/lintforclocks/model/Expr"), (.object "com/example/lint_for_clocks/lintforclocks/model/Synchronisation"), (.object "java/util/List")], none⟩ := by decide +kernel
theorem pd_10 : parseMethodDescriptor "(Ljava/lang/Object;)Z" = some ⟨[(.object "java/lang/Object")], some .boolean⟩ := by decide +kernel
theorem pd_11 : parseMethodDescriptor "(Ljava/lang/String;ILjava/util/List;Ljava/util/List;Ljava/util/List;Ljava/util/List;Ljava/util/List;)V" = some ⟨[(.object "java/lang/String"), .int, (.object "java/util/List"), (.object "java/util/List"), (.object "java/util/List"), (.object "java/util/List"), (.object "java/util/List")], none⟩ := by decide +kernel
theorem pd_12 : parseMethodDescriptor "(Lcom/example/lint_for_clocks/lintforclocks/model/Template;Ljava/util/Map;[I)V" = some ⟨[(.object "com/example/lint_for_clocks/lintforclocks/model/Template"), (.object "java/util/Map"), (.array .int)], none⟩ := by decide +kernel
theorem ef_0 (m : MethodId) (p0 : Int32) (p1 : Int32) (p2 : Int32) (p3 : Int32) (p4 : Int32) (p5 : Int32) : entryFrame m #[(.int p0), (.int p1), (.int p2), (.int p3), (.int p4), (.int p5)] maxLocals = mkF m 0 #[.val (.int p0), .val (.int p1), .val (.int p2), .val (.int p3), .val (.int p4), .val (.int p5), .unset, .unset, .unset, .unset, .unset, .unset, .unset] [] := by first | (simp [entryFrame, mkF, argsToLocals, Value.category, maxLocals]; done) | rfl
def Q0 (Z : State) (p0 : Int32) (p1 : Int32) (p2 : Int32) (p3 : Int32) (p4 : Int32) (p5 : Int32) (dea : Addr) (fd : Nat → Value) (h0 : Heap) (n0 : Nat) (v : Option Value) (h : Heap) (L : List Loc) : Prop := v = some (.int 1) ∧ Fr n0 L
set_option maxRecDepth 65536 in
set_option maxHeartbeats 40000000 in
theorem rm0 (l : Launch) (Z : State) (a0 : Array Value) (hw : ∀ d ∈ tables_1, d.before a0 Z = true) (ws : List Jvm.Cond) (p0 : Int32) (p1 : Int32) (p2 : Int32) (p3 : Int32) (p4 : Int32) (p5 : Int32) (dea : Addr) (fd : Nat → Value) (h0 : Heap) (n0 : Nat) (Z0 : n0 ≤ h0.size) (SD : Sta Z h0 "java/util/ArrayList" "DEFAULTCAPACITY_EMPTY_ELEMENTDATA" "[Ljava/lang/Object;" (.ref dea)) (AD : own_Ary Z h0 dea (.object "java/lang/Object") 0 fd) :
    MetFree l x (head1 (Jvm.Cond.code x code maxLocals ret :: ws) room_1) (fun a U => a = #[(.int p0), (.int p1), (.int p2), (.int p3), (.int p4), (.int p5)] ∧ Z.Warmed39 U.vm ∧ U.heap = h0) (fun _ _ _ _ _ => True) (fun _ U o U' => ∃ v L, o = .returned v ∧ Q0 Z p0 p1 p2 p3 p4 p5 dea fd h0 n0 v U'.heap L ∧ ReturnedEndW U o U' L (room_1).cells (room_1).slots) := by
  refine MetFree.of_bodySF (plainFor_of_name pn_9) hisR ?_
  intro p e s m args below meth c s₁ Bd hml0 hP hK
  obtain ⟨rfl, hZ, hh⟩ := hP
  have hx := Bd.exec
  have hby := Bd.bytes
  have hml : c.maxLocals = 13 := hml0
  have hown : s.vm.findClass "com/example/lint_for_clocks/lintforclocks/rules/LoopLinePinLaw" = some m.cls := findClass_of_methodNamed Bd.named
  have hnm := (name_of_methodNamed Bd.named Bd.method).1
  have hlk : meth.locks = false := Bd.notSynchronized
  have X0 : Stand p l e room_1 s m #[(.int p0), (.int p1), (.int p2), (.int p3), (.int p4), (.int p5)] below meth c s₁ [] 0 0 := Stand.of_body Bd
  have e0 : s₁.heap = h0 := by rw [← hh, Bd.state]; rfl
  have N0 := Fr.nil n0
  have hret := Bd.returns
  show own_GoW p e below s (Q0 Z p0 p1 p2 p3 p4 p5 dea fd h0 n0) _ _ (s₁.setTop (entryFrame m #[(.int p0), (.int p1), (.int p2), (.int p3), (.int p4), (.int p5)] maxLocals))
  refine own_goW (fun t k => castTop (ef_0 m p0 p1 p2 p3 p4 p5) k) ?_
  show own_GoW p e below s _ _ _ (s₁.setTop (mkF m 0 #[.val (.int p0), .val (.int p1), .val (.int p2), .val (.int p3), .val (.int p4), .val (.int p5), .unset, .unset, .unset, .unset, .unset, .unset, .unset] []))
  obtain ⟨T1, h1, X1, e1, E1, A1, D1, U1, st1⟩ := newO X0 hx hZ hown (hw _ (List.mem_of_getElem? (i := 0) rfl)) (hw _ (List.mem_of_getElem? (i := 1) rfl)) (hw _ (List.mem_of_getElem? (i := 2) rfl)) e0 (g := (mkF m 0 #[.val (.int p0), .val (.int p1), .val (.int p2), .val (.int p3), .val (.int p4), .val (.int p5), .unset, .unset, .unset, .unset, .unset, .unset, .unset] [])) rfl (hb hby at_0) (by decide) (by decide)
  obtain ⟨al, g1⟩ : ∃ z, z = h0.size := ⟨_, rfl⟩
  rw [← g1] at A1 D1 U1 st1
  refine own_goW (fun t_ kt_ => st1 _ kt_) ?_
  have gt_al : n0 ≤ al := Nat.le_trans Z0 (Nat.le_of_eq g1.symm)
  have ne_dea_al : dea ≠ al := Nat.ne_of_lt (Nat.lt_of_lt_of_le AD.lt (Nat.le_of_eq g1.symm))
  have ZZ_1 : n0 ≤ h1.size := Nat.le_trans Z0 E1.1
  have S_DEFAULTCAPACITY_EMPTY_ELEMENTDATA_1 : Sta Z h1 "java/util/ArrayList" "DEFAULTCAPACITY_EMPTY_ELEMENTDATA" "[Ljava/lang/Object;" (.ref dea) := SD.ext E1
  have VD_1 : own_Ary Z h1 dea (.object "java/lang/Object") 0 fd := AD.ext E1
  have F_modCount_al : Fld Z h1 al "java/util/AbstractList" "modCount" "I" (.int (0 : Int32)) := D1 (Or.inl (hw _ (List.mem_of_getElem? (i := 22) rfl))) (ty := .int) (by decide)
  have F_elementData_al : Fld Z h1 al "java/util/ArrayList" "elementData" "[Ljava/lang/Object;" .null := D1 (Or.inl (hw _ (List.mem_of_getElem? (i := 25) rfl))) (ty := (.array (.object "java/lang/Object"))) (by decide)
  have F_size_al : Fld Z h1 al "java/util/ArrayList" "size" "I" (.int (0 : Int32)) := D1 (Or.inl (hw _ (List.mem_of_getElem? (i := 75) rfl))) (ty := .int) (by decide)
  show own_GoW p e below s _ _ _ (T1.setTop (mkF m 3 #[.val (.int p0), .val (.int p1), .val (.int p2), .val (.int p3), .val (.int p4), .val (.int p5), .unset, .unset, .unset, .unset, .unset, .unset, .unset] [(.ref al)]))
  refine own_goW (fun t_ kt_ => XS.dup X1.here hx rfl (hb hby at_3) rfl rfl kt_) ?_
  show own_GoW p e below s _ _ _ (T1.setTop (mkF m 4 #[.val (.int p0), .val (.int p1), .val (.int p2), .val (.int p3), .val (.int p4), .val (.int p5), .unset, .unset, .unset, .unset, .unset, .unset, .unset] [(.ref al), (.ref al)]))
  obtain ⟨_, _, ⟨T2, L2, k2, n2⟩, -, X2, ⟨Lc2, hQ2, l2, y2, z2⟩, st2⟩ := X1.specialBack hx (y := (⟨"java/util/ArrayList", "<init>", "()V"⟩ : MethodName)) rfl hown (mvT hZ (hw _ (List.mem_of_getElem? (i := 3) rfl))) (mvT hZ (hw _ (List.mem_of_getElem? (i := 4) rfl))) (mvT hZ (hw _ (List.mem_of_getElem? (i := 5) rfl))) (by decide) (backOf (W := 1) (rm1 l Z a0 hw [] (al) (dea) h1 n0 ZZ_1 F_modCount_al F_elementData_al F_size_al A1 gt_al S_DEFAULTCAPACITY_EMPTY_ELEMENTDATA_1) hZ (hw _ (List.mem_of_getElem? (i := 5) rfl)) (hw _ (List.mem_of_getElem? (i := 2) rfl)) (by decide) (by decide)) (g := (mkF m 4 #[.val (.int p0), .val (.int p1), .val (.int p2), .val (.int p3), .val (.int p4), .val (.int p5), .unset, .unset, .unset, .unset, .unset, .unset, .unset] [(.ref al), (.ref al)])) rfl (by rw [hml]; rfl) (Steps.refl _) (a := al) (argsL := []) (rest := [(.ref al)]) (lenOf pd_0 rfl) rfl (by show 2 * 0 + _ ≤ _; exact Nat.le_of_eq rfl) (hb hby at_4) (fun _ _ => ⟨rfl, e1, (by decide : 1 + 0 ≤ _), (by decide : 3 + 0 ≤ _)⟩)
  dsimp only [Pt.U, Pt.locs, Pt.cells, Pt.slots] at X2 l2 y2 z2 st2 hQ2
  subst l2 y2 z2
  obtain ⟨rfl, Nq2, Kq2, Fq2a, Fq2b, Fq2c⟩ := hQ2
  have N2 := Fr.app N0 Nq2
  refine own_goW (fun t_ kt_ => st2.trans kt_) ?_
  obtain ⟨lo2, X2g, N2g⟩ : ∃ lo, Stand p l e room_1 s m #[(.int p0), (.int p1), (.int p2), (.int p3), (.int p4), (.int p5)] below meth c T2 lo 1 3 ∧ Fr n0 lo := ⟨_, X2, N2⟩
  obtain ⟨h2, e2⟩ : ∃ z, T2.heap = z := ⟨_, rfl⟩
  rw [e2] at Kq2 Fq2a Fq2b Fq2c
  have ZZ_2 : n0 ≤ h2.size := Nat.le_trans ZZ_1 Kq2.1
  have S_DEFAULTCAPACITY_EMPTY_ELEMENTDATA_2 : Sta Z h2 "java/util/ArrayList" "DEFAULTCAPACITY_EMPTY_ELEMENTDATA" "[Ljava/lang/Object;" (.ref dea) := own_sta_keepN S_DEFAULTCAPACITY_EMPTY_ELEMENTDATA_1 Kq2 A1
  have VD_2 : own_Ary Z h2 dea (.object "java/lang/Object") 0 fd := VD_1.keep Kq2 (ninS ne_dea_al nin0)
  have E_al_2 : Exa Z h2 al "java/util/ArrayList" := A1.keep Kq2
  show own_GoW p e below s _ _ _ (T2.setTop (mkF m 7 #[.val (.int p0), .val (.int p1), .val (.int p2), .val (.int p3), .val (.int p4), .val (.int p5), .unset, .unset, .unset, .unset, .unset, .unset, .unset] [(.ref al)]))
  refine own_goW (fun t_ kt_ => XS.astore X2g.here hx rfl (hb hby at_7) rfl rfl (l' := #[.val (.int p0), .val (.int p1), .val (.int p2), .val (.int p3), .val (.int p4), .val (.int p5), .val (.ref al), .unset, .unset, .unset, .unset, .unset, .unset]) rfl kt_) ?_
  show own_GoW p e below s _ _ _ (T2.setTop (mkF m 9 #[.val (.int p0), .val (.int p1), .val (.int p2), .val (.int p3), .val (.int p4), .val (.int p5), .val (.ref al), .unset, .unset, .unset, .unset, .unset, .unset] []))
  refine own_goW (fun t_ kt_ => XS.aload X2g.here hx rfl (hb hby at_9) rfl rfl kt_) ?_
  show own_GoW p e below s _ _ _ (T2.setTop (mkF m 11 #[.val (.int p0), .val (.int p1), .val (.int p2), .val (.int p3), .val (.int p4), .val (.int p5), .val (.ref al), .unset, .unset, .unset, .unset, .unset, .unset] [(.ref al)]))
  obtain ⟨T3, h3, X3, e3, E3, A3, D3, U3, st3⟩ := newO X2g hx hZ hown (hw _ (List.mem_of_getElem? (i := 26) rfl)) (hw _ (List.mem_of_getElem? (i := 27) rfl)) (hw _ (List.mem_of_getElem? (i := 28) rfl)) e2 (g := (mkF m 11 #[.val (.int p0), .val (.int p1), .val (.int p2), .val (.int p3), .val (.int p4), .val (.int p5), .val (.ref al), .unset, .unset, .unset, .unset, .unset, .unset] [(.ref al)])) rfl (hb hby at_11) (by decide) (by decide)
  obtain ⟨xa, g3⟩ : ∃ z, z = h2.size := ⟨_, rfl⟩
  rw [← g3] at A3 D3 U3 st3
  refine own_goW (fun t_ kt_ => st3 _ kt_) ?_
  have gt_xa : n0 ≤ xa := Nat.le_trans ZZ_2 (Nat.le_of_eq g3.symm)
  have ne_dea_xa : dea ≠ xa := Nat.ne_of_lt (Nat.lt_of_lt_of_le VD_2.lt (Nat.le_of_eq g3.symm))
  have ne_al_xa : al ≠ xa := Nat.ne_of_lt (Nat.lt_of_lt_of_le E_al_2.lt (Nat.le_of_eq g3.symm))
  have ZZ_3 : n0 ≤ h3.size := Nat.le_trans ZZ_2 E3.1
  have S_DEFAULTCAPACITY_EMPTY_ELEMENTDATA_3 : Sta Z h3 "java/util/ArrayList" "DEFAULTCAPACITY_EMPTY_ELEMENTDATA" "[Ljava/lang/Object;" (.ref dea) := S_DEFAULTCAPACITY_EMPTY_ELEMENTDATA_2.ext E3
  have VD_3 : own_Ary Z h3 dea (.object "java/lang/Object") 0 fd := VD_2.ext E3
  have E_al_3 : Exa Z h3 al "java/util/ArrayList" := E_al_2.ext E3
  have F_modCount_al_3 : Fld Z h3 al "java/util/AbstractList" "modCount" "I" (.int (0 : Int32)) := Fq2a.ext E3
  have F_elementData_al_3 : Fld Z h3 al "java/util/ArrayList" "elementData" "[Ljava/lang/Object;" (.ref dea) := Fq2b.ext E3
  have F_size_al_3 : Fld Z h3 al "java/util/ArrayList" "size" "I" (.int (0 : Int32)) := Fq2c.ext E3
  have F_source_xa : Fld Z h3 xa "com/example/lint_for_clocks/lintforclocks/model/Edge" "source" "Ljava/lang/String;" .null := D3 (Or.inr (hw _ (List.mem_of_getElem? (i := 48) rfl))) (ty := (.object "java/lang/String")) (by decide)
  have F_target_xa : Fld Z h3 xa "com/example/lint_for_clocks/lintforclocks/model/Edge" "target" "Ljava/lang/String;" .null := D3 (Or.inr (hw _ (List.mem_of_getElem? (i := 50) rfl))) (ty := (.object "java/lang/String")) (by decide)
  have F_line_xa : Fld Z h3 xa "com/example/lint_for_clocks/lintforclocks/model/Edge" "line" "I" (.int (0 : Int32)) := D3 (Or.inr (hw _ (List.mem_of_getElem? (i := 52) rfl))) (ty := .int) (by decide)
  have F_labels_xa : Fld Z h3 xa "com/example/lint_for_clocks/lintforclocks/model/Edge" "labels" "Ljava/util/List;" .null := D3 (Or.inr (hw _ (List.mem_of_getElem? (i := 54) rfl))) (ty := (.object "java/util/List")) (by decide)
  have F_selects_xa : Fld Z h3 xa "com/example/lint_for_clocks/lintforclocks/model/Edge" "selects" "Ljava/util/List;" .null := D3 (Or.inr (hw _ (List.mem_of_getElem? (i := 56) rfl))) (ty := (.object "java/util/List")) (by decide)
  have F_guard_xa : Fld Z h3 xa "com/example/lint_for_clocks/lintforclocks/model/Edge" "guard" "Lcom/example/lint_for_clocks/lintforclocks/model/Expr;" .null := D3 (Or.inr (hw _ (List.mem_of_getElem? (i := 58) rfl))) (ty := (.object "com/example/lint_for_clocks/lintforclocks/model/Expr")) (by decide)
  have F_synchronisation_xa : Fld Z h3 xa "com/example/lint_for_clocks/lintforclocks/model/Edge" "synchronisation" "Lcom/example/lint_for_clocks/lintforclocks/model/Synchronisation;" .null := D3 (Or.inr (hw _ (List.mem_of_getElem? (i := 60) rfl))) (ty := (.object "com/example/lint_for_clocks/lintforclocks/model/Synchronisation")) (by decide)
  have F_assignments_xa : Fld Z h3 xa "com/example/lint_for_clocks/lintforclocks/model/Edge" "assignments" "Ljava/util/List;" .null := D3 (Or.inr (hw _ (List.mem_of_getElem? (i := 62) rfl))) (ty := (.object "java/util/List")) (by decide)
  show own_GoW p e below s _ _ _ (T3.setTop (mkF m 14 #[.val (.int p0), .val (.int p1), .val (.int p2), .val (.int p3), .val (.int p4), .val (.int p5), .val (.ref al), .unset, .unset, .unset, .unset, .unset, .unset] [(.ref xa), (.ref al)]))
  refine own_goW (fun t_ kt_ => XS.dup X3.here hx rfl (hb hby at_14) rfl rfl kt_) ?_
  show own_GoW p e below s _ _ _ (T3.setTop (mkF m 15 #[.val (.int p0), .val (.int p1), .val (.int p2), .val (.int p3), .val (.int p4), .val (.int p5), .val (.ref al), .unset, .unset, .unset, .unset, .unset, .unset] [(.ref xa), (.ref xa), (.ref al)]))
  have hS0 : s.Since s.vm n0 := (State.WarmedH.refl s).since _
  obtain ⟨b4, T4, h4, k4, X4, e4, E4, hS4, hk4, hZ, hown, st4⟩ := ldcS (s := s) (vm0 := s.vm) X3 hx hZ hown (hw _ (List.mem_of_getElem? (i := 29) rfl)) (own_str hw) e3 hS0 ZZ_3 (g := (mkF m 15 #[.val (.int p0), .val (.int p1), .val (.int p2), .val (.int p3), .val (.int p4), .val (.int p5), .val (.ref al), .unset, .unset, .unset, .unset, .unset, .unset] [(.ref xa), (.ref xa), (.ref al)])) rfl (hb hby at_15) (n := 8) (by decide) (by decide) (by decide) (by decide)
  refine own_goW (fun t_ kt_ => st4 _ kt_) ?_
  have ZZ_4 : n0 ≤ h4.size := Nat.le_trans ZZ_3 E4.1
  have S_DEFAULTCAPACITY_EMPTY_ELEMENTDATA_4 : Sta Z h4 "java/util/ArrayList" "DEFAULTCAPACITY_EMPTY_ELEMENTDATA" "[Ljava/lang/Object;" (.ref dea) := S_DEFAULTCAPACITY_EMPTY_ELEMENTDATA_3.ext E4
  have VD_4 : own_Ary Z h4 dea (.object "java/lang/Object") 0 fd := VD_3.ext E4
  have E_al_4 : Exa Z h4 al "java/util/ArrayList" := E_al_3.ext E4
  have F_modCount_al_4 : Fld Z h4 al "java/util/AbstractList" "modCount" "I" (.int (0 : Int32)) := F_modCount_al_3.ext E4
  have F_elementData_al_4 : Fld Z h4 al "java/util/ArrayList" "elementData" "[Ljava/lang/Object;" (.ref dea) := F_elementData_al_3.ext E4
  have F_size_al_4 : Fld Z h4 al "java/util/ArrayList" "size" "I" (.int (0 : Int32)) := F_size_al_3.ext E4
  have E_xa_4 : Exa Z h4 xa "com/example/lint_for_clocks/lintforclocks/model/Edge" := A3.ext E4
  have F_source_xa_4 : Fld Z h4 xa "com/example/lint_for_clocks/lintforclocks/model/Edge" "source" "Ljava/lang/String;" .null := F_source_xa.ext E4
  have F_target_xa_4 : Fld Z h4 xa "com/example/lint_for_clocks/lintforclocks/model/Edge" "target" "Ljava/lang/String;" .null := F_target_xa.ext E4
  have F_line_xa_4 : Fld Z h4 xa "com/example/lint_for_clocks/lintforclocks/model/Edge" "line" "I" (.int (0 : Int32)) := F_line_xa.ext E4
  have F_labels_xa_4 : Fld Z h4 xa "com/example/lint_for_clocks/lintforclocks/model/Edge" "labels" "Ljava/util/List;" .null := F_labels_xa.ext E4
  have F_selects_xa_4 : Fld Z h4 xa "com/example/lint_for_clocks/lintforclocks/model/Edge" "selects" "Ljava/util/List;" .null := F_selects_xa.ext E4
  have F_guard_xa_4 : Fld Z h4 xa "com/example/lint_for_clocks/lintforclocks/model/Edge" "guard" "Lcom/example/lint_for_clocks/lintforclocks/model/Expr;" .null := F_guard_xa.ext E4
  have F_synchronisation_xa_4 : Fld Z h4 xa "com/example/lint_for_clocks/lintforclocks/model/Edge" "synchronisation" "Lcom/example/lint_for_clocks/lintforclocks/model/Synchronisation;" .null := F_synchronisation_xa.ext E4
  have F_assignments_xa_4 : Fld Z h4 xa "com/example/lint_for_clocks/lintforclocks/model/Edge" "assignments" "Ljava/util/List;" .null := F_assignments_xa.ext E4
  show own_GoW p e below s _ _ _ (T4.setTop (mkF m 17 #[.val (.int p0), .val (.int p1), .val (.int p2), .val (.int p3), .val (.int p4), .val (.int p5), .val (.ref al), .unset, .unset, .unset, .unset, .unset, .unset] [(.ref b4), (.ref xa), (.ref xa), (.ref al)]))
  obtain ⟨b5, T5, h5, k5, X5, e5, E5, hS5, hk5, hZ, hown, st5⟩ := ldcS (s := s) (vm0 := T4.vm) X4 hx hZ hown (hw _ (List.mem_of_getElem? (i := 37) rfl)) (own_str hw) e4 hS4 hk4 (g := (mkF m 17 #[.val (.int p0), .val (.int p1), .val (.int p2), .val (.int p3), .val (.int p4), .val (.int p5), .val (.ref al), .unset, .unset, .unset, .unset, .unset, .unset] [(.ref b4), (.ref xa), (.ref xa), (.ref al)])) rfl (hb hby at_17) (n := 8) (by decide) (by decide) (by decide) (by decide)
  refine own_goW (fun t_ kt_ => st5 _ kt_) ?_
  have ZZ_5 : n0 ≤ h5.size := Nat.le_trans ZZ_4 E5.1
  have S_DEFAULTCAPACITY_EMPTY_ELEMENTDATA_5 : Sta Z h5 "java/util/ArrayList" "DEFAULTCAPACITY_EMPTY_ELEMENTDATA" "[Ljava/lang/Object;" (.ref dea) := S_DEFAULTCAPACITY_EMPTY_ELEMENTDATA_4.ext E5
  have VD_5 : own_Ary Z h5 dea (.object "java/lang/Object") 0 fd := VD_4.ext E5
  have E_al_5 : Exa Z h5 al "java/util/ArrayList" := E_al_4.ext E5
  have F_modCount_al_5 : Fld Z h5 al "java/util/AbstractList" "modCount" "I" (.int (0 : Int32)) := F_modCount_al_4.ext E5
  have F_elementData_al_5 : Fld Z h5 al "java/util/ArrayList" "elementData" "[Ljava/lang/Object;" (.ref dea) := F_elementData_al_4.ext E5
  have F_size_al_5 : Fld Z h5 al "java/util/ArrayList" "size" "I" (.int (0 : Int32)) := F_size_al_4.ext E5
  have E_xa_5 : Exa Z h5 xa "com/example/lint_for_clocks/lintforclocks/model/Edge" := E_xa_4.ext E5
  have F_source_xa_5 : Fld Z h5 xa "com/example/lint_for_clocks/lintforclocks/model/Edge" "source" "Ljava/lang/String;" .null := F_source_xa_4.ext E5
  have F_target_xa_5 : Fld Z h5 xa "com/example/lint_for_clocks/lintforclocks/model/Edge" "target" "Ljava/lang/String;" .null := F_target_xa_4.ext E5
  have F_line_xa_5 : Fld Z h5 xa "com/example/lint_for_clocks/lintforclocks/model/Edge" "line" "I" (.int (0 : Int32)) := F_line_xa_4.ext E5
  have F_labels_xa_5 : Fld Z h5 xa "com/example/lint_for_clocks/lintforclocks/model/Edge" "labels" "Ljava/util/List;" .null := F_labels_xa_4.ext E5
  have F_selects_xa_5 : Fld Z h5 xa "com/example/lint_for_clocks/lintforclocks/model/Edge" "selects" "Ljava/util/List;" .null := F_selects_xa_4.ext E5
  have F_guard_xa_5 : Fld Z h5 xa "com/example/lint_for_clocks/lintforclocks/model/Edge" "guard" "Lcom/example/lint_for_clocks/lintforclocks/model/Expr;" .null := F_guard_xa_4.ext E5
  have F_synchronisation_xa_5 : Fld Z h5 xa "com/example/lint_for_clocks/lintforclocks/model/Edge" "synchronisation" "Lcom/example/lint_for_clocks/lintforclocks/model/Synchronisation;" .null := F_synchronisation_xa_4.ext E5
  have F_assignments_xa_5 : Fld Z h5 xa "com/example/lint_for_clocks/lintforclocks/model/Edge" "assignments" "Ljava/util/List;" .null := F_assignments_xa_4.ext E5
  show own_GoW p e below s _ _ _ (T5.setTop (mkF m 19 #[.val (.int p0), .val (.int p1), .val (.int p2), .val (.int p3), .val (.int p4), .val (.int p5), .val (.ref al), .unset, .unset, .unset, .unset, .unset, .unset] [(.ref b5), (.ref b4), (.ref xa), (.ref xa), (.ref al)]))
  refine own_goW (fun t_ kt_ => XS.iloadN X5.here hx rfl (hb hby at_19) rfl kt_) ?_
  show own_GoW p e below s _ _ _ (T5.setTop (mkF m 20 #[.val (.int p0), .val (.int p1), .val (.int p2), .val (.int p3), .val (.int p4), .val (.int p5), .val (.ref al), .unset, .unset, .unset, .unset, .unset, .unset] [(.int p0), (.ref b5), (.ref b4), (.ref xa), (.ref xa), (.ref al)]))
  refine own_goW (fun t_ kt_ => XS.aconstNull X5.here hx rfl (hb hby at_20) kt_) ?_
  show own_GoW p e below s _ _ _ (T5.setTop (mkF m 21 #[.val (.int p0), .val (.int p1), .val (.int p2), .val (.int p3), .val (.int p4), .val (.int p5), .val (.ref al), .unset, .unset, .unset, .unset, .unset, .unset] [.null, (.int p0), (.ref b5), (.ref b4), (.ref xa), (.ref xa), (.ref al)]))
  refine own_goW (fun t_ kt_ => XS.aconstNull X5.here hx rfl (hb hby at_21) kt_) ?_
  show own_GoW p e below s _ _ _ (T5.setTop (mkF m 22 #[.val (.int p0), .val (.int p1), .val (.int p2), .val (.int p3), .val (.int p4), .val (.int p5), .val (.ref al), .unset, .unset, .unset, .unset, .unset, .unset] [.null, .null, (.int p0), (.ref b5), (.ref b4), (.ref xa), (.ref xa), (.ref al)]))
  refine own_goW (fun t_ kt_ => XS.aconstNull X5.here hx rfl (hb hby at_22) kt_) ?_
  show own_GoW p e below s _ _ _ (T5.setTop (mkF m 23 #[.val (.int p0), .val (.int p1), .val (.int p2), .val (.int p3), .val (.int p4), .val (.int p5), .val (.ref al), .unset, .unset, .unset, .unset, .unset, .unset] [.null, .null, .null, (.int p0), (.ref b5), (.ref b4), (.ref xa), (.ref xa), (.ref al)]))
  refine own_goW (fun t_ kt_ => XS.aconstNull X5.here hx rfl (hb hby at_23) kt_) ?_
  show own_GoW p e below s _ _ _ (T5.setTop (mkF m 24 #[.val (.int p0), .val (.int p1), .val (.int p2), .val (.int p3), .val (.int p4), .val (.int p5), .val (.ref al), .unset, .unset, .unset, .unset, .unset, .unset] [.null, .null, .null, .null, (.int p0), (.ref b5), (.ref b4), (.ref xa), (.ref xa), (.ref al)]))
  refine own_goW (fun t_ kt_ => XS.aconstNull X5.here hx rfl (hb hby at_24) kt_) ?_
  show own_GoW p e below s _ _ _ (T5.setTop (mkF m 25 #[.val (.int p0), .val (.int p1), .val (.int p2), .val (.int p3), .val (.int p4), .val (.int p5), .val (.ref al), .unset, .unset, .unset, .unset, .unset, .unset] [.null, .null, .null, .null, .null, (.int p0), (.ref b5), (.ref b4), (.ref xa), (.ref xa), (.ref al)]))
  obtain ⟨_, _, ⟨T6, L6, k6, n6⟩, -, X6, ⟨Lc6, hQ6, l6, y6, z6⟩, st6⟩ := X5.specialBack hx (y := (⟨"com/example/lint_for_clocks/lintforclocks/model/Edge", "<init>", "(Ljava/lang/String;Ljava/lang/String;ILjava/util/List;Ljava/util/List;Lcom/example/lint_for_clocks/lintforclocks/model/Expr;Lcom/example/lint_for_clocks/lintforclocks/model/Synchronisation;Ljava/util/List;)V"⟩ : MethodName)) rfl hown (mvT hZ (hw _ (List.mem_of_getElem? (i := 38) rfl))) (mvT hZ (hw _ (List.mem_of_getElem? (i := 39) rfl))) (mvT hZ (hw _ (List.mem_of_getElem? (i := 40) rfl))) (by decide) (backOf (W := 2) (rm5 l Z a0 hw [] (xa) (b4) (b5) (p0) h5 n0 ZZ_5 F_source_xa_5 F_target_xa_5 F_line_xa_5 F_labels_xa_5 F_selects_xa_5 F_guard_xa_5 F_synchronisation_xa_5 F_assignments_xa_5 E_xa_5 gt_xa) hZ (hw _ (List.mem_of_getElem? (i := 40) rfl)) (hw _ (List.mem_of_getElem? (i := 28) rfl)) (by decide) (by decide)) (g := (mkF m 25 #[.val (.int p0), .val (.int p1), .val (.int p2), .val (.int p3), .val (.int p4), .val (.int p5), .val (.ref al), .unset, .unset, .unset, .unset, .unset, .unset] [.null, .null, .null, .null, .null, (.int p0), (.ref b5), (.ref b4), (.ref xa), (.ref xa), (.ref al)])) rfl (by rw [hml]; rfl) (Steps.refl _) (a := xa) (argsL := [(.ref b4), (.ref b5), (.int p0), .null, .null, .null, .null, .null]) (rest := [(.ref xa), (.ref al)]) (lenOf pd_9 rfl) rfl (by show 2 * 0 + _ ≤ _; exact Nat.le_of_eq rfl) (hb hby at_25) (fun _ _ => ⟨rfl, e5, (by decide : 6 + 0 ≤ _), (by decide : 35 + 0 ≤ _)⟩)
  dsimp only [Pt.U, Pt.locs, Pt.cells, Pt.slots] at X6 l6 y6 z6 st6 hQ6
  subst l6 y6 z6
  obtain ⟨rfl, Nq6, Kq6, Fq6⟩ := hQ6
  have N6 := Fr.app N2g Nq6
  refine own_goW (fun t_ kt_ => st6.trans kt_) ?_
  obtain ⟨lo6, X6g, N6g⟩ : ∃ lo, Stand p l e room_1 (s.setVm T5.vm) m #[(.int p0), (.int p1), (.int p2), (.int p3), (.int p4), (.int p5)] below meth c T6 lo 6 35 ∧ Fr n0 lo := ⟨_, X6, N6⟩
  obtain ⟨h6, e6⟩ : ∃ z, T6.heap = z := ⟨_, rfl⟩
  rw [e6] at Kq6 Fq6
  have ZZ_6 : n0 ≤ h6.size := Nat.le_trans ZZ_5 Kq6.1
  have S_DEFAULTCAPACITY_EMPTY_ELEMENTDATA_6 : Sta Z h6 "java/util/ArrayList" "DEFAULTCAPACITY_EMPTY_ELEMENTDATA" "[Ljava/lang/Object;" (.ref dea) := own_sta_keepN S_DEFAULTCAPACITY_EMPTY_ELEMENTDATA_5 Kq6 E_xa_5
  have VD_6 : own_Ary Z h6 dea (.object "java/lang/Object") 0 fd := VD_5.keep Kq6 (ninS ne_dea_xa nin0)
  have E_al_6 : Exa Z h6 al "java/util/ArrayList" := E_al_5.keep Kq6
  have F_modCount_al_6 : Fld Z h6 al "java/util/AbstractList" "modCount" "I" (.int (0 : Int32)) := F_modCount_al_5.keep Kq6 (ninS ne_al_xa nin0)
  have F_elementData_al_6 : Fld Z h6 al "java/util/ArrayList" "elementData" "[Ljava/lang/Object;" (.ref dea) := F_elementData_al_5.keep Kq6 (ninS ne_al_xa nin0)
  have F_size_al_6 : Fld Z h6 al "java/util/ArrayList" "size" "I" (.int (0 : Int32)) := F_size_al_5.keep Kq6 (ninS ne_al_xa nin0)
  have E_xa_6 : Exa Z h6 xa "com/example/lint_for_clocks/lintforclocks/model/Edge" := E_xa_5.keep Kq6
  have KS_6 : k5 ≤ h6.size := Nat.le_trans hk5 Kq6.1
  show own_GoW p e below s _ _ _ (T6.setTop (mkF m 28 #[.val (.int p0), .val (.int p1), .val (.int p2), .val (.int p3), .val (.int p4), .val (.int p5), .val (.ref al), .unset, .unset, .unset, .unset, .unset, .unset] [(.ref xa), (.ref al)]))
  obtain ⟨cq7, kq7, q7a, q7b, q7c⟩ := isOf hZ e6 E_al_6
  obtain ⟨_, _, ⟨T7, L7, k7, n7⟩, -, X7, ⟨Lc7, hQ7, l7, y7, z7⟩, st7⟩ := X6g.interfaceBack hx (xi := (⟨"java/util/List", "add", "(Ljava/lang/Object;)Z"⟩ : MethodName)) (y := (⟨"java/util/ArrayList", "add", "(Ljava/lang/Object;)Z"⟩ : MethodName)) hown (mvT hZ (hw _ (List.mem_of_getElem? (i := 63) rfl))) (mvT hZ (hw _ (List.mem_of_getElem? (i := 64) rfl))) (mvT hZ (hw _ (List.mem_of_getElem? (i := 65) rfl))) (mvT hZ (hw _ (List.mem_of_getElem? (i := 66) rfl))) (mvT hZ (hw _ (List.mem_of_getElem? (i := 67) rfl))) (mvT hZ (hw _ (List.mem_of_getElem? (i := 68) rfl))) (mvT hZ (hw _ (List.mem_of_getElem? (i := 69) rfl))) (mvT hZ (hw _ (List.mem_of_getElem? (i := 70) rfl))) (by decide) (backOf (W := 0) (rm7g l Z a0 hw [] (al) (xa) ((0 : Int32)) (dea) (fd) h6 n0 ZZ_6 F_modCount_al_6 F_elementData_al_6 F_size_al_6 E_al_6 gt_al S_DEFAULTCAPACITY_EMPTY_ELEMENTDATA_6 VD_6 (Ne.symm ne_dea_al) E_xa_6 ne_al_xa) hZ (hw _ (List.mem_of_getElem? (i := 71) rfl)) (hw _ (List.mem_of_getElem? (i := 2) rfl)) (by decide) (by decide)) q7a q7b q7c (g := (mkF m 28 #[.val (.int p0), .val (.int p1), .val (.int p2), .val (.int p3), .val (.int p4), .val (.int p5), .val (.ref al), .unset, .unset, .unset, .unset, .unset, .unset] [(.ref xa), (.ref al)])) rfl (by rw [hml]; rfl) (Steps.refl _) (argsL := [(.ref xa)]) (rest := []) (lenOf pd_10 rfl) rfl (by show 2 * 0 + _ ≤ _; exact Nat.le_of_eq rfl) (hb hby at_28) (fun _ _ => ⟨rfl, e6, (by decide : 6 + 1 ≤ _), (by decide : 35 + 10 ≤ _)⟩)
  dsimp only [Pt.U, Pt.locs, Pt.cells, Pt.slots] at X7 l7 y7 z7 st7 hQ7
  subst l7 y7 z7
  obtain ⟨ba, rfl, Nq7, Kq7, gq7, Sq7, Vq7, Oq7, Fq7a, Fq7b, Fq7c⟩ := hQ7
  have N7 := Fr.app N6g Nq7
  refine own_goW (fun t_ kt_ => st7.trans kt_) ?_
  obtain ⟨lo7, X7g, N7g⟩ : ∃ lo, Stand p l e room_1 (s.setVm T5.vm) m #[(.int p0), (.int p1), (.int p2), (.int p3), (.int p4), (.int p5)] below meth c T7 lo 7 45 ∧ Fr n0 lo := ⟨_, X7, N7⟩
  obtain ⟨h7, e7⟩ : ∃ z, T7.heap = z := ⟨_, rfl⟩
  rw [e7] at Kq7 Vq7 Oq7 Fq7a Fq7b Fq7c
  have ZZ_7 : n0 ≤ h7.size := Nat.le_trans ZZ_6 Kq7.1
  have S_DEFAULTCAPACITY_EMPTY_ELEMENTDATA_7 : Sta Z h7 "java/util/ArrayList" "DEFAULTCAPACITY_EMPTY_ELEMENTDATA" "[Ljava/lang/Object;" (.ref dea) := own_sta_keepN S_DEFAULTCAPACITY_EMPTY_ELEMENTDATA_6 Kq7 E_al_6
  have VD_7 : own_Ary Z h7 dea (.object "java/lang/Object") 0 fd := VD_6.keep Kq7 (ninS ne_dea_al nin0)
  have E_al_7 : Exa Z h7 al "java/util/ArrayList" := E_al_6.keep Kq7
  have E_xa_7 : Exa Z h7 xa "com/example/lint_for_clocks/lintforclocks/model/Edge" := E_xa_6.keep Kq7
  have KS_7 : k5 ≤ h7.size := Nat.le_trans KS_6 Kq7.1
  have F_line_xa_7 : Fld Z h7 xa "com/example/lint_for_clocks/lintforclocks/model/Edge" "line" "I" (.int p0) := Fq6.keep Kq7 (ninS (Ne.symm ne_al_xa) nin0)
  have ne_dea_ba : dea ≠ ba := Nat.ne_of_lt (Nat.lt_of_lt_of_le VD_6.lt Sq7)
  have ne_al_ba : al ≠ ba := Nat.ne_of_lt (Nat.lt_of_lt_of_le E_al_6.lt Sq7)
  have ne_xa_ba : xa ≠ ba := Nat.ne_of_lt (Nat.lt_of_lt_of_le E_xa_6.lt Sq7)
  show own_GoW p e below s _ _ _ (T7.setTop (mkF m 33 #[.val (.int p0), .val (.int p1), .val (.int p2), .val (.int p3), .val (.int p4), .val (.int p5), .val (.ref al), .unset, .unset, .unset, .unset, .unset, .unset] [(.int (1 : Int32))]))
  refine own_goW (fun t_ kt_ => XS.pop X7g.here hx rfl (hb hby at_33) rfl rfl kt_) ?_
  show own_GoW p e below s _ _ _ (T7.setTop (mkF m 34 #[.val (.int p0), .val (.int p1), .val (.int p2), .val (.int p3), .val (.int p4), .val (.int p5), .val (.ref al), .unset, .unset, .unset, .unset, .unset, .unset] []))
  refine own_goW (fun t_ kt_ => XS.aload X7g.here hx rfl (hb hby at_34) rfl rfl kt_) ?_
  show own_GoW p e below s _ _ _ (T7.setTop (mkF m 36 #[.val (.int p0), .val (.int p1), .val (.int p2), .val (.int p3), .val (.int p4), .val (.int p5), .val (.ref al), .unset, .unset, .unset, .unset, .unset, .unset] [(.ref al)]))
  obtain ⟨T8, h8, X8, e8, E8, A8, D8, U8, st8⟩ := newO X7g hx hZ hown (hw _ (List.mem_of_getElem? (i := 26) rfl)) (hw _ (List.mem_of_getElem? (i := 27) rfl)) (hw _ (List.mem_of_getElem? (i := 28) rfl)) e7 (g := (mkF m 36 #[.val (.int p0), .val (.int p1), .val (.int p2), .val (.int p3), .val (.int p4), .val (.int p5), .val (.ref al), .unset, .unset, .unset, .unset, .unset, .unset] [(.ref al)])) rfl (hb hby at_36) (by decide) (by decide)
  obtain ⟨xb, g8⟩ : ∃ z, z = h7.size := ⟨_, rfl⟩
  rw [← g8] at A8 D8 U8 st8
  refine own_goW (fun t_ kt_ => st8 _ kt_) ?_
  have gt_xb : n0 ≤ xb := Nat.le_trans ZZ_7 (Nat.le_of_eq g8.symm)
  have ne_al_xb : al ≠ xb := Nat.ne_of_lt (Nat.lt_of_lt_of_le E_al_7.lt (Nat.le_of_eq g8.symm))
  have ne_xa_xb : xa ≠ xb := Nat.ne_of_lt (Nat.lt_of_lt_of_le E_xa_7.lt (Nat.le_of_eq g8.symm))
  have ne_ba_xb : ba ≠ xb := Nat.ne_of_lt (Nat.lt_of_lt_of_le Vq7.lt (Nat.le_of_eq g8.symm))
  have ZZ_8 : n0 ≤ h8.size := Nat.le_trans ZZ_7 E8.1
  have E_al_8 : Exa Z h8 al "java/util/ArrayList" := E_al_7.ext E8
  have E_xa_8 : Exa Z h8 xa "com/example/lint_for_clocks/lintforclocks/model/Edge" := E_xa_7.ext E8
  have KS_8 : k5 ≤ h8.size := Nat.le_trans KS_7 E8.1
  have F_line_xa_8 : Fld Z h8 xa "com/example/lint_for_clocks/lintforclocks/model/Edge" "line" "I" (.int p0) := F_line_xa_7.ext E8
  have F_modCount_al_8 : Fld Z h8 al "java/util/AbstractList" "modCount" "I" (.int ((0 : Int32) + (1 : Int32))) := Fq7a.ext E8
  have F_elementData_al_8 : Fld Z h8 al "java/util/ArrayList" "elementData" "[Ljava/lang/Object;" (.ref ba) := Fq7b.ext E8
  have F_size_al_8 : Fld Z h8 al "java/util/ArrayList" "size" "I" (.int (1 : Int32)) := Fq7c.ext E8
  have V_ba_8 : own_Ary Z h8 ba (.object "java/lang/Object") 10 (own_set (fun _ => .null) 0 (.ref xa)) := Vq7.ext E8
  have O_ba_8 : own_Ov Z h8 ba "java/lang/Object" := Oq7.ext E8
  have F_source_xb : Fld Z h8 xb "com/example/lint_for_clocks/lintforclocks/model/Edge" "source" "Ljava/lang/String;" .null := D8 (Or.inr (hw _ (List.mem_of_getElem? (i := 48) rfl))) (ty := (.object "java/lang/String")) (by decide)
  have F_target_xb : Fld Z h8 xb "com/example/lint_for_clocks/lintforclocks/model/Edge" "target" "Ljava/lang/String;" .null := D8 (Or.inr (hw _ (List.mem_of_getElem? (i := 50) rfl))) (ty := (.object "java/lang/String")) (by decide)
  have F_line_xb : Fld Z h8 xb "com/example/lint_for_clocks/lintforclocks/model/Edge" "line" "I" (.int (0 : Int32)) := D8 (Or.inr (hw _ (List.mem_of_getElem? (i := 52) rfl))) (ty := .int) (by decide)
  have F_labels_xb : Fld Z h8 xb "com/example/lint_for_clocks/lintforclocks/model/Edge" "labels" "Ljava/util/List;" .null := D8 (Or.inr (hw _ (List.mem_of_getElem? (i := 54) rfl))) (ty := (.object "java/util/List")) (by decide)
  have F_selects_xb : Fld Z h8 xb "com/example/lint_for_clocks/lintforclocks/model/Edge" "selects" "Ljava/util/List;" .null := D8 (Or.inr (hw _ (List.mem_of_getElem? (i := 56) rfl))) (ty := (.object "java/util/List")) (by decide)
  have F_guard_xb : Fld Z h8 xb "com/example/lint_for_clocks/lintforclocks/model/Edge" "guard" "Lcom/example/lint_for_clocks/lintforclocks/model/Expr;" .null := D8 (Or.inr (hw _ (List.mem_of_getElem? (i := 58) rfl))) (ty := (.object "com/example/lint_for_clocks/lintforclocks/model/Expr")) (by decide)
  have F_synchronisation_xb : Fld Z h8 xb "com/example/lint_for_clocks/lintforclocks/model/Edge" "synchronisation" "Lcom/example/lint_for_clocks/lintforclocks/model/Synchronisation;" .null := D8 (Or.inr (hw _ (List.mem_of_getElem? (i := 60) rfl))) (ty := (.object "com/example/lint_for_clocks/lintforclocks/model/Synchronisation")) (by decide)
  have F_assignments_xb : Fld Z h8 xb "com/example/lint_for_clocks/lintforclocks/model/Edge" "assignments" "Ljava/util/List;" .null := D8 (Or.inr (hw _ (List.mem_of_getElem? (i := 62) rfl))) (ty := (.object "java/util/List")) (by decide)
  show own_GoW p e below s _ _ _ (T8.setTop (mkF m 39 #[.val (.int p0), .val (.int p1), .val (.int p2), .val (.int p3), .val (.int p4), .val (.int p5), .val (.ref al), .unset, .unset, .unset, .unset, .unset, .unset] [(.ref xb), (.ref al)]))
  refine own_goW (fun t_ kt_ => XS.dup X8.here hx rfl (hb hby at_39) rfl rfl kt_) ?_
  show own_GoW p e below s _ _ _ (T8.setTop (mkF m 40 #[.val (.int p0), .val (.int p1), .val (.int p2), .val (.int p3), .val (.int p4), .val (.int p5), .val (.ref al), .unset, .unset, .unset, .unset, .unset, .unset] [(.ref xb), (.ref xb), (.ref al)]))
  obtain ⟨b9, T9, h9, k9, X9, e9, E9, hS9, hk9, hZ, hown, st9⟩ := ldcS (s := s) (vm0 := T5.vm) X8 hx hZ hown (hw _ (List.mem_of_getElem? (i := 37) rfl)) (own_str hw) e8 hS5 KS_8 (g := (mkF m 40 #[.val (.int p0), .val (.int p1), .val (.int p2), .val (.int p3), .val (.int p4), .val (.int p5), .val (.ref al), .unset, .unset, .unset, .unset, .unset, .unset] [(.ref xb), (.ref xb), (.ref al)])) rfl (hb hby at_40) (n := 8) (by decide) (by decide) (by decide) (by decide)
  refine own_goW (fun t_ kt_ => st9 _ kt_) ?_
  have ZZ_9 : n0 ≤ h9.size := Nat.le_trans ZZ_8 E9.1
  have E_al_9 : Exa Z h9 al "java/util/ArrayList" := E_al_8.ext E9
  have E_xa_9 : Exa Z h9 xa "com/example/lint_for_clocks/lintforclocks/model/Edge" := E_xa_8.ext E9
  have F_line_xa_9 : Fld Z h9 xa "com/example/lint_for_clocks/lintforclocks/model/Edge" "line" "I" (.int p0) := F_line_xa_8.ext E9
  have F_modCount_al_9 : Fld Z h9 al "java/util/AbstractList" "modCount" "I" (.int ((0 : Int32) + (1 : Int32))) := F_modCount_al_8.ext E9
  have F_elementData_al_9 : Fld Z h9 al "java/util/ArrayList" "elementData" "[Ljava/lang/Object;" (.ref ba) := F_elementData_al_8.ext E9
  have F_size_al_9 : Fld Z h9 al "java/util/ArrayList" "size" "I" (.int (1 : Int32)) := F_size_al_8.ext E9
  have V_ba_9 : own_Ary Z h9 ba (.object "java/lang/Object") 10 (own_set (fun _ => .null) 0 (.ref xa)) := V_ba_8.ext E9
  have O_ba_9 : own_Ov Z h9 ba "java/lang/Object" := O_ba_8.ext E9
  have E_xb_9 : Exa Z h9 xb "com/example/lint_for_clocks/lintforclocks/model/Edge" := A8.ext E9
  have F_source_xb_9 : Fld Z h9 xb "com/example/lint_for_clocks/lintforclocks/model/Edge" "source" "Ljava/lang/String;" .null := F_source_xb.ext E9
  have F_target_xb_9 : Fld Z h9 xb "com/example/lint_for_clocks/lintforclocks/model/Edge" "target" "Ljava/lang/String;" .null := F_target_xb.ext E9
  have F_line_xb_9 : Fld Z h9 xb "com/example/lint_for_clocks/lintforclocks/model/Edge" "line" "I" (.int (0 : Int32)) := F_line_xb.ext E9
  have F_labels_xb_9 : Fld Z h9 xb "com/example/lint_for_clocks/lintforclocks/model/Edge" "labels" "Ljava/util/List;" .null := F_labels_xb.ext E9
  have F_selects_xb_9 : Fld Z h9 xb "com/example/lint_for_clocks/lintforclocks/model/Edge" "selects" "Ljava/util/List;" .null := F_selects_xb.ext E9
  have F_guard_xb_9 : Fld Z h9 xb "com/example/lint_for_clocks/lintforclocks/model/Edge" "guard" "Lcom/example/lint_for_clocks/lintforclocks/model/Expr;" .null := F_guard_xb.ext E9
  have F_synchronisation_xb_9 : Fld Z h9 xb "com/example/lint_for_clocks/lintforclocks/model/Edge" "synchronisation" "Lcom/example/lint_for_clocks/lintforclocks/model/Synchronisation;" .null := F_synchronisation_xb.ext E9
  have F_assignments_xb_9 : Fld Z h9 xb "com/example/lint_for_clocks/lintforclocks/model/Edge" "assignments" "Ljava/util/List;" .null := F_assignments_xb.ext E9
  show own_GoW p e below s _ _ _ (T9.setTop (mkF m 42 #[.val (.int p0), .val (.int p1), .val (.int p2), .val (.int p3), .val (.int p4), .val (.int p5), .val (.ref al), .unset, .unset, .unset, .unset, .unset, .unset] [(.ref b9), (.ref xb), (.ref xb), (.ref al)]))
  obtain ⟨b10, T10, h10, k10, X10, e10, E10, hS10, hk10, hZ, hown, st10⟩ := ldcS (s := s) (vm0 := T9.vm) X9 hx hZ hown (hw _ (List.mem_of_getElem? (i := 98) rfl)) (own_str hw) e9 hS9 hk9 (g := (mkF m 42 #[.val (.int p0), .val (.int p1), .val (.int p2), .val (.int p3), .val (.int p4), .val (.int p5), .val (.ref al), .unset, .unset, .unset, .unset, .unset, .unset] [(.ref b9), (.ref xb), (.ref xb), (.ref al)])) rfl (hb hby at_42) (n := 8) (by decide) (by decide) (by decide) (by decide)
  refine own_goW (fun t_ kt_ => st10 _ kt_) ?_
  have ZZ_10 : n0 ≤ h10.size := Nat.le_trans ZZ_9 E10.1
  have E_al_10 : Exa Z h10 al "java/util/ArrayList" := E_al_9.ext E10
  have E_xa_10 : Exa Z h10 xa "com/example/lint_for_clocks/lintforclocks/model/Edge" := E_xa_9.ext E10
  have F_line_xa_10 : Fld Z h10 xa "com/example/lint_for_clocks/lintforclocks/model/Edge" "line" "I" (.int p0) := F_line_xa_9.ext E10
  have F_modCount_al_10 : Fld Z h10 al "java/util/AbstractList" "modCount" "I" (.int ((0 : Int32) + (1 : Int32))) := F_modCount_al_9.ext E10
  have F_elementData_al_10 : Fld Z h10 al "java/util/ArrayList" "elementData" "[Ljava/lang/Object;" (.ref ba) := F_elementData_al_9.ext E10
  have F_size_al_10 : Fld Z h10 al "java/util/ArrayList" "size" "I" (.int (1 : Int32)) := F_size_al_9.ext E10
  have V_ba_10 : own_Ary Z h10 ba (.object "java/lang/Object") 10 (own_set (fun _ => .null) 0 (.ref xa)) := V_ba_9.ext E10
  have O_ba_10 : own_Ov Z h10 ba "java/lang/Object" := O_ba_9.ext E10
  have E_xb_10 : Exa Z h10 xb "com/example/lint_for_clocks/lintforclocks/model/Edge" := E_xb_9.ext E10
  have F_source_xb_10 : Fld Z h10 xb "com/example/lint_for_clocks/lintforclocks/model/Edge" "source" "Ljava/lang/String;" .null := F_source_xb_9.ext E10
  have F_target_xb_10 : Fld Z h10 xb "com/example/lint_for_clocks/lintforclocks/model/Edge" "target" "Ljava/lang/String;" .null := F_target_xb_9.ext E10
  have F_line_xb_10 : Fld Z h10 xb "com/example/lint_for_clocks/lintforclocks/model/Edge" "line" "I" (.int (0 : Int32)) := F_line_xb_9.ext E10
  have F_labels_xb_10 : Fld Z h10 xb "com/example/lint_for_clocks/lintforclocks/model/Edge" "labels" "Ljava/util/List;" .null := F_labels_xb_9.ext E10
  have F_selects_xb_10 : Fld Z h10 xb "com/example/lint_for_clocks/lintforclocks/model/Edge" "selects" "Ljava/util/List;" .null := F_selects_xb_9.ext E10
  have F_guard_xb_10 : Fld Z h10 xb "com/example/lint_for_clocks/lintforclocks/model/Edge" "guard" "Lcom/example/lint_for_clocks/lintforclocks/model/Expr;" .null := F_guard_xb_9.ext E10
  have F_synchronisation_xb_10 : Fld Z h10 xb "com/example/lint_for_clocks/lintforclocks/model/Edge" "synchronisation" "Lcom/example/lint_for_clocks/lintforclocks/model/Synchronisation;" .null := F_synchronisation_xb_9.ext E10
  have F_assignments_xb_10 : Fld Z h10 xb "com/example/lint_for_clocks/lintforclocks/model/Edge" "assignments" "Ljava/util/List;" .null := F_assignments_xb_9.ext E10
  show own_GoW p e below s _ _ _ (T10.setTop (mkF m 44 #[.val (.int p0), .val (.int p1), .val (.int p2), .val (.int p3), .val (.int p4), .val (.int p5), .val (.ref al), .unset, .unset, .unset, .unset, .unset, .unset] [(.ref b10), (.ref b9), (.ref xb), (.ref xb), (.ref al)]))
  refine own_goW (fun t_ kt_ => XS.iloadN X10.here hx rfl (hb hby at_44) rfl kt_) ?_
  show own_GoW p e below s _ _ _ (T10.setTop (mkF m 45 #[.val (.int p0), .val (.int p1), .val (.int p2), .val (.int p3), .val (.int p4), .val (.int p5), .val (.ref al), .unset, .unset, .unset, .unset, .unset, .unset] [(.int p1), (.ref b10), (.ref b9), (.ref xb), (.ref xb), (.ref al)]))
  refine own_goW (fun t_ kt_ => XS.aconstNull X10.here hx rfl (hb hby at_45) kt_) ?_
  show own_GoW p e below s _ _ _ (T10.setTop (mkF m 46 #[.val (.int p0), .val (.int p1), .val (.int p2), .val (.int p3), .val (.int p4), .val (.int p5), .val (.ref al), .unset, .unset, .unset, .unset, .unset, .unset] [.null, (.int p1), (.ref b10), (.ref b9), (.ref xb), (.ref xb), (.ref al)]))
  refine own_goW (fun t_ kt_ => XS.aconstNull X10.here hx rfl (hb hby at_46) kt_) ?_
  show own_GoW p e below s _ _ _ (T10.setTop (mkF m 47 #[.val (.int p0), .val (.int p1), .val (.int p2), .val (.int p3), .val (.int p4), .val (.int p5), .val (.ref al), .unset, .unset, .unset, .unset, .unset, .unset] [.null, .null, (.int p1), (.ref b10), (.ref b9), (.ref xb), (.ref xb), (.ref al)]))
  refine own_goW (fun t_ kt_ => XS.aconstNull X10.here hx rfl (hb hby at_47) kt_) ?_
  show own_GoW p e below s _ _ _ (T10.setTop (mkF m 48 #[.val (.int p0), .val (.int p1), .val (.int p2), .val (.int p3), .val (.int p4), .val (.int p5), .val (.ref al), .unset, .unset, .unset, .unset, .unset, .unset] [.null, .null, .null, (.int p1), (.ref b10), (.ref b9), (.ref xb), (.ref xb), (.ref al)]))
  refine own_goW (fun t_ kt_ => XS.aconstNull X10.here hx rfl (hb hby at_48) kt_) ?_
  show own_GoW p e below s _ _ _ (T10.setTop (mkF m 49 #[.val (.int p0), .val (.int p1), .val (.int p2), .val (.int p3), .val (.int p4), .val (.int p5), .val (.ref al), .unset, .unset, .unset, .unset, .unset, .unset] [.null, .null, .null, .null, (.int p1), (.ref b10), (.ref b9), (.ref xb), (.ref xb), (.ref al)]))
  refine own_goW (fun t_ kt_ => XS.aconstNull X10.here hx rfl (hb hby at_49) kt_) ?_
  show own_GoW p e below s _ _ _ (T10.setTop (mkF m 50 #[.val (.int p0), .val (.int p1), .val (.int p2), .val (.int p3), .val (.int p4), .val (.int p5), .val (.ref al), .unset, .unset, .unset, .unset, .unset, .unset] [.null, .null, .null, .null, .null, (.int p1), (.ref b10), (.ref b9), (.ref xb), (.ref xb), (.ref al)]))
  obtain ⟨_, _, ⟨T11, L11, k11, n11⟩, -, X11, ⟨Lc11, hQ11, l11, y11, z11⟩, st11⟩ := X10.specialBack hx (y := (⟨"com/example/lint_for_clocks/lintforclocks/model/Edge", "<init>", "(Ljava/lang/String;Ljava/lang/String;ILjava/util/List;Ljava/util/List;Lcom/example/lint_for_clocks/lintforclocks/model/Expr;Lcom/example/lint_for_clocks/lintforclocks/model/Synchronisation;Ljava/util/List;)V"⟩ : MethodName)) rfl hown (mvT hZ (hw _ (List.mem_of_getElem? (i := 38) rfl))) (mvT hZ (hw _ (List.mem_of_getElem? (i := 39) rfl))) (mvT hZ (hw _ (List.mem_of_getElem? (i := 40) rfl))) (by decide) (backOf (W := 2) (rm5 l Z a0 hw [] (xb) (b9) (b10) (p1) h10 n0 ZZ_10 F_source_xb_10 F_target_xb_10 F_line_xb_10 F_labels_xb_10 F_selects_xb_10 F_guard_xb_10 F_synchronisation_xb_10 F_assignments_xb_10 E_xb_10 gt_xb) hZ (hw _ (List.mem_of_getElem? (i := 40) rfl)) (hw _ (List.mem_of_getElem? (i := 28) rfl)) (by decide) (by decide)) (g := (mkF m 50 #[.val (.int p0), .val (.int p1), .val (.int p2), .val (.int p3), .val (.int p4), .val (.int p5), .val (.ref al), .unset, .unset, .unset, .unset, .unset, .unset] [.null, .null, .null, .null, .null, (.int p1), (.ref b10), (.ref b9), (.ref xb), (.ref xb), (.ref al)])) rfl (by rw [hml]; rfl) (Steps.refl _) (a := xb) (argsL := [(.ref b9), (.ref b10), (.int p1), .null, .null, .null, .null, .null]) (rest := [(.ref xb), (.ref al)]) (lenOf pd_9 rfl) rfl (by show 2 * 0 + _ ≤ _; exact Nat.le_of_eq rfl) (hb hby at_50) (fun _ _ => ⟨rfl, e10, (by decide : 12 + 0 ≤ _), (by decide : 77 + 0 ≤ _)⟩)
  dsimp only [Pt.U, Pt.locs, Pt.cells, Pt.slots] at X11 l11 y11 z11 st11 hQ11
  subst l11 y11 z11
  obtain ⟨rfl, Nq11, Kq11, Fq11⟩ := hQ11
  have N11 := Fr.app N7g Nq11
  refine own_goW (fun t_ kt_ => st11.trans kt_) ?_
  obtain ⟨lo11, X11g, N11g⟩ : ∃ lo, Stand p l e room_1 (s.setVm T10.vm) m #[(.int p0), (.int p1), (.int p2), (.int p3), (.int p4), (.int p5)] below meth c T11 lo 12 77 ∧ Fr n0 lo := ⟨_, X11, N11⟩
  obtain ⟨h11, e11⟩ : ∃ z, T11.heap = z := ⟨_, rfl⟩
  rw [e11] at Kq11 Fq11
  have ZZ_11 : n0 ≤ h11.size := Nat.le_trans ZZ_10 Kq11.1
  have E_al_11 : Exa Z h11 al "java/util/ArrayList" := E_al_10.keep Kq11
  have E_xa_11 : Exa Z h11 xa "com/example/lint_for_clocks/lintforclocks/model/Edge" := E_xa_10.keep Kq11
  have F_line_xa_11 : Fld Z h11 xa "com/example/lint_for_clocks/lintforclocks/model/Edge" "line" "I" (.int p0) := F_line_xa_10.keep Kq11 (ninS ne_xa_xb nin0)
  have F_modCount_al_11 : Fld Z h11 al "java/util/AbstractList" "modCount" "I" (.int ((0 : Int32) + (1 : Int32))) := F_modCount_al_10.keep Kq11 (ninS ne_al_xb nin0)
  have F_elementData_al_11 : Fld Z h11 al "java/util/ArrayList" "elementData" "[Ljava/lang/Object;" (.ref ba) := F_elementData_al_10.keep Kq11 (ninS ne_al_xb nin0)
  have F_size_al_11 : Fld Z h11 al "java/util/ArrayList" "size" "I" (.int (1 : Int32)) := F_size_al_10.keep Kq11 (ninS ne_al_xb nin0)
  have V_ba_11 : own_Ary Z h11 ba (.object "java/lang/Object") 10 (own_set (fun _ => .null) 0 (.ref xa)) := V_ba_10.keep Kq11 (ninS ne_ba_xb nin0)
  have O_ba_11 : own_Ov Z h11 ba "java/lang/Object" := O_ba_10.keep Kq11
  have E_xb_11 : Exa Z h11 xb "com/example/lint_for_clocks/lintforclocks/model/Edge" := E_xb_10.keep Kq11
  have KS_11 : k10 ≤ h11.size := Nat.le_trans hk10 Kq11.1
  show own_GoW p e below s _ _ _ (T11.setTop (mkF m 53 #[.val (.int p0), .val (.int p1), .val (.int p2), .val (.int p3), .val (.int p4), .val (.int p5), .val (.ref al), .unset, .unset, .unset, .unset, .unset, .unset] [(.ref xb), (.ref al)]))
  obtain ⟨cq12, kq12, q12a, q12b, q12c⟩ := isOf hZ e11 E_al_11
  obtain ⟨_, _, ⟨T12, L12, k12, n12⟩, -, X12, ⟨Lc12, hQ12, l12, y12, z12⟩, st12⟩ := X11g.interfaceBack hx (xi := (⟨"java/util/List", "add", "(Ljava/lang/Object;)Z"⟩ : MethodName)) (y := (⟨"java/util/ArrayList", "add", "(Ljava/lang/Object;)Z"⟩ : MethodName)) hown (mvT hZ (hw _ (List.mem_of_getElem? (i := 63) rfl))) (mvT hZ (hw _ (List.mem_of_getElem? (i := 64) rfl))) (mvT hZ (hw _ (List.mem_of_getElem? (i := 65) rfl))) (mvT hZ (hw _ (List.mem_of_getElem? (i := 66) rfl))) (mvT hZ (hw _ (List.mem_of_getElem? (i := 67) rfl))) (mvT hZ (hw _ (List.mem_of_getElem? (i := 68) rfl))) (mvT hZ (hw _ (List.mem_of_getElem? (i := 69) rfl))) (mvT hZ (hw _ (List.mem_of_getElem? (i := 70) rfl))) (by decide) (backOf (W := 0) (rm7n l Z a0 hw [] (al) (xb) (((0 : Int32) + (1 : Int32))) ((own_set (fun _ => .null) 0 (.ref xa))) (1) ((1 : Int32)) (ba) h11 n0 ZZ_11 F_modCount_al_11 F_elementData_al_11 F_size_al_11 E_al_11 gt_al V_ba_11 O_ba_11 E_xb_11 gq7 ne_al_ba ne_al_xb (Ne.symm ne_ba_xb) (by decide) (by decide)) hZ (hw _ (List.mem_of_getElem? (i := 71) rfl)) (hw _ (List.mem_of_getElem? (i := 2) rfl)) (by decide) (by decide)) q12a q12b q12c (g := (mkF m 53 #[.val (.int p0), .val (.int p1), .val (.int p2), .val (.int p3), .val (.int p4), .val (.int p5), .val (.ref al), .unset, .unset, .unset, .unset, .unset, .unset] [(.ref xb), (.ref al)])) rfl (by rw [hml]; rfl) (Steps.refl _) (argsL := [(.ref xb)]) (rest := []) (lenOf pd_10 rfl) rfl (by show 2 * 0 + _ ≤ _; exact Nat.le_of_eq rfl) (hb hby at_53) (fun _ _ => ⟨rfl, e11, (by decide : 12 + 0 ≤ _), (by decide : 77 + 0 ≤ _)⟩)
  dsimp only [Pt.U, Pt.locs, Pt.cells, Pt.slots] at X12 l12 y12 z12 st12 hQ12
  subst l12 y12 z12
  obtain ⟨rfl, Nq12, Kq12, Vq12, Oq12, Fq12a, Fq12b, Fq12c⟩ := hQ12
  have N12 := Fr.app N11g Nq12
  refine own_goW (fun t_ kt_ => st12.trans kt_) ?_
  obtain ⟨lo12, X12g, N12g⟩ : ∃ lo, Stand p l e room_1 (s.setVm T10.vm) m #[(.int p0), (.int p1), (.int p2), (.int p3), (.int p4), (.int p5)] below meth c T12 lo 12 77 ∧ Fr n0 lo := ⟨_, X12, N12⟩
  obtain ⟨h12, e12⟩ : ∃ z, T12.heap = z := ⟨_, rfl⟩
  rw [e12] at Kq12 Vq12 Oq12 Fq12a Fq12b Fq12c
  have ZZ_12 : n0 ≤ h12.size := Nat.le_trans ZZ_11 Kq12.1
  have E_al_12 : Exa Z h12 al "java/util/ArrayList" := E_al_11.keep Kq12
  have E_xa_12 : Exa Z h12 xa "com/example/lint_for_clocks/lintforclocks/model/Edge" := E_xa_11.keep Kq12
  have F_line_xa_12 : Fld Z h12 xa "com/example/lint_for_clocks/lintforclocks/model/Edge" "line" "I" (.int p0) := F_line_xa_11.keep Kq12 (ninS (Ne.symm ne_al_xa) (ninS ne_xa_ba nin0))
  have O_ba_12 : own_Ov Z h12 ba "java/lang/Object" := O_ba_11.keep Kq12
  have E_xb_12 : Exa Z h12 xb "com/example/lint_for_clocks/lintforclocks/model/Edge" := E_xb_11.keep Kq12
  have KS_12 : k10 ≤ h12.size := Nat.le_trans KS_11 Kq12.1
  have F_line_xb_12 : Fld Z h12 xb "com/example/lint_for_clocks/lintforclocks/model/Edge" "line" "I" (.int p1) := Fq11.keep Kq12 (ninS (Ne.symm ne_al_xb) (ninS (Ne.symm ne_ba_xb) nin0))
  have Fs12 : Fld Z h12 al "java/util/ArrayList" "size" "I" (.int (2 : Int32)) := Fq12c
  show own_GoW p e below s _ _ _ (T12.setTop (mkF m 58 #[.val (.int p0), .val (.int p1), .val (.int p2), .val (.int p3), .val (.int p4), .val (.int p5), .val (.ref al), .unset, .unset, .unset, .unset, .unset, .unset] [(.int (1 : Int32))]))
  refine own_goW (fun t_ kt_ => XS.pop X12g.here hx rfl (hb hby at_58) rfl rfl kt_) ?_
  show own_GoW p e below s _ _ _ (T12.setTop (mkF m 59 #[.val (.int p0), .val (.int p1), .val (.int p2), .val (.int p3), .val (.int p4), .val (.int p5), .val (.ref al), .unset, .unset, .unset, .unset, .unset, .unset] []))
  refine own_goW (fun t_ kt_ => XS.aload X12g.here hx rfl (hb hby at_59) rfl rfl kt_) ?_
  show own_GoW p e below s _ _ _ (T12.setTop (mkF m 61 #[.val (.int p0), .val (.int p1), .val (.int p2), .val (.int p3), .val (.int p4), .val (.int p5), .val (.ref al), .unset, .unset, .unset, .unset, .unset, .unset] [(.ref al)]))
  obtain ⟨T13, h13, X13, e13, E13, A13, D13, U13, st13⟩ := newO X12g hx hZ hown (hw _ (List.mem_of_getElem? (i := 26) rfl)) (hw _ (List.mem_of_getElem? (i := 27) rfl)) (hw _ (List.mem_of_getElem? (i := 28) rfl)) e12 (g := (mkF m 61 #[.val (.int p0), .val (.int p1), .val (.int p2), .val (.int p3), .val (.int p4), .val (.int p5), .val (.ref al), .unset, .unset, .unset, .unset, .unset, .unset] [(.ref al)])) rfl (hb hby at_61) (by decide) (by decide)
  obtain ⟨xc, g13⟩ : ∃ z, z = h12.size := ⟨_, rfl⟩
  rw [← g13] at A13 D13 U13 st13
  refine own_goW (fun t_ kt_ => st13 _ kt_) ?_
  have gt_xc : n0 ≤ xc := Nat.le_trans ZZ_12 (Nat.le_of_eq g13.symm)
  have ne_al_xc : al ≠ xc := Nat.ne_of_lt (Nat.lt_of_lt_of_le E_al_12.lt (Nat.le_of_eq g13.symm))
  have ne_xa_xc : xa ≠ xc := Nat.ne_of_lt (Nat.lt_of_lt_of_le E_xa_12.lt (Nat.le_of_eq g13.symm))
  have ne_xb_xc : xb ≠ xc := Nat.ne_of_lt (Nat.lt_of_lt_of_le E_xb_12.lt (Nat.le_of_eq g13.symm))
  have ne_ba_xc : ba ≠ xc := Nat.ne_of_lt (Nat.lt_of_lt_of_le Vq12.lt (Nat.le_of_eq g13.symm))
  have ZZ_13 : n0 ≤ h13.size := Nat.le_trans ZZ_12 E13.1
  have E_al_13 : Exa Z h13 al "java/util/ArrayList" := E_al_12.ext E13
  have E_xa_13 : Exa Z h13 xa "com/example/lint_for_clocks/lintforclocks/model/Edge" := E_xa_12.ext E13
  have F_line_xa_13 : Fld Z h13 xa "com/example/lint_for_clocks/lintforclocks/model/Edge" "line" "I" (.int p0) := F_line_xa_12.ext E13
  have O_ba_13 : own_Ov Z h13 ba "java/lang/Object" := Oq12.ext E13
  have E_xb_13 : Exa Z h13 xb "com/example/lint_for_clocks/lintforclocks/model/Edge" := E_xb_12.ext E13
  have KS_13 : k10 ≤ h13.size := Nat.le_trans KS_12 E13.1
  have F_line_xb_13 : Fld Z h13 xb "com/example/lint_for_clocks/lintforclocks/model/Edge" "line" "I" (.int p1) := F_line_xb_12.ext E13
  have F_modCount_al_13 : Fld Z h13 al "java/util/AbstractList" "modCount" "I" (.int (((0 : Int32) + (1 : Int32)) + (1 : Int32))) := Fq12a.ext E13
  have F_elementData_al_13 : Fld Z h13 al "java/util/ArrayList" "elementData" "[Ljava/lang/Object;" (.ref ba) := Fq12b.ext E13
  have F_size_al_13 : Fld Z h13 al "java/util/ArrayList" "size" "I" (.int (2 : Int32)) := Fs12.ext E13
  have V_ba_13 : own_Ary Z h13 ba (.object "java/lang/Object") 10 (own_set (own_set (fun _ => .null) 0 (.ref xa)) 1 (.ref xb)) := Vq12.ext E13
  have F_source_xc : Fld Z h13 xc "com/example/lint_for_clocks/lintforclocks/model/Edge" "source" "Ljava/lang/String;" .null := D13 (Or.inr (hw _ (List.mem_of_getElem? (i := 48) rfl))) (ty := (.object "java/lang/String")) (by decide)
  have F_target_xc : Fld Z h13 xc "com/example/lint_for_clocks/lintforclocks/model/Edge" "target" "Ljava/lang/String;" .null := D13 (Or.inr (hw _ (List.mem_of_getElem? (i := 50) rfl))) (ty := (.object "java/lang/String")) (by decide)
  have F_line_xc : Fld Z h13 xc "com/example/lint_for_clocks/lintforclocks/model/Edge" "line" "I" (.int (0 : Int32)) := D13 (Or.inr (hw _ (List.mem_of_getElem? (i := 52) rfl))) (ty := .int) (by decide)
  have F_labels_xc : Fld Z h13 xc "com/example/lint_for_clocks/lintforclocks/model/Edge" "labels" "Ljava/util/List;" .null := D13 (Or.inr (hw _ (List.mem_of_getElem? (i := 54) rfl))) (ty := (.object "java/util/List")) (by decide)
  have F_selects_xc : Fld Z h13 xc "com/example/lint_for_clocks/lintforclocks/model/Edge" "selects" "Ljava/util/List;" .null := D13 (Or.inr (hw _ (List.mem_of_getElem? (i := 56) rfl))) (ty := (.object "java/util/List")) (by decide)
  have F_guard_xc : Fld Z h13 xc "com/example/lint_for_clocks/lintforclocks/model/Edge" "guard" "Lcom/example/lint_for_clocks/lintforclocks/model/Expr;" .null := D13 (Or.inr (hw _ (List.mem_of_getElem? (i := 58) rfl))) (ty := (.object "com/example/lint_for_clocks/lintforclocks/model/Expr")) (by decide)
  have F_synchronisation_xc : Fld Z h13 xc "com/example/lint_for_clocks/lintforclocks/model/Edge" "synchronisation" "Lcom/example/lint_for_clocks/lintforclocks/model/Synchronisation;" .null := D13 (Or.inr (hw _ (List.mem_of_getElem? (i := 60) rfl))) (ty := (.object "com/example/lint_for_clocks/lintforclocks/model/Synchronisation")) (by decide)
  have F_assignments_xc : Fld Z h13 xc "com/example/lint_for_clocks/lintforclocks/model/Edge" "assignments" "Ljava/util/List;" .null := D13 (Or.inr (hw _ (List.mem_of_getElem? (i := 62) rfl))) (ty := (.object "java/util/List")) (by decide)
  show own_GoW p e below s _ _ _ (T13.setTop (mkF m 64 #[.val (.int p0), .val (.int p1), .val (.int p2), .val (.int p3), .val (.int p4), .val (.int p5), .val (.ref al), .unset, .unset, .unset, .unset, .unset, .unset] [(.ref xc), (.ref al)]))
  refine own_goW (fun t_ kt_ => XS.dup X13.here hx rfl (hb hby at_64) rfl rfl kt_) ?_
  show own_GoW p e below s _ _ _ (T13.setTop (mkF m 65 #[.val (.int p0), .val (.int p1), .val (.int p2), .val (.int p3), .val (.int p4), .val (.int p5), .val (.ref al), .unset, .unset, .unset, .unset, .unset, .unset] [(.ref xc), (.ref xc), (.ref al)]))
  obtain ⟨b14, T14, h14, k14, X14, e14, E14, hS14, hk14, hZ, hown, st14⟩ := ldcS (s := s) (vm0 := T10.vm) X13 hx hZ hown (hw _ (List.mem_of_getElem? (i := 98) rfl)) (own_str hw) e13 hS10 KS_13 (g := (mkF m 65 #[.val (.int p0), .val (.int p1), .val (.int p2), .val (.int p3), .val (.int p4), .val (.int p5), .val (.ref al), .unset, .unset, .unset, .unset, .unset, .unset] [(.ref xc), (.ref xc), (.ref al)])) rfl (hb hby at_65) (n := 8) (by decide) (by decide) (by decide) (by decide)
  refine own_goW (fun t_ kt_ => st14 _ kt_) ?_
  have ZZ_14 : n0 ≤ h14.size := Nat.le_trans ZZ_13 E14.1
  have E_al_14 : Exa Z h14 al "java/util/ArrayList" := E_al_13.ext E14
  have E_xa_14 : Exa Z h14 xa "com/example/lint_for_clocks/lintforclocks/model/Edge" := E_xa_13.ext E14
  have F_line_xa_14 : Fld Z h14 xa "com/example/lint_for_clocks/lintforclocks/model/Edge" "line" "I" (.int p0) := F_line_xa_13.ext E14
  have O_ba_14 : own_Ov Z h14 ba "java/lang/Object" := O_ba_13.ext E14
  have E_xb_14 : Exa Z h14 xb "com/example/lint_for_clocks/lintforclocks/model/Edge" := E_xb_13.ext E14
  have F_line_xb_14 : Fld Z h14 xb "com/example/lint_for_clocks/lintforclocks/model/Edge" "line" "I" (.int p1) := F_line_xb_13.ext E14
  have F_modCount_al_14 : Fld Z h14 al "java/util/AbstractList" "modCount" "I" (.int (((0 : Int32) + (1 : Int32)) + (1 : Int32))) := F_modCount_al_13.ext E14
  have F_elementData_al_14 : Fld Z h14 al "java/util/ArrayList" "elementData" "[Ljava/lang/Object;" (.ref ba) := F_elementData_al_13.ext E14
  have F_size_al_14 : Fld Z h14 al "java/util/ArrayList" "size" "I" (.int (2 : Int32)) := F_size_al_13.ext E14
  have V_ba_14 : own_Ary Z h14 ba (.object "java/lang/Object") 10 (own_set (own_set (fun _ => .null) 0 (.ref xa)) 1 (.ref xb)) := V_ba_13.ext E14
  have E_xc_14 : Exa Z h14 xc "com/example/lint_for_clocks/lintforclocks/model/Edge" := A13.ext E14
  have F_source_xc_14 : Fld Z h14 xc "com/example/lint_for_clocks/lintforclocks/model/Edge" "source" "Ljava/lang/String;" .null := F_source_xc.ext E14
  have F_target_xc_14 : Fld Z h14 xc "com/example/lint_for_clocks/lintforclocks/model/Edge" "target" "Ljava/lang/String;" .null := F_target_xc.ext E14
  have F_line_xc_14 : Fld Z h14 xc "com/example/lint_for_clocks/lintforclocks/model/Edge" "line" "I" (.int (0 : Int32)) := F_line_xc.ext E14
  have F_labels_xc_14 : Fld Z h14 xc "com/example/lint_for_clocks/lintforclocks/model/Edge" "labels" "Ljava/util/List;" .null := F_labels_xc.ext E14
  have F_selects_xc_14 : Fld Z h14 xc "com/example/lint_for_clocks/lintforclocks/model/Edge" "selects" "Ljava/util/List;" .null := F_selects_xc.ext E14
  have F_guard_xc_14 : Fld Z h14 xc "com/example/lint_for_clocks/lintforclocks/model/Edge" "guard" "Lcom/example/lint_for_clocks/lintforclocks/model/Expr;" .null := F_guard_xc.ext E14
  have F_synchronisation_xc_14 : Fld Z h14 xc "com/example/lint_for_clocks/lintforclocks/model/Edge" "synchronisation" "Lcom/example/lint_for_clocks/lintforclocks/model/Synchronisation;" .null := F_synchronisation_xc.ext E14
  have F_assignments_xc_14 : Fld Z h14 xc "com/example/lint_for_clocks/lintforclocks/model/Edge" "assignments" "Ljava/util/List;" .null := F_assignments_xc.ext E14
  show own_GoW p e below s _ _ _ (T14.setTop (mkF m 67 #[.val (.int p0), .val (.int p1), .val (.int p2), .val (.int p3), .val (.int p4), .val (.int p5), .val (.ref al), .unset, .unset, .unset, .unset, .unset, .unset] [(.ref b14), (.ref xc), (.ref xc), (.ref al)]))
  obtain ⟨b15, T15, h15, k15, X15, e15, E15, hS15, hk15, hZ, hown, st15⟩ := ldcS (s := s) (vm0 := T14.vm) X14 hx hZ hown (hw _ (List.mem_of_getElem? (i := 29) rfl)) (own_str hw) e14 hS14 hk14 (g := (mkF m 67 #[.val (.int p0), .val (.int p1), .val (.int p2), .val (.int p3), .val (.int p4), .val (.int p5), .val (.ref al), .unset, .unset, .unset, .unset, .unset, .unset] [(.ref b14), (.ref xc), (.ref xc), (.ref al)])) rfl (hb hby at_67) (n := 8) (by decide) (by decide) (by decide) (by decide)
  refine own_goW (fun t_ kt_ => st15 _ kt_) ?_
  have ZZ_15 : n0 ≤ h15.size := Nat.le_trans ZZ_14 E15.1
  have E_al_15 : Exa Z h15 al "java/util/ArrayList" := E_al_14.ext E15
  have E_xa_15 : Exa Z h15 xa "com/example/lint_for_clocks/lintforclocks/model/Edge" := E_xa_14.ext E15
  have F_line_xa_15 : Fld Z h15 xa "com/example/lint_for_clocks/lintforclocks/model/Edge" "line" "I" (.int p0) := F_line_xa_14.ext E15
  have O_ba_15 : own_Ov Z h15 ba "java/lang/Object" := O_ba_14.ext E15
  have E_xb_15 : Exa Z h15 xb "com/example/lint_for_clocks/lintforclocks/model/Edge" := E_xb_14.ext E15
  have F_line_xb_15 : Fld Z h15 xb "com/example/lint_for_clocks/lintforclocks/model/Edge" "line" "I" (.int p1) := F_line_xb_14.ext E15
  have F_modCount_al_15 : Fld Z h15 al "java/util/AbstractList" "modCount" "I" (.int (((0 : Int32) + (1 : Int32)) + (1 : Int32))) := F_modCount_al_14.ext E15
  have F_elementData_al_15 : Fld Z h15 al "java/util/ArrayList" "elementData" "[Ljava/lang/Object;" (.ref ba) := F_elementData_al_14.ext E15
  have F_size_al_15 : Fld Z h15 al "java/util/ArrayList" "size" "I" (.int (2 : Int32)) := F_size_al_14.ext E15
  have V_ba_15 : own_Ary Z h15 ba (.object "java/lang/Object") 10 (own_set (own_set (fun _ => .null) 0 (.ref xa)) 1 (.ref xb)) := V_ba_14.ext E15
  have E_xc_15 : Exa Z h15 xc "com/example/lint_for_clocks/lintforclocks/model/Edge" := E_xc_14.ext E15
  have F_source_xc_15 : Fld Z h15 xc "com/example/lint_for_clocks/lintforclocks/model/Edge" "source" "Ljava/lang/String;" .null := F_source_xc_14.ext E15
  have F_target_xc_15 : Fld Z h15 xc "com/example/lint_for_clocks/lintforclocks/model/Edge" "target" "Ljava/lang/String;" .null := F_target_xc_14.ext E15
  have F_line_xc_15 : Fld Z h15 xc "com/example/lint_for_clocks/lintforclocks/model/Edge" "line" "I" (.int (0 : Int32)) := F_line_xc_14.ext E15
  have F_labels_xc_15 : Fld Z h15 xc "com/example/lint_for_clocks/lintforclocks/model/Edge" "labels" "Ljava/util/List;" .null := F_labels_xc_14.ext E15
  have F_selects_xc_15 : Fld Z h15 xc "com/example/lint_for_clocks/lintforclocks/model/Edge" "selects" "Ljava/util/List;" .null := F_selects_xc_14.ext E15
  have F_guard_xc_15 : Fld Z h15 xc "com/example/lint_for_clocks/lintforclocks/model/Edge" "guard" "Lcom/example/lint_for_clocks/lintforclocks/model/Expr;" .null := F_guard_xc_14.ext E15
  have F_synchronisation_xc_15 : Fld Z h15 xc "com/example/lint_for_clocks/lintforclocks/model/Edge" "synchronisation" "Lcom/example/lint_for_clocks/lintforclocks/model/Synchronisation;" .null := F_synchronisation_xc_14.ext E15
  have F_assignments_xc_15 : Fld Z h15 xc "com/example/lint_for_clocks/lintforclocks/model/Edge" "assignments" "Ljava/util/List;" .null := F_assignments_xc_14.ext E15
  show own_GoW p e below s _ _ _ (T15.setTop (mkF m 69 #[.val (.int p0), .val (.int p1), .val (.int p2), .val (.int p3), .val (.int p4), .val (.int p5), .val (.ref al), .unset, .unset, .unset, .unset, .unset, .unset] [(.ref b15), (.ref b14), (.ref xc), (.ref xc), (.ref al)]))
  refine own_goW (fun t_ kt_ => XS.iloadN X15.here hx rfl (hb hby at_69) rfl kt_) ?_
  show own_GoW p e below s _ _ _ (T15.setTop (mkF m 70 #[.val (.int p0), .val (.int p1), .val (.int p2), .val (.int p3), .val (.int p4), .val (.int p5), .val (.ref al), .unset, .unset, .unset, .unset, .unset, .unset] [(.int p2), (.ref b15), (.ref b14), (.ref xc), (.ref xc), (.ref al)]))
  refine own_goW (fun t_ kt_ => XS.aconstNull X15.here hx rfl (hb hby at_70) kt_) ?_
  show own_GoW p e below s _ _ _ (T15.setTop (mkF m 71 #[.val (.int p0), .val (.int p1), .val (.int p2), .val (.int p3), .val (.int p4), .val (.int p5), .val (.ref al), .unset, .unset, .unset, .unset, .unset, .unset] [.null, (.int p2), (.ref b15), (.ref b14), (.ref xc), (.ref xc), (.ref al)]))
  refine own_goW (fun t_ kt_ => XS.aconstNull X15.here hx rfl (hb hby at_71) kt_) ?_
  show own_GoW p e below s _ _ _ (T15.setTop (mkF m 72 #[.val (.int p0), .val (.int p1), .val (.int p2), .val (.int p3), .val (.int p4), .val (.int p5), .val (.ref al), .unset, .unset, .unset, .unset, .unset, .unset] [.null, .null, (.int p2), (.ref b15), (.ref b14), (.ref xc), (.ref xc), (.ref al)]))
  refine own_goW (fun t_ kt_ => XS.aconstNull X15.here hx rfl (hb hby at_72) kt_) ?_
  show own_GoW p e below s _ _ _ (T15.setTop (mkF m 73 #[.val (.int p0), .val (.int p1), .val (.int p2), .val (.int p3), .val (.int p4), .val (.int p5), .val (.ref al), .unset, .unset, .unset, .unset, .unset, .unset] [.null, .null, .null, (.int p2), (.ref b15), (.ref b14), (.ref xc), (.ref xc), (.ref al)]))
  refine own_goW (fun t_ kt_ => XS.aconstNull X15.here hx rfl (hb hby at_73) kt_) ?_
  show own_GoW p e below s _ _ _ (T15.setTop (mkF m 74 #[.val (.int p0), .val (.int p1), .val (.int p2), .val (.int p3), .val (.int p4), .val (.int p5), .val (.ref al), .unset, .unset, .unset, .unset, .unset, .unset] [.null, .null, .null, .null, (.int p2), (.ref b15), (.ref b14), (.ref xc), (.ref xc), (.ref al)]))
  refine own_goW (fun t_ kt_ => XS.aconstNull X15.here hx rfl (hb hby at_74) kt_) ?_
  show own_GoW p e below s _ _ _ (T15.setTop (mkF m 75 #[.val (.int p0), .val (.int p1), .val (.int p2), .val (.int p3), .val (.int p4), .val (.int p5), .val (.ref al), .unset, .unset, .unset, .unset, .unset, .unset] [.null, .null, .null, .null, .null, (.int p2), (.ref b15), (.ref b14), (.ref xc), (.ref xc), (.ref al)]))
  obtain ⟨_, _, ⟨T16, L16, k16, n16⟩, -, X16, ⟨Lc16, hQ16, l16, y16, z16⟩, st16⟩ := X15.specialBack hx (y := (⟨"com/example/lint_for_clocks/lintforclocks/model/Edge", "<init>", "(Ljava/lang/String;Ljava/lang/String;ILjava/util/List;Ljava/util/List;Lcom/example/lint_for_clocks/lintforclocks/model/Expr;Lcom/example/lint_for_clocks/lintforclocks/model/Synchronisation;Ljava/util/List;)V"⟩ : MethodName)) rfl hown (mvT hZ (hw _ (List.mem_of_getElem? (i := 38) rfl))) (mvT hZ (hw _ (List.mem_of_getElem? (i := 39) rfl))) (mvT hZ (hw _ (List.mem_of_getElem? (i := 40) rfl))) (by decide) (backOf (W := 2) (rm5 l Z a0 hw [] (xc) (b14) (b15) (p2) h15 n0 ZZ_15 F_source_xc_15 F_target_xc_15 F_line_xc_15 F_labels_xc_15 F_selects_xc_15 F_guard_xc_15 F_synchronisation_xc_15 F_assignments_xc_15 E_xc_15 gt_xc) hZ (hw _ (List.mem_of_getElem? (i := 40) rfl)) (hw _ (List.mem_of_getElem? (i := 28) rfl)) (by decide) (by decide)) (g := (mkF m 75 #[.val (.int p0), .val (.int p1), .val (.int p2), .val (.int p3), .val (.int p4), .val (.int p5), .val (.ref al), .unset, .unset, .unset, .unset, .unset, .unset] [.null, .null, .null, .null, .null, (.int p2), (.ref b15), (.ref b14), (.ref xc), (.ref xc), (.ref al)])) rfl (by rw [hml]; rfl) (Steps.refl _) (a := xc) (argsL := [(.ref b14), (.ref b15), (.int p2), .null, .null, .null, .null, .null]) (rest := [(.ref xc), (.ref al)]) (lenOf pd_9 rfl) rfl (by show 2 * 0 + _ ≤ _; exact Nat.le_of_eq rfl) (hb hby at_75) (fun _ _ => ⟨rfl, e15, (by decide : 17 + 0 ≤ _), (by decide : 109 + 0 ≤ _)⟩)
  dsimp only [Pt.U, Pt.locs, Pt.cells, Pt.slots] at X16 l16 y16 z16 st16 hQ16
  subst l16 y16 z16
  obtain ⟨rfl, Nq16, Kq16, Fq16⟩ := hQ16
  have N16 := Fr.app N12g Nq16
  refine own_goW (fun t_ kt_ => st16.trans kt_) ?_
  obtain ⟨lo16, X16g, N16g⟩ : ∃ lo, Stand p l e room_1 (s.setVm T15.vm) m #[(.int p0), (.int p1), (.int p2), (.int p3), (.int p4), (.int p5)] below meth c T16 lo 17 109 ∧ Fr n0 lo := ⟨_, X16, N16⟩
  obtain ⟨h16, e16⟩ : ∃ z, T16.heap = z := ⟨_, rfl⟩
  rw [e16] at Kq16 Fq16
  have ZZ_16 : n0 ≤ h16.size := Nat.le_trans ZZ_15 Kq16.1
  have E_al_16 : Exa Z h16 al "java/util/ArrayList" := E_al_15.keep Kq16
  have E_xa_16 : Exa Z h16 xa "com/example/lint_for_clocks/lintforclocks/model/Edge" := E_xa_15.keep Kq16
  have F_line_xa_16 : Fld Z h16 xa "com/example/lint_for_clocks/lintforclocks/model/Edge" "line" "I" (.int p0) := F_line_xa_15.keep Kq16 (ninS ne_xa_xc nin0)
  have O_ba_16 : own_Ov Z h16 ba "java/lang/Object" := O_ba_15.keep Kq16
  have E_xb_16 : Exa Z h16 xb "com/example/lint_for_clocks/lintforclocks/model/Edge" := E_xb_15.keep Kq16
  have F_line_xb_16 : Fld Z h16 xb "com/example/lint_for_clocks/lintforclocks/model/Edge" "line" "I" (.int p1) := F_line_xb_15.keep Kq16 (ninS ne_xb_xc nin0)
  have F_modCount_al_16 : Fld Z h16 al "java/util/AbstractList" "modCount" "I" (.int (((0 : Int32) + (1 : Int32)) + (1 : Int32))) := F_modCount_al_15.keep Kq16 (ninS ne_al_xc nin0)
  have F_elementData_al_16 : Fld Z h16 al "java/util/ArrayList" "elementData" "[Ljava/lang/Object;" (.ref ba) := F_elementData_al_15.keep Kq16 (ninS ne_al_xc nin0)
  have F_size_al_16 : Fld Z h16 al "java/util/ArrayList" "size" "I" (.int (2 : Int32)) := F_size_al_15.keep Kq16 (ninS ne_al_xc nin0)
  have V_ba_16 : own_Ary Z h16 ba (.object "java/lang/Object") 10 (own_set (own_set (fun _ => .null) 0 (.ref xa)) 1 (.ref xb)) := V_ba_15.keep Kq16 (ninS ne_ba_xc nin0)
  have E_xc_16 : Exa Z h16 xc "com/example/lint_for_clocks/lintforclocks/model/Edge" := E_xc_15.keep Kq16
  have KS_16 : k15 ≤ h16.size := Nat.le_trans hk15 Kq16.1
  show own_GoW p e below s _ _ _ (T16.setTop (mkF m 78 #[.val (.int p0), .val (.int p1), .val (.int p2), .val (.int p3), .val (.int p4), .val (.int p5), .val (.ref al), .unset, .unset, .unset, .unset, .unset, .unset] [(.ref xc), (.ref al)]))
  obtain ⟨cq17, kq17, q17a, q17b, q17c⟩ := isOf hZ e16 E_al_16
  obtain ⟨_, _, ⟨T17, L17, k17, n17⟩, -, X17, ⟨Lc17, hQ17, l17, y17, z17⟩, st17⟩ := X16g.interfaceBack hx (xi := (⟨"java/util/List", "add", "(Ljava/lang/Object;)Z"⟩ : MethodName)) (y := (⟨"java/util/ArrayList", "add", "(Ljava/lang/Object;)Z"⟩ : MethodName)) hown (mvT hZ (hw _ (List.mem_of_getElem? (i := 63) rfl))) (mvT hZ (hw _ (List.mem_of_getElem? (i := 64) rfl))) (mvT hZ (hw _ (List.mem_of_getElem? (i := 65) rfl))) (mvT hZ (hw _ (List.mem_of_getElem? (i := 66) rfl))) (mvT hZ (hw _ (List.mem_of_getElem? (i := 67) rfl))) (mvT hZ (hw _ (List.mem_of_getElem? (i := 68) rfl))) (mvT hZ (hw _ (List.mem_of_getElem? (i := 69) rfl))) (mvT hZ (hw _ (List.mem_of_getElem? (i := 70) rfl))) (by decide) (backOf (W := 0) (rm7n l Z a0 hw [] (al) (xc) ((((0 : Int32) + (1 : Int32)) + (1 : Int32))) ((own_set (own_set (fun _ => .null) 0 (.ref xa)) 1 (.ref xb))) (2) ((2 : Int32)) (ba) h16 n0 ZZ_16 F_modCount_al_16 F_elementData_al_16 F_size_al_16 E_al_16 gt_al V_ba_16 O_ba_16 E_xc_16 gq7 ne_al_ba ne_al_xc (Ne.symm ne_ba_xc) (by decide) (by decide)) hZ (hw _ (List.mem_of_getElem? (i := 71) rfl)) (hw _ (List.mem_of_getElem? (i := 2) rfl)) (by decide) (by decide)) q17a q17b q17c (g := (mkF m 78 #[.val (.int p0), .val (.int p1), .val (.int p2), .val (.int p3), .val (.int p4), .val (.int p5), .val (.ref al), .unset, .unset, .unset, .unset, .unset, .unset] [(.ref xc), (.ref al)])) rfl (by rw [hml]; rfl) (Steps.refl _) (argsL := [(.ref xc)]) (rest := []) (lenOf pd_10 rfl) rfl (by show 2 * 0 + _ ≤ _; exact Nat.le_of_eq rfl) (hb hby at_78) (fun _ _ => ⟨rfl, e16, (by decide : 17 + 0 ≤ _), (by decide : 109 + 0 ≤ _)⟩)
  dsimp only [Pt.U, Pt.locs, Pt.cells, Pt.slots] at X17 l17 y17 z17 st17 hQ17
  subst l17 y17 z17
  obtain ⟨rfl, Nq17, Kq17, Vq17, Oq17, Fq17a, Fq17b, Fq17c⟩ := hQ17
  have N17 := Fr.app N16g Nq17
  refine own_goW (fun t_ kt_ => st17.trans kt_) ?_
  obtain ⟨lo17, X17g, N17g⟩ : ∃ lo, Stand p l e room_1 (s.setVm T15.vm) m #[(.int p0), (.int p1), (.int p2), (.int p3), (.int p4), (.int p5)] below meth c T17 lo 17 109 ∧ Fr n0 lo := ⟨_, X17, N17⟩
  obtain ⟨h17, e17⟩ : ∃ z, T17.heap = z := ⟨_, rfl⟩
  rw [e17] at Kq17 Vq17 Oq17 Fq17a Fq17b Fq17c
  have ZZ_17 : n0 ≤ h17.size := Nat.le_trans ZZ_16 Kq17.1
  have E_al_17 : Exa Z h17 al "java/util/ArrayList" := E_al_16.keep Kq17
  have E_xa_17 : Exa Z h17 xa "com/example/lint_for_clocks/lintforclocks/model/Edge" := E_xa_16.keep Kq17
  have F_line_xa_17 : Fld Z h17 xa "com/example/lint_for_clocks/lintforclocks/model/Edge" "line" "I" (.int p0) := F_line_xa_16.keep Kq17 (ninS (Ne.symm ne_al_xa) (ninS ne_xa_ba nin0))
  have O_ba_17 : own_Ov Z h17 ba "java/lang/Object" := O_ba_16.keep Kq17
  have E_xb_17 : Exa Z h17 xb "com/example/lint_for_clocks/lintforclocks/model/Edge" := E_xb_16.keep Kq17
  have F_line_xb_17 : Fld Z h17 xb "com/example/lint_for_clocks/lintforclocks/model/Edge" "line" "I" (.int p1) := F_line_xb_16.keep Kq17 (ninS (Ne.symm ne_al_xb) (ninS (Ne.symm ne_ba_xb) nin0))
  have E_xc_17 : Exa Z h17 xc "com/example/lint_for_clocks/lintforclocks/model/Edge" := E_xc_16.keep Kq17
  have KS_17 : k15 ≤ h17.size := Nat.le_trans KS_16 Kq17.1
  have F_line_xc_17 : Fld Z h17 xc "com/example/lint_for_clocks/lintforclocks/model/Edge" "line" "I" (.int p2) := Fq16.keep Kq17 (ninS (Ne.symm ne_al_xc) (ninS (Ne.symm ne_ba_xc) nin0))
  have Fs17 : Fld Z h17 al "java/util/ArrayList" "size" "I" (.int (3 : Int32)) := Fq17c
  show own_GoW p e below s _ _ _ (T17.setTop (mkF m 83 #[.val (.int p0), .val (.int p1), .val (.int p2), .val (.int p3), .val (.int p4), .val (.int p5), .val (.ref al), .unset, .unset, .unset, .unset, .unset, .unset] [(.int (1 : Int32))]))
  refine own_goW (fun t_ kt_ => XS.pop X17g.here hx rfl (hb hby at_83) rfl rfl kt_) ?_
  show own_GoW p e below s _ _ _ (T17.setTop (mkF m 84 #[.val (.int p0), .val (.int p1), .val (.int p2), .val (.int p3), .val (.int p4), .val (.int p5), .val (.ref al), .unset, .unset, .unset, .unset, .unset, .unset] []))
  obtain ⟨T18, h18, X18, e18, E18, A18, D18, U18, st18⟩ := newO X17g hx hZ hown (hw _ (List.mem_of_getElem? (i := 99) rfl)) (hw _ (List.mem_of_getElem? (i := 100) rfl)) (hw _ (List.mem_of_getElem? (i := 101) rfl)) e17 (g := (mkF m 84 #[.val (.int p0), .val (.int p1), .val (.int p2), .val (.int p3), .val (.int p4), .val (.int p5), .val (.ref al), .unset, .unset, .unset, .unset, .unset, .unset] [])) rfl (hb hby at_84) (by decide) (by decide)
  obtain ⟨tm, g18⟩ : ∃ z, z = h17.size := ⟨_, rfl⟩
  rw [← g18] at A18 D18 U18 st18
  refine own_goW (fun t_ kt_ => st18 _ kt_) ?_
  have gt_tm : n0 ≤ tm := Nat.le_trans ZZ_17 (Nat.le_of_eq g18.symm)
  have ne_al_tm : al ≠ tm := Nat.ne_of_lt (Nat.lt_of_lt_of_le E_al_17.lt (Nat.le_of_eq g18.symm))
  have ne_xa_tm : xa ≠ tm := Nat.ne_of_lt (Nat.lt_of_lt_of_le E_xa_17.lt (Nat.le_of_eq g18.symm))
  have ne_xb_tm : xb ≠ tm := Nat.ne_of_lt (Nat.lt_of_lt_of_le E_xb_17.lt (Nat.le_of_eq g18.symm))
  have ne_xc_tm : xc ≠ tm := Nat.ne_of_lt (Nat.lt_of_lt_of_le E_xc_17.lt (Nat.le_of_eq g18.symm))
  have ne_ba_tm : ba ≠ tm := Nat.ne_of_lt (Nat.lt_of_lt_of_le Vq17.lt (Nat.le_of_eq g18.symm))
  have ZZ_18 : n0 ≤ h18.size := Nat.le_trans ZZ_17 E18.1
  have E_al_18 : Exa Z h18 al "java/util/ArrayList" := E_al_17.ext E18
  have E_xa_18 : Exa Z h18 xa "com/example/lint_for_clocks/lintforclocks/model/Edge" := E_xa_17.ext E18
  have F_line_xa_18 : Fld Z h18 xa "com/example/lint_for_clocks/lintforclocks/model/Edge" "line" "I" (.int p0) := F_line_xa_17.ext E18
  have O_ba_18 : own_Ov Z h18 ba "java/lang/Object" := Oq17.ext E18
  have E_xb_18 : Exa Z h18 xb "com/example/lint_for_clocks/lintforclocks/model/Edge" := E_xb_17.ext E18
  have F_line_xb_18 : Fld Z h18 xb "com/example/lint_for_clocks/lintforclocks/model/Edge" "line" "I" (.int p1) := F_line_xb_17.ext E18
  have E_xc_18 : Exa Z h18 xc "com/example/lint_for_clocks/lintforclocks/model/Edge" := E_xc_17.ext E18
  have KS_18 : k15 ≤ h18.size := Nat.le_trans KS_17 E18.1
  have F_line_xc_18 : Fld Z h18 xc "com/example/lint_for_clocks/lintforclocks/model/Edge" "line" "I" (.int p2) := F_line_xc_17.ext E18
  have F_modCount_al_18 : Fld Z h18 al "java/util/AbstractList" "modCount" "I" (.int ((((0 : Int32) + (1 : Int32)) + (1 : Int32)) + (1 : Int32))) := Fq17a.ext E18
  have F_elementData_al_18 : Fld Z h18 al "java/util/ArrayList" "elementData" "[Ljava/lang/Object;" (.ref ba) := Fq17b.ext E18
  have F_size_al_18 : Fld Z h18 al "java/util/ArrayList" "size" "I" (.int (3 : Int32)) := Fs17.ext E18
  have V_ba_18 : own_Ary Z h18 ba (.object "java/lang/Object") 10 (own_set (own_set (own_set (fun _ => .null) 0 (.ref xa)) 1 (.ref xb)) 2 (.ref xc)) := Vq17.ext E18
  have F_name_tm : Fld Z h18 tm "com/example/lint_for_clocks/lintforclocks/model/Template" "name" "Ljava/lang/String;" .null := D18 (Or.inr (hw _ (List.mem_of_getElem? (i := 108) rfl))) (ty := (.object "java/lang/String")) (by decide)
  have F_line_tm : Fld Z h18 tm "com/example/lint_for_clocks/lintforclocks/model/Template" "line" "I" (.int (0 : Int32)) := D18 (Or.inr (hw _ (List.mem_of_getElem? (i := 110) rfl))) (ty := .int) (by decide)
  have F_parameters_tm : Fld Z h18 tm "com/example/lint_for_clocks/lintforclocks/model/Template" "parameters" "Ljava/util/List;" .null := D18 (Or.inr (hw _ (List.mem_of_getElem? (i := 112) rfl))) (ty := (.object "java/util/List")) (by decide)
  have F_declarations_tm : Fld Z h18 tm "com/example/lint_for_clocks/lintforclocks/model/Template" "declarations" "Ljava/util/List;" .null := D18 (Or.inr (hw _ (List.mem_of_getElem? (i := 114) rfl))) (ty := (.object "java/util/List")) (by decide)
  have F_locations_tm : Fld Z h18 tm "com/example/lint_for_clocks/lintforclocks/model/Template" "locations" "Ljava/util/List;" .null := D18 (Or.inr (hw _ (List.mem_of_getElem? (i := 116) rfl))) (ty := (.object "java/util/List")) (by decide)
  have F_branchpoints_tm : Fld Z h18 tm "com/example/lint_for_clocks/lintforclocks/model/Template" "branchpoints" "Ljava/util/List;" .null := D18 (Or.inr (hw _ (List.mem_of_getElem? (i := 118) rfl))) (ty := (.object "java/util/List")) (by decide)
  have F_edges_tm : Fld Z h18 tm "com/example/lint_for_clocks/lintforclocks/model/Template" "edges" "Ljava/util/List;" .null := D18 (Or.inr (hw _ (List.mem_of_getElem? (i := 120) rfl))) (ty := (.object "java/util/List")) (by decide)
  show own_GoW p e below s _ _ _ (T18.setTop (mkF m 87 #[.val (.int p0), .val (.int p1), .val (.int p2), .val (.int p3), .val (.int p4), .val (.int p5), .val (.ref al), .unset, .unset, .unset, .unset, .unset, .unset] [(.ref tm)]))
  refine own_goW (fun t_ kt_ => XS.dup X18.here hx rfl (hb hby at_87) rfl rfl kt_) ?_
  show own_GoW p e below s _ _ _ (T18.setTop (mkF m 88 #[.val (.int p0), .val (.int p1), .val (.int p2), .val (.int p3), .val (.int p4), .val (.int p5), .val (.ref al), .unset, .unset, .unset, .unset, .unset, .unset] [(.ref tm), (.ref tm)]))
  obtain ⟨b19, T19, h19, k19, X19, e19, E19, hS19, hk19, hZ, hown, st19⟩ := ldcS (s := s) (vm0 := T15.vm) X18 hx hZ hown (hw _ (List.mem_of_getElem? (i := 102) rfl)) (own_str hw) e18 hS15 KS_18 (g := (mkF m 88 #[.val (.int p0), .val (.int p1), .val (.int p2), .val (.int p3), .val (.int p4), .val (.int p5), .val (.ref al), .unset, .unset, .unset, .unset, .unset, .unset] [(.ref tm), (.ref tm)])) rfl (hb hby at_88) (n := 4) (by decide) (by decide) (by decide) (by decide)
  refine own_goW (fun t_ kt_ => st19 _ kt_) ?_
  have ZZ_19 : n0 ≤ h19.size := Nat.le_trans ZZ_18 E19.1
  have E_al_19 : Exa Z h19 al "java/util/ArrayList" := E_al_18.ext E19
  have E_xa_19 : Exa Z h19 xa "com/example/lint_for_clocks/lintforclocks/model/Edge" := E_xa_18.ext E19
  have F_line_xa_19 : Fld Z h19 xa "com/example/lint_for_clocks/lintforclocks/model/Edge" "line" "I" (.int p0) := F_line_xa_18.ext E19
  have O_ba_19 : own_Ov Z h19 ba "java/lang/Object" := O_ba_18.ext E19
  have E_xb_19 : Exa Z h19 xb "com/example/lint_for_clocks/lintforclocks/model/Edge" := E_xb_18.ext E19
  have F_line_xb_19 : Fld Z h19 xb "com/example/lint_for_clocks/lintforclocks/model/Edge" "line" "I" (.int p1) := F_line_xb_18.ext E19
  have E_xc_19 : Exa Z h19 xc "com/example/lint_for_clocks/lintforclocks/model/Edge" := E_xc_18.ext E19
  have F_line_xc_19 : Fld Z h19 xc "com/example/lint_for_clocks/lintforclocks/model/Edge" "line" "I" (.int p2) := F_line_xc_18.ext E19
  have F_modCount_al_19 : Fld Z h19 al "java/util/AbstractList" "modCount" "I" (.int ((((0 : Int32) + (1 : Int32)) + (1 : Int32)) + (1 : Int32))) := F_modCount_al_18.ext E19
  have F_elementData_al_19 : Fld Z h19 al "java/util/ArrayList" "elementData" "[Ljava/lang/Object;" (.ref ba) := F_elementData_al_18.ext E19
  have F_size_al_19 : Fld Z h19 al "java/util/ArrayList" "size" "I" (.int (3 : Int32)) := F_size_al_18.ext E19
  have V_ba_19 : own_Ary Z h19 ba (.object "java/lang/Object") 10 (own_set (own_set (own_set (fun _ => .null) 0 (.ref xa)) 1 (.ref xb)) 2 (.ref xc)) := V_ba_18.ext E19
  have E_tm_19 : Exa Z h19 tm "com/example/lint_for_clocks/lintforclocks/model/Template" := A18.ext E19
  have F_name_tm_19 : Fld Z h19 tm "com/example/lint_for_clocks/lintforclocks/model/Template" "name" "Ljava/lang/String;" .null := F_name_tm.ext E19
  have F_line_tm_19 : Fld Z h19 tm "com/example/lint_for_clocks/lintforclocks/model/Template" "line" "I" (.int (0 : Int32)) := F_line_tm.ext E19
  have F_parameters_tm_19 : Fld Z h19 tm "com/example/lint_for_clocks/lintforclocks/model/Template" "parameters" "Ljava/util/List;" .null := F_parameters_tm.ext E19
  have F_declarations_tm_19 : Fld Z h19 tm "com/example/lint_for_clocks/lintforclocks/model/Template" "declarations" "Ljava/util/List;" .null := F_declarations_tm.ext E19
  have F_locations_tm_19 : Fld Z h19 tm "com/example/lint_for_clocks/lintforclocks/model/Template" "locations" "Ljava/util/List;" .null := F_locations_tm.ext E19
  have F_branchpoints_tm_19 : Fld Z h19 tm "com/example/lint_for_clocks/lintforclocks/model/Template" "branchpoints" "Ljava/util/List;" .null := F_branchpoints_tm.ext E19
  have F_edges_tm_19 : Fld Z h19 tm "com/example/lint_for_clocks/lintforclocks/model/Template" "edges" "Ljava/util/List;" .null := F_edges_tm.ext E19
  show own_GoW p e below s _ _ _ (T19.setTop (mkF m 90 #[.val (.int p0), .val (.int p1), .val (.int p2), .val (.int p3), .val (.int p4), .val (.int p5), .val (.ref al), .unset, .unset, .unset, .unset, .unset, .unset] [(.ref b19), (.ref tm), (.ref tm)]))
  refine own_goW (fun t_ kt_ => XS.iloadN X19.here hx rfl (hb hby at_90) rfl kt_) ?_
  show own_GoW p e below s _ _ _ (T19.setTop (mkF m 91 #[.val (.int p0), .val (.int p1), .val (.int p2), .val (.int p3), .val (.int p4), .val (.int p5), .val (.ref al), .unset, .unset, .unset, .unset, .unset, .unset] [(.int p3), (.ref b19), (.ref tm), (.ref tm)]))
  refine own_goW (fun t_ kt_ => XS.aconstNull X19.here hx rfl (hb hby at_91) kt_) ?_
  show own_GoW p e below s _ _ _ (T19.setTop (mkF m 92 #[.val (.int p0), .val (.int p1), .val (.int p2), .val (.int p3), .val (.int p4), .val (.int p5), .val (.ref al), .unset, .unset, .unset, .unset, .unset, .unset] [.null, (.int p3), (.ref b19), (.ref tm), (.ref tm)]))
  refine own_goW (fun t_ kt_ => XS.aconstNull X19.here hx rfl (hb hby at_92) kt_) ?_
  show own_GoW p e below s _ _ _ (T19.setTop (mkF m 93 #[.val (.int p0), .val (.int p1), .val (.int p2), .val (.int p3), .val (.int p4), .val (.int p5), .val (.ref al), .unset, .unset, .unset, .unset, .unset, .unset] [.null, .null, (.int p3), (.ref b19), (.ref tm), (.ref tm)]))
  refine own_goW (fun t_ kt_ => XS.aconstNull X19.here hx rfl (hb hby at_93) kt_) ?_
  show own_GoW p e below s _ _ _ (T19.setTop (mkF m 94 #[.val (.int p0), .val (.int p1), .val (.int p2), .val (.int p3), .val (.int p4), .val (.int p5), .val (.ref al), .unset, .unset, .unset, .unset, .unset, .unset] [.null, .null, .null, (.int p3), (.ref b19), (.ref tm), (.ref tm)]))
  refine own_goW (fun t_ kt_ => XS.aconstNull X19.here hx rfl (hb hby at_94) kt_) ?_
  show own_GoW p e below s _ _ _ (T19.setTop (mkF m 95 #[.val (.int p0), .val (.int p1), .val (.int p2), .val (.int p3), .val (.int p4), .val (.int p5), .val (.ref al), .unset, .unset, .unset, .unset, .unset, .unset] [.null, .null, .null, .null, (.int p3), (.ref b19), (.ref tm), (.ref tm)]))
  refine own_goW (fun t_ kt_ => XS.aload X19.here hx rfl (hb hby at_95) rfl rfl kt_) ?_
  show own_GoW p e below s _ _ _ (T19.setTop (mkF m 97 #[.val (.int p0), .val (.int p1), .val (.int p2), .val (.int p3), .val (.int p4), .val (.int p5), .val (.ref al), .unset, .unset, .unset, .unset, .unset, .unset] [(.ref al), .null, .null, .null, .null, (.int p3), (.ref b19), (.ref tm), (.ref tm)]))
  obtain ⟨_, _, ⟨T20, L20, k20, n20⟩, -, X20, ⟨Lc20, hQ20, l20, y20, z20⟩, st20⟩ := X19.specialBack hx (y := (⟨"com/example/lint_for_clocks/lintforclocks/model/Template", "<init>", "(Ljava/lang/String;ILjava/util/List;Ljava/util/List;Ljava/util/List;Ljava/util/List;Ljava/util/List;)V"⟩ : MethodName)) rfl hown (mvT hZ (hw _ (List.mem_of_getElem? (i := 103) rfl))) (mvT hZ (hw _ (List.mem_of_getElem? (i := 104) rfl))) (mvT hZ (hw _ (List.mem_of_getElem? (i := 105) rfl))) (by decide) (backOf (W := 1) (rm12 l Z a0 hw [] (tm) (b19) (p3) (al) h19 n0 ZZ_19 F_name_tm_19 F_line_tm_19 F_parameters_tm_19 F_declarations_tm_19 F_locations_tm_19 F_branchpoints_tm_19 F_edges_tm_19 E_tm_19 gt_tm) hZ (hw _ (List.mem_of_getElem? (i := 105) rfl)) (hw _ (List.mem_of_getElem? (i := 101) rfl)) (by decide) (by decide)) (g := (mkF m 97 #[.val (.int p0), .val (.int p1), .val (.int p2), .val (.int p3), .val (.int p4), .val (.int p5), .val (.ref al), .unset, .unset, .unset, .unset, .unset, .unset] [(.ref al), .null, .null, .null, .null, (.int p3), (.ref b19), (.ref tm), (.ref tm)])) rfl (by rw [hml]; rfl) (Steps.refl _) (a := tm) (argsL := [(.ref b19), (.int p3), .null, .null, .null, .null, (.ref al)]) (rest := [(.ref tm)]) (lenOf pd_11 rfl) rfl (by show 2 * 0 + _ ≤ _; exact Nat.le_of_eq rfl) (hb hby at_97) (fun _ _ => ⟨rfl, e19, (by decide : 20 + 0 ≤ _), (by decide : 124 + 0 ≤ _)⟩)
  dsimp only [Pt.U, Pt.locs, Pt.cells, Pt.slots] at X20 l20 y20 z20 st20 hQ20
  subst l20 y20 z20
  obtain ⟨rfl, Nq20, Kq20, Fq20⟩ := hQ20
  have N20 := Fr.app N17g Nq20
  refine own_goW (fun t_ kt_ => st20.trans kt_) ?_
  obtain ⟨lo20, X20g, N20g⟩ : ∃ lo, Stand p l e room_1 (s.setVm T19.vm) m #[(.int p0), (.int p1), (.int p2), (.int p3), (.int p4), (.int p5)] below meth c T20 lo 20 124 ∧ Fr n0 lo := ⟨_, X20, N20⟩
  obtain ⟨h20, e20⟩ : ∃ z, T20.heap = z := ⟨_, rfl⟩
  rw [e20] at Kq20 Fq20
  have ZZ_20 : n0 ≤ h20.size := Nat.le_trans ZZ_19 Kq20.1
  have E_al_20 : Exa Z h20 al "java/util/ArrayList" := E_al_19.keep Kq20
  have E_xa_20 : Exa Z h20 xa "com/example/lint_for_clocks/lintforclocks/model/Edge" := E_xa_19.keep Kq20
  have F_line_xa_20 : Fld Z h20 xa "com/example/lint_for_clocks/lintforclocks/model/Edge" "line" "I" (.int p0) := F_line_xa_19.keep Kq20 (ninS ne_xa_tm nin0)
  have O_ba_20 : own_Ov Z h20 ba "java/lang/Object" := O_ba_19.keep Kq20
  have E_xb_20 : Exa Z h20 xb "com/example/lint_for_clocks/lintforclocks/model/Edge" := E_xb_19.keep Kq20
  have F_line_xb_20 : Fld Z h20 xb "com/example/lint_for_clocks/lintforclocks/model/Edge" "line" "I" (.int p1) := F_line_xb_19.keep Kq20 (ninS ne_xb_tm nin0)
  have E_xc_20 : Exa Z h20 xc "com/example/lint_for_clocks/lintforclocks/model/Edge" := E_xc_19.keep Kq20
  have F_line_xc_20 : Fld Z h20 xc "com/example/lint_for_clocks/lintforclocks/model/Edge" "line" "I" (.int p2) := F_line_xc_19.keep Kq20 (ninS ne_xc_tm nin0)
  have F_modCount_al_20 : Fld Z h20 al "java/util/AbstractList" "modCount" "I" (.int ((((0 : Int32) + (1 : Int32)) + (1 : Int32)) + (1 : Int32))) := F_modCount_al_19.keep Kq20 (ninS ne_al_tm nin0)
  have F_elementData_al_20 : Fld Z h20 al "java/util/ArrayList" "elementData" "[Ljava/lang/Object;" (.ref ba) := F_elementData_al_19.keep Kq20 (ninS ne_al_tm nin0)
  have F_size_al_20 : Fld Z h20 al "java/util/ArrayList" "size" "I" (.int (3 : Int32)) := F_size_al_19.keep Kq20 (ninS ne_al_tm nin0)
  have V_ba_20 : own_Ary Z h20 ba (.object "java/lang/Object") 10 (own_set (own_set (own_set (fun _ => .null) 0 (.ref xa)) 1 (.ref xb)) 2 (.ref xc)) := V_ba_19.keep Kq20 (ninS ne_ba_tm nin0)
  have E_tm_20 : Exa Z h20 tm "com/example/lint_for_clocks/lintforclocks/model/Template" := E_tm_19.keep Kq20
  have KS_20 : k19 ≤ h20.size := Nat.le_trans hk19 Kq20.1
  show own_GoW p e below s _ _ _ (T20.setTop (mkF m 100 #[.val (.int p0), .val (.int p1), .val (.int p2), .val (.int p3), .val (.int p4), .val (.int p5), .val (.ref al), .unset, .unset, .unset, .unset, .unset, .unset] [(.ref tm)]))
  refine own_goW (fun t_ kt_ => XS.astore X20g.here hx rfl (hb hby at_100) rfl rfl (l' := #[.val (.int p0), .val (.int p1), .val (.int p2), .val (.int p3), .val (.int p4), .val (.int p5), .val (.ref al), .val (.ref tm), .unset, .unset, .unset, .unset, .unset]) rfl kt_) ?_
  show own_GoW p e below s _ _ _ (T20.setTop (mkF m 102 #[.val (.int p0), .val (.int p1), .val (.int p2), .val (.int p3), .val (.int p4), .val (.int p5), .val (.ref al), .val (.ref tm), .unset, .unset, .unset, .unset, .unset] []))
  refine own_goW (fun t_ kt_ => XS.iload X20g.here hx rfl (hb hby at_102) rfl kt_) ?_
  show own_GoW p e below s _ _ _ (T20.setTop (mkF m 104 #[.val (.int p0), .val (.int p1), .val (.int p2), .val (.int p3), .val (.int p4), .val (.int p5), .val (.ref al), .val (.ref tm), .unset, .unset, .unset, .unset, .unset] [(.int p4)]))
  refine own_goW (fun t_ kt_ => X20g.ldcInt hx hown (mvT hZ (hw _ (List.mem_of_getElem? (i := 121) rfl))) (g := (mkF m 104 #[.val (.int p0), .val (.int p1), .val (.int p2), .val (.int p3), .val (.int p4), .val (.int p5), .val (.ref al), .val (.ref tm), .unset, .unset, .unset, .unset, .unset] [(.int p4)])) rfl (hb hby at_104) _ kt_) ?_
  show own_GoW p e below s _ _ _ (T20.setTop (mkF m 106 #[.val (.int p0), .val (.int p1), .val (.int p2), .val (.int p3), .val (.int p4), .val (.int p5), .val (.ref al), .val (.ref tm), .unset, .unset, .unset, .unset, .unset] [(.int (2147483647 : Int32)), (.int p4)]))
  refine own_goW (fun t_ kt_ => XS.iand X20g.here hx rfl (hb hby at_106) rfl kt_) ?_
  show own_GoW p e below s _ _ _ (T20.setTop (mkF m 107 #[.val (.int p0), .val (.int p1), .val (.int p2), .val (.int p3), .val (.int p4), .val (.int p5), .val (.ref al), .val (.ref tm), .unset, .unset, .unset, .unset, .unset] [(.int (p4 &&& (2147483647 : Int32)))]))
  refine own_goW (fun t_ kt_ => XS.iconst X20g.here hx rfl (hb hby at_107) kt_) ?_
  show own_GoW p e below s _ _ _ (T20.setTop (mkF m 108 #[.val (.int p0), .val (.int p1), .val (.int p2), .val (.int p3), .val (.int p4), .val (.int p5), .val (.ref al), .val (.ref tm), .unset, .unset, .unset, .unset, .unset] [(.int (3 : Int32)), (.int (p4 &&& (2147483647 : Int32)))]))
  refine own_goW (fun t_ kt_ => iremM X20g hx rfl (hb hby at_108) rfl (by decide) kt_) ?_
  show own_GoW p e below s _ _ _ (T20.setTop (mkF m 109 #[.val (.int p0), .val (.int p1), .val (.int p2), .val (.int p3), .val (.int p4), .val (.int p5), .val (.ref al), .val (.ref tm), .unset, .unset, .unset, .unset, .unset] [(.int ((p4 &&& (2147483647 : Int32)) % (3 : Int32)))]))
  refine own_goW (fun t_ kt_ => XS.istore X20g.here hx rfl (hb hby at_109) rfl (l' := #[.val (.int p0), .val (.int p1), .val (.int p2), .val (.int p3), .val (.int p4), .val (.int p5), .val (.ref al), .val (.ref tm), .val (.int ((p4 &&& (2147483647 : Int32)) % (3 : Int32))), .unset, .unset, .unset, .unset]) rfl kt_) ?_
  show own_GoW p e below s _ _ _ (T20.setTop (mkF m 111 #[.val (.int p0), .val (.int p1), .val (.int p2), .val (.int p3), .val (.int p4), .val (.int p5), .val (.ref al), .val (.ref tm), .val (.int ((p4 &&& (2147483647 : Int32)) % (3 : Int32))), .unset, .unset, .unset, .unset] []))
  rcases own_m3 p4 with hm3 | hm3 | hm3
  · skip
    rw [hm3]
    show own_GoW p e below s _ _ _ (T20.setTop (mkF m 111 #[.val (.int p0), .val (.int p1), .val (.int p2), .val (.int p3), .val (.int p4), .val (.int p5), .val (.ref al), .val (.ref tm), .val (.int (0 : Int32)), .unset, .unset, .unset, .unset] []))
    refine own_goW (fun t_ kt_ => XS.iload X20g.here hx rfl (hb hby at_111) rfl kt_) ?_
    show own_GoW p e below s _ _ _ (T20.setTop (mkF m 113 #[.val (.int p0), .val (.int p1), .val (.int p2), .val (.int p3), .val (.int p4), .val (.int p5), .val (.ref al), .val (.ref tm), .val (.int (0 : Int32)), .unset, .unset, .unset, .unset] [(.int (0 : Int32))]))
    refine own_goW (fun t_ kt_ => XS.iconst X20g.here hx rfl (hb hby at_113) kt_) ?_
    show own_GoW p e below s _ _ _ (T20.setTop (mkF m 114 #[.val (.int p0), .val (.int p1), .val (.int p2), .val (.int p3), .val (.int p4), .val (.int p5), .val (.ref al), .val (.ref tm), .val (.int (0 : Int32)), .unset, .unset, .unset, .unset] [(.int (1 : Int32)), (.int (0 : Int32))]))
    refine own_goW (fun t_ kt_ => XS.iadd X20g.here hx rfl (hb hby at_114) rfl kt_) ?_
    show own_GoW p e below s _ _ _ (T20.setTop (mkF m 115 #[.val (.int p0), .val (.int p1), .val (.int p2), .val (.int p3), .val (.int p4), .val (.int p5), .val (.ref al), .val (.ref tm), .val (.int (0 : Int32)), .unset, .unset, .unset, .unset] [(.int (1 : Int32))]))
    refine own_goW (fun t_ kt_ => XS.iload X20g.here hx rfl (hb hby at_115) rfl kt_) ?_
    show own_GoW p e below s _ _ _ (T20.setTop (mkF m 117 #[.val (.int p0), .val (.int p1), .val (.int p2), .val (.int p3), .val (.int p4), .val (.int p5), .val (.ref al), .val (.ref tm), .val (.int (0 : Int32)), .unset, .unset, .unset, .unset] [(.int p5), (.int (1 : Int32))]))
    refine own_goW (fun t_ kt_ => XS.iconst X20g.here hx rfl (hb hby at_117) kt_) ?_
    show own_GoW p e below s _ _ _ (T20.setTop (mkF m 118 #[.val (.int p0), .val (.int p1), .val (.int p2), .val (.int p3), .val (.int p4), .val (.int p5), .val (.ref al), .val (.ref tm), .val (.int (0 : Int32)), .unset, .unset, .unset, .unset] [(.int (1 : Int32)), (.int p5), (.int (1 : Int32))]))
    refine own_goW (fun t_ kt_ => XS.iand X20g.here hx rfl (hb hby at_118) rfl kt_) ?_
    show own_GoW p e below s _ _ _ (T20.setTop (mkF m 119 #[.val (.int p0), .val (.int p1), .val (.int p2), .val (.int p3), .val (.int p4), .val (.int p5), .val (.ref al), .val (.ref tm), .val (.int (0 : Int32)), .unset, .unset, .unset, .unset] [(.int (p5 &&& (1 : Int32))), (.int (1 : Int32))]))
    refine own_goW (fun t_ kt_ => XS.iadd X20g.here hx rfl (hb hby at_119) rfl kt_) ?_
    show own_GoW p e below s _ _ _ (T20.setTop (mkF m 120 #[.val (.int p0), .val (.int p1), .val (.int p2), .val (.int p3), .val (.int p4), .val (.int p5), .val (.ref al), .val (.ref tm), .val (.int (0 : Int32)), .unset, .unset, .unset, .unset] [(.int ((1 : Int32) + (p5 &&& (1 : Int32))))]))
    refine own_goW (fun t_ kt_ => XS.iconst X20g.here hx rfl (hb hby at_120) kt_) ?_
    show own_GoW p e below s _ _ _ (T20.setTop (mkF m 121 #[.val (.int p0), .val (.int p1), .val (.int p2), .val (.int p3), .val (.int p4), .val (.int p5), .val (.ref al), .val (.ref tm), .val (.int (0 : Int32)), .unset, .unset, .unset, .unset] [(.int (3 : Int32)), (.int ((1 : Int32) + (p5 &&& (1 : Int32))))]))
    refine own_goW (fun t_ kt_ => iremM X20g hx rfl (hb hby at_121) rfl (by decide) kt_) ?_
    show own_GoW p e below s _ _ _ (T20.setTop (mkF m 122 #[.val (.int p0), .val (.int p1), .val (.int p2), .val (.int p3), .val (.int p4), .val (.int p5), .val (.ref al), .val (.ref tm), .val (.int (0 : Int32)), .unset, .unset, .unset, .unset] [(.int (((1 : Int32) + (p5 &&& (1 : Int32))) % (3 : Int32)))]))
    refine own_goW (fun t_ kt_ => XS.istore X20g.here hx rfl (hb hby at_122) rfl (l' := #[.val (.int p0), .val (.int p1), .val (.int p2), .val (.int p3), .val (.int p4), .val (.int p5), .val (.ref al), .val (.ref tm), .val (.int (0 : Int32)), .val (.int (((1 : Int32) + (p5 &&& (1 : Int32))) % (3 : Int32))), .unset, .unset, .unset]) rfl kt_) ?_
    show own_GoW p e below s _ _ _ (T20.setTop (mkF m 124 #[.val (.int p0), .val (.int p1), .val (.int p2), .val (.int p3), .val (.int p4), .val (.int p5), .val (.ref al), .val (.ref tm), .val (.int (0 : Int32)), .val (.int (((1 : Int32) + (p5 &&& (1 : Int32))) % (3 : Int32))), .unset, .unset, .unset] []))
    refine own_goW (fun t_ kt_ => XS.iconst X20g.here hx rfl (hb hby at_124) kt_) ?_
    show own_GoW p e below s _ _ _ (T20.setTop (mkF m 125 #[.val (.int p0), .val (.int p1), .val (.int p2), .val (.int p3), .val (.int p4), .val (.int p5), .val (.ref al), .val (.ref tm), .val (.int (0 : Int32)), .val (.int (((1 : Int32) + (p5 &&& (1 : Int32))) % (3 : Int32))), .unset, .unset, .unset] [(.int (2 : Int32))]))
    obtain ⟨T21, h21, k21, X21, e21, E21, A21, st21⟩ := newP X20g hx hZ (hw _ (List.mem_of_getElem? (i := 122) rfl)) e20 (g := (mkF m 125 #[.val (.int p0), .val (.int p1), .val (.int p2), .val (.int p3), .val (.int p4), .val (.int p5), .val (.ref al), .val (.ref tm), .val (.int (0 : Int32)), .val (.int (((1 : Int32) + (p5 &&& (1 : Int32))) % (3 : Int32))), .unset, .unset, .unset] [(.int (2 : Int32))])) rfl (hb hby at_125) rfl (by decide) (cap := 2) (by decide) (by decide) (by decide) (by decide)
    obtain ⟨ed, g21⟩ : ∃ z, z = h20.size := ⟨_, rfl⟩
    rw [← g21] at A21 st21
    refine own_goW (fun t_ kt_ => st21 _ kt_) ?_
    have gt_ed : n0 ≤ ed := Nat.le_trans ZZ_20 (Nat.le_of_eq g21.symm)
    have ne_al_ed : al ≠ ed := Nat.ne_of_lt (Nat.lt_of_lt_of_le E_al_20.lt (Nat.le_of_eq g21.symm))
    have ne_xa_ed : xa ≠ ed := Nat.ne_of_lt (Nat.lt_of_lt_of_le E_xa_20.lt (Nat.le_of_eq g21.symm))
    have ne_xb_ed : xb ≠ ed := Nat.ne_of_lt (Nat.lt_of_lt_of_le E_xb_20.lt (Nat.le_of_eq g21.symm))
    have ne_xc_ed : xc ≠ ed := Nat.ne_of_lt (Nat.lt_of_lt_of_le E_xc_20.lt (Nat.le_of_eq g21.symm))
    have ne_ba_ed : ba ≠ ed := Nat.ne_of_lt (Nat.lt_of_lt_of_le V_ba_20.lt (Nat.le_of_eq g21.symm))
    have ne_tm_ed : tm ≠ ed := Nat.ne_of_lt (Nat.lt_of_lt_of_le E_tm_20.lt (Nat.le_of_eq g21.symm))
    have ZZ_21 : n0 ≤ h21.size := Nat.le_trans ZZ_20 E21.1
    have E_al_21 : Exa Z h21 al "java/util/ArrayList" := E_al_20.ext E21
    have E_xa_21 : Exa Z h21 xa "com/example/lint_for_clocks/lintforclocks/model/Edge" := E_xa_20.ext E21
    have F_line_xa_21 : Fld Z h21 xa "com/example/lint_for_clocks/lintforclocks/model/Edge" "line" "I" (.int p0) := F_line_xa_20.ext E21
    have O_ba_21 : own_Ov Z h21 ba "java/lang/Object" := O_ba_20.ext E21
    have E_xb_21 : Exa Z h21 xb "com/example/lint_for_clocks/lintforclocks/model/Edge" := E_xb_20.ext E21
    have F_line_xb_21 : Fld Z h21 xb "com/example/lint_for_clocks/lintforclocks/model/Edge" "line" "I" (.int p1) := F_line_xb_20.ext E21
    have E_xc_21 : Exa Z h21 xc "com/example/lint_for_clocks/lintforclocks/model/Edge" := E_xc_20.ext E21
    have F_line_xc_21 : Fld Z h21 xc "com/example/lint_for_clocks/lintforclocks/model/Edge" "line" "I" (.int p2) := F_line_xc_20.ext E21
    have F_modCount_al_21 : Fld Z h21 al "java/util/AbstractList" "modCount" "I" (.int ((((0 : Int32) + (1 : Int32)) + (1 : Int32)) + (1 : Int32))) := F_modCount_al_20.ext E21
    have F_elementData_al_21 : Fld Z h21 al "java/util/ArrayList" "elementData" "[Ljava/lang/Object;" (.ref ba) := F_elementData_al_20.ext E21
    have F_size_al_21 : Fld Z h21 al "java/util/ArrayList" "size" "I" (.int (3 : Int32)) := F_size_al_20.ext E21
    have V_ba_21 : own_Ary Z h21 ba (.object "java/lang/Object") 10 (own_set (own_set (own_set (fun _ => .null) 0 (.ref xa)) 1 (.ref xb)) 2 (.ref xc)) := V_ba_20.ext E21
    have E_tm_21 : Exa Z h21 tm "com/example/lint_for_clocks/lintforclocks/model/Template" := E_tm_20.ext E21
    have KS_21 : k19 ≤ h21.size := Nat.le_trans KS_20 E21.1
    have F_edges_tm_21 : Fld Z h21 tm "com/example/lint_for_clocks/lintforclocks/model/Template" "edges" "Ljava/util/List;" (.ref al) := Fq20.ext E21
    have V_ed : own_Ary Z h21 ed .int 2 (fun _ => (.int (0 : Int32))) := own_Ary.new A21 (by decide)
    show own_GoW p e below s _ _ _ (T21.setTop (mkF m 127 #[.val (.int p0), .val (.int p1), .val (.int p2), .val (.int p3), .val (.int p4), .val (.int p5), .val (.ref al), .val (.ref tm), .val (.int (0 : Int32)), .val (.int (((1 : Int32) + (p5 &&& (1 : Int32))) % (3 : Int32))), .unset, .unset, .unset] [(.ref ed)]))
    refine own_goW (fun t_ kt_ => XS.astore X21.here hx rfl (hb hby at_127) rfl rfl (l' := #[.val (.int p0), .val (.int p1), .val (.int p2), .val (.int p3), .val (.int p4), .val (.int p5), .val (.ref al), .val (.ref tm), .val (.int (0 : Int32)), .val (.int (((1 : Int32) + (p5 &&& (1 : Int32))) % (3 : Int32))), .val (.ref ed), .unset, .unset]) rfl kt_) ?_
    show own_GoW p e below s _ _ _ (T21.setTop (mkF m 129 #[.val (.int p0), .val (.int p1), .val (.int p2), .val (.int p3), .val (.int p4), .val (.int p5), .val (.ref al), .val (.ref tm), .val (.int (0 : Int32)), .val (.int (((1 : Int32) + (p5 &&& (1 : Int32))) % (3 : Int32))), .val (.ref ed), .unset, .unset] []))
    refine own_goW (fun t_ kt_ => XS.aload X21.here hx rfl (hb hby at_129) rfl rfl kt_) ?_
    show own_GoW p e below s _ _ _ (T21.setTop (mkF m 131 #[.val (.int p0), .val (.int p1), .val (.int p2), .val (.int p3), .val (.int p4), .val (.int p5), .val (.ref al), .val (.ref tm), .val (.int (0 : Int32)), .val (.int (((1 : Int32) + (p5 &&& (1 : Int32))) % (3 : Int32))), .val (.ref ed), .unset, .unset] [(.ref ed)]))
    refine own_goW (fun t_ kt_ => XS.iconst X21.here hx rfl (hb hby at_131) kt_) ?_
    show own_GoW p e below s _ _ _ (T21.setTop (mkF m 132 #[.val (.int p0), .val (.int p1), .val (.int p2), .val (.int p3), .val (.int p4), .val (.int p5), .val (.ref al), .val (.ref tm), .val (.int (0 : Int32)), .val (.int (((1 : Int32) + (p5 &&& (1 : Int32))) % (3 : Int32))), .val (.ref ed), .unset, .unset] [(.int (0 : Int32)), (.ref ed)]))
    refine own_goW (fun t_ kt_ => XS.iload X21.here hx rfl (hb hby at_132) rfl kt_) ?_
    show own_GoW p e below s _ _ _ (T21.setTop (mkF m 134 #[.val (.int p0), .val (.int p1), .val (.int p2), .val (.int p3), .val (.int p4), .val (.int p5), .val (.ref al), .val (.ref tm), .val (.int (0 : Int32)), .val (.int (((1 : Int32) + (p5 &&& (1 : Int32))) % (3 : Int32))), .val (.ref ed), .unset, .unset] [(.int (0 : Int32)), (.int (0 : Int32)), (.ref ed)]))
    obtain ⟨ce22, Ar22, S22, G22⟩ := id V_ed
    obtain ⟨T22, h22, X22, e22, W22, st22⟩ := stI X21 hx hZ e21 Ar22 (j := (0 : Int32)) (own_in (i := 0) S22 (by decide) (by decide)) (g := (mkF m 134 #[.val (.int p0), .val (.int p1), .val (.int p2), .val (.int p3), .val (.int p4), .val (.int p5), .val (.ref al), .val (.ref tm), .val (.int (0 : Int32)), .val (.int (((1 : Int32) + (p5 &&& (1 : Int32))) % (3 : Int32))), .val (.ref ed), .unset, .unset] [(.int (0 : Int32)), (.int (0 : Int32)), (.ref ed)])) rfl rfl (hb hby at_134)
    rw [own_cl (j := (0 : Int32)) (i := 0) (by decide)] at W22 X22
    refine own_goW (fun t_ kt_ => st22 _ kt_) ?_
    have N22 := Fr.snoc X22 N20g gt_ed
    obtain ⟨lo22, X22g, N22g⟩ : ∃ lo, Stand p l e room_1 (s.setVm T19.vm) m #[(.int p0), (.int p1), (.int p2), (.int p3), (.int p4), (.int p5)] below meth c T22 lo 21 126 ∧ Fr n0 lo := ⟨_, X22, N22⟩
    have ZZ_22 : n0 ≤ h22.size := Nat.le_trans ZZ_21 (Nat.le_of_eq W22.size.symm)
    have E_al_22 : Exa Z h22 al "java/util/ArrayList" := E_al_21.wr W22
    have E_xa_22 : Exa Z h22 xa "com/example/lint_for_clocks/lintforclocks/model/Edge" := E_xa_21.wr W22
    have F_line_xa_22 : Fld Z h22 xa "com/example/lint_for_clocks/lintforclocks/model/Edge" "line" "I" (.int p0) := F_line_xa_21.other W22 (Or.inl ne_xa_ed)
    have O_ba_22 : own_Ov Z h22 ba "java/lang/Object" := O_ba_21.wr W22
    have E_xb_22 : Exa Z h22 xb "com/example/lint_for_clocks/lintforclocks/model/Edge" := E_xb_21.wr W22
    have F_line_xb_22 : Fld Z h22 xb "com/example/lint_for_clocks/lintforclocks/model/Edge" "line" "I" (.int p1) := F_line_xb_21.other W22 (Or.inl ne_xb_ed)
    have E_xc_22 : Exa Z h22 xc "com/example/lint_for_clocks/lintforclocks/model/Edge" := E_xc_21.wr W22
    have F_line_xc_22 : Fld Z h22 xc "com/example/lint_for_clocks/lintforclocks/model/Edge" "line" "I" (.int p2) := F_line_xc_21.other W22 (Or.inl ne_xc_ed)
    have F_modCount_al_22 : Fld Z h22 al "java/util/AbstractList" "modCount" "I" (.int ((((0 : Int32) + (1 : Int32)) + (1 : Int32)) + (1 : Int32))) := F_modCount_al_21.other W22 (Or.inl ne_al_ed)
    have F_elementData_al_22 : Fld Z h22 al "java/util/ArrayList" "elementData" "[Ljava/lang/Object;" (.ref ba) := F_elementData_al_21.other W22 (Or.inl ne_al_ed)
    have F_size_al_22 : Fld Z h22 al "java/util/ArrayList" "size" "I" (.int (3 : Int32)) := F_size_al_21.other W22 (Or.inl ne_al_ed)
    have V_ba_22 : own_Ary Z h22 ba (.object "java/lang/Object") 10 (own_set (own_set (own_set (fun _ => .null) 0 (.ref xa)) 1 (.ref xb)) 2 (.ref xc)) := V_ba_21.other W22 ne_ba_ed
    have E_tm_22 : Exa Z h22 tm "com/example/lint_for_clocks/lintforclocks/model/Template" := E_tm_21.wr W22
    have KS_22 : k19 ≤ h22.size := Nat.le_trans KS_21 (Nat.le_of_eq W22.size.symm)
    have F_edges_tm_22 : Fld Z h22 tm "com/example/lint_for_clocks/lintforclocks/model/Template" "edges" "Ljava/util/List;" (.ref al) := F_edges_tm_21.other W22 (Or.inl ne_tm_ed)
    have V_ed_22 : own_Ary Z h22 ed .int 2 (own_set (fun _ => (.int (0 : Int32))) 0 (.int (0 : Int32))) := own_Ary.set Ar22 S22 G22 W22
    show own_GoW p e below s _ _ _ (T22.setTop (mkF m 135 #[.val (.int p0), .val (.int p1), .val (.int p2), .val (.int p3), .val (.int p4), .val (.int p5), .val (.ref al), .val (.ref tm), .val (.int (0 : Int32)), .val (.int (((1 : Int32) + (p5 &&& (1 : Int32))) % (3 : Int32))), .val (.ref ed), .unset, .unset] []))
    refine own_goW (fun t_ kt_ => XS.aload X22g.here hx rfl (hb hby at_135) rfl rfl kt_) ?_
    show own_GoW p e below s _ _ _ (T22.setTop (mkF m 137 #[.val (.int p0), .val (.int p1), .val (.int p2), .val (.int p3), .val (.int p4), .val (.int p5), .val (.ref al), .val (.ref tm), .val (.int (0 : Int32)), .val (.int (((1 : Int32) + (p5 &&& (1 : Int32))) % (3 : Int32))), .val (.ref ed), .unset, .unset] [(.ref ed)]))
    refine own_goW (fun t_ kt_ => XS.iconst X22g.here hx rfl (hb hby at_137) kt_) ?_
    show own_GoW p e below s _ _ _ (T22.setTop (mkF m 138 #[.val (.int p0), .val (.int p1), .val (.int p2), .val (.int p3), .val (.int p4), .val (.int p5), .val (.ref al), .val (.ref tm), .val (.int (0 : Int32)), .val (.int (((1 : Int32) + (p5 &&& (1 : Int32))) % (3 : Int32))), .val (.ref ed), .unset, .unset] [(.int (1 : Int32)), (.ref ed)]))
    refine own_goW (fun t_ kt_ => XS.iload X22g.here hx rfl (hb hby at_138) rfl kt_) ?_
    show own_GoW p e below s _ _ _ (T22.setTop (mkF m 140 #[.val (.int p0), .val (.int p1), .val (.int p2), .val (.int p3), .val (.int p4), .val (.int p5), .val (.ref al), .val (.ref tm), .val (.int (0 : Int32)), .val (.int (((1 : Int32) + (p5 &&& (1 : Int32))) % (3 : Int32))), .val (.ref ed), .unset, .unset] [(.int (((1 : Int32) + (p5 &&& (1 : Int32))) % (3 : Int32))), (.int (1 : Int32)), (.ref ed)]))
    obtain ⟨ce23, Ar23, S23, G23⟩ := id V_ed_22
    obtain ⟨T23, h23, X23, e23, W23, st23⟩ := stI X22g hx hZ e22 Ar23 (j := (1 : Int32)) (own_in (i := 1) S23 (by decide) (by decide)) (g := (mkF m 140 #[.val (.int p0), .val (.int p1), .val (.int p2), .val (.int p3), .val (.int p4), .val (.int p5), .val (.ref al), .val (.ref tm), .val (.int (0 : Int32)), .val (.int (((1 : Int32) + (p5 &&& (1 : Int32))) % (3 : Int32))), .val (.ref ed), .unset, .unset] [(.int (((1 : Int32) + (p5 &&& (1 : Int32))) % (3 : Int32))), (.int (1 : Int32)), (.ref ed)])) rfl rfl (hb hby at_140)
    rw [own_cl (j := (1 : Int32)) (i := 1) (by decide)] at W23 X23
    refine own_goW (fun t_ kt_ => st23 _ kt_) ?_
    have N23 := Fr.snoc X23 N22g gt_ed
    obtain ⟨lo23, X23g, N23g⟩ : ∃ lo, Stand p l e room_1 (s.setVm T19.vm) m #[(.int p0), (.int p1), (.int p2), (.int p3), (.int p4), (.int p5)] below meth c T23 lo 21 126 ∧ Fr n0 lo := ⟨_, X23, N23⟩
    have ZZ_23 : n0 ≤ h23.size := Nat.le_trans ZZ_22 (Nat.le_of_eq W23.size.symm)
    have E_al_23 : Exa Z h23 al "java/util/ArrayList" := E_al_22.wr W23
    have E_xa_23 : Exa Z h23 xa "com/example/lint_for_clocks/lintforclocks/model/Edge" := E_xa_22.wr W23
    have F_line_xa_23 : Fld Z h23 xa "com/example/lint_for_clocks/lintforclocks/model/Edge" "line" "I" (.int p0) := F_line_xa_22.other W23 (Or.inl ne_xa_ed)
    have O_ba_23 : own_Ov Z h23 ba "java/lang/Object" := O_ba_22.wr W23
    have E_xb_23 : Exa Z h23 xb "com/example/lint_for_clocks/lintforclocks/model/Edge" := E_xb_22.wr W23
    have F_line_xb_23 : Fld Z h23 xb "com/example/lint_for_clocks/lintforclocks/model/Edge" "line" "I" (.int p1) := F_line_xb_22.other W23 (Or.inl ne_xb_ed)
    have E_xc_23 : Exa Z h23 xc "com/example/lint_for_clocks/lintforclocks/model/Edge" := E_xc_22.wr W23
    have F_line_xc_23 : Fld Z h23 xc "com/example/lint_for_clocks/lintforclocks/model/Edge" "line" "I" (.int p2) := F_line_xc_22.other W23 (Or.inl ne_xc_ed)
    have F_modCount_al_23 : Fld Z h23 al "java/util/AbstractList" "modCount" "I" (.int ((((0 : Int32) + (1 : Int32)) + (1 : Int32)) + (1 : Int32))) := F_modCount_al_22.other W23 (Or.inl ne_al_ed)
    have F_elementData_al_23 : Fld Z h23 al "java/util/ArrayList" "elementData" "[Ljava/lang/Object;" (.ref ba) := F_elementData_al_22.other W23 (Or.inl ne_al_ed)
    have F_size_al_23 : Fld Z h23 al "java/util/ArrayList" "size" "I" (.int (3 : Int32)) := F_size_al_22.other W23 (Or.inl ne_al_ed)
    have V_ba_23 : own_Ary Z h23 ba (.object "java/lang/Object") 10 (own_set (own_set (own_set (fun _ => .null) 0 (.ref xa)) 1 (.ref xb)) 2 (.ref xc)) := V_ba_22.other W23 ne_ba_ed
    have E_tm_23 : Exa Z h23 tm "com/example/lint_for_clocks/lintforclocks/model/Template" := E_tm_22.wr W23
    have KS_23 : k19 ≤ h23.size := Nat.le_trans KS_22 (Nat.le_of_eq W23.size.symm)
    have F_edges_tm_23 : Fld Z h23 tm "com/example/lint_for_clocks/lintforclocks/model/Template" "edges" "Ljava/util/List;" (.ref al) := F_edges_tm_22.other W23 (Or.inl ne_tm_ed)
    have V_ed_23 : own_Ary Z h23 ed .int 2 (own_set (own_set (fun _ => (.int (0 : Int32))) 0 (.int (0 : Int32))) 1 (.int (((1 : Int32) + (p5 &&& (1 : Int32))) % (3 : Int32)))) := own_Ary.set Ar23 S23 G23 W23
    show own_GoW p e below s _ _ _ (T23.setTop (mkF m 141 #[.val (.int p0), .val (.int p1), .val (.int p2), .val (.int p3), .val (.int p4), .val (.int p5), .val (.ref al), .val (.ref tm), .val (.int (0 : Int32)), .val (.int (((1 : Int32) + (p5 &&& (1 : Int32))) % (3 : Int32))), .val (.ref ed), .unset, .unset] []))
    obtain ⟨T24, h24, X24, e24, E24, A24, D24, U24, st24⟩ := newO X23g hx hZ hown (hw _ (List.mem_of_getElem? (i := 123) rfl)) (hw _ (List.mem_of_getElem? (i := 124) rfl)) (hw _ (List.mem_of_getElem? (i := 125) rfl)) e23 (g := (mkF m 141 #[.val (.int p0), .val (.int p1), .val (.int p2), .val (.int p3), .val (.int p4), .val (.int p5), .val (.ref al), .val (.ref tm), .val (.int (0 : Int32)), .val (.int (((1 : Int32) + (p5 &&& (1 : Int32))) % (3 : Int32))), .val (.ref ed), .unset, .unset] [])) rfl (hb hby at_141) (by decide) (by decide)
    obtain ⟨lp, g24⟩ : ∃ z, z = h23.size := ⟨_, rfl⟩
    rw [← g24] at A24 D24 U24 st24
    refine own_goW (fun t_ kt_ => st24 _ kt_) ?_
    have gt_lp : n0 ≤ lp := Nat.le_trans ZZ_23 (Nat.le_of_eq g24.symm)
    have ne_al_lp : al ≠ lp := Nat.ne_of_lt (Nat.lt_of_lt_of_le E_al_23.lt (Nat.le_of_eq g24.symm))
    have ne_xa_lp : xa ≠ lp := Nat.ne_of_lt (Nat.lt_of_lt_of_le E_xa_23.lt (Nat.le_of_eq g24.symm))
    have ne_xb_lp : xb ≠ lp := Nat.ne_of_lt (Nat.lt_of_lt_of_le E_xb_23.lt (Nat.le_of_eq g24.symm))
    have ne_xc_lp : xc ≠ lp := Nat.ne_of_lt (Nat.lt_of_lt_of_le E_xc_23.lt (Nat.le_of_eq g24.symm))
    have ne_ba_lp : ba ≠ lp := Nat.ne_of_lt (Nat.lt_of_lt_of_le V_ba_23.lt (Nat.le_of_eq g24.symm))
    have ne_tm_lp : tm ≠ lp := Nat.ne_of_lt (Nat.lt_of_lt_of_le E_tm_23.lt (Nat.le_of_eq g24.symm))
    have ne_ed_lp : ed ≠ lp := Nat.ne_of_lt (Nat.lt_of_lt_of_le V_ed_23.lt (Nat.le_of_eq g24.symm))
    have ZZ_24 : n0 ≤ h24.size := Nat.le_trans ZZ_23 E24.1
    have E_al_24 : Exa Z h24 al "java/util/ArrayList" := E_al_23.ext E24
    have E_xa_24 : Exa Z h24 xa "com/example/lint_for_clocks/lintforclocks/model/Edge" := E_xa_23.ext E24
    have F_line_xa_24 : Fld Z h24 xa "com/example/lint_for_clocks/lintforclocks/model/Edge" "line" "I" (.int p0) := F_line_xa_23.ext E24
    have O_ba_24 : own_Ov Z h24 ba "java/lang/Object" := O_ba_23.ext E24
    have E_xb_24 : Exa Z h24 xb "com/example/lint_for_clocks/lintforclocks/model/Edge" := E_xb_23.ext E24
    have F_line_xb_24 : Fld Z h24 xb "com/example/lint_for_clocks/lintforclocks/model/Edge" "line" "I" (.int p1) := F_line_xb_23.ext E24
    have E_xc_24 : Exa Z h24 xc "com/example/lint_for_clocks/lintforclocks/model/Edge" := E_xc_23.ext E24
    have F_line_xc_24 : Fld Z h24 xc "com/example/lint_for_clocks/lintforclocks/model/Edge" "line" "I" (.int p2) := F_line_xc_23.ext E24
    have F_modCount_al_24 : Fld Z h24 al "java/util/AbstractList" "modCount" "I" (.int ((((0 : Int32) + (1 : Int32)) + (1 : Int32)) + (1 : Int32))) := F_modCount_al_23.ext E24
    have F_elementData_al_24 : Fld Z h24 al "java/util/ArrayList" "elementData" "[Ljava/lang/Object;" (.ref ba) := F_elementData_al_23.ext E24
    have F_size_al_24 : Fld Z h24 al "java/util/ArrayList" "size" "I" (.int (3 : Int32)) := F_size_al_23.ext E24
    have V_ba_24 : own_Ary Z h24 ba (.object "java/lang/Object") 10 (own_set (own_set (own_set (fun _ => .null) 0 (.ref xa)) 1 (.ref xb)) 2 (.ref xc)) := V_ba_23.ext E24
    have E_tm_24 : Exa Z h24 tm "com/example/lint_for_clocks/lintforclocks/model/Template" := E_tm_23.ext E24
    have KS_24 : k19 ≤ h24.size := Nat.le_trans KS_23 E24.1
    have F_edges_tm_24 : Fld Z h24 tm "com/example/lint_for_clocks/lintforclocks/model/Template" "edges" "Ljava/util/List;" (.ref al) := F_edges_tm_23.ext E24
    have V_ed_24 : own_Ary Z h24 ed .int 2 (own_set (own_set (fun _ => (.int (0 : Int32))) 0 (.int (0 : Int32))) 1 (.int (((1 : Int32) + (p5 &&& (1 : Int32))) % (3 : Int32)))) := V_ed_23.ext E24
    have F_template_lp : Fld Z h24 lp "com/example/lint_for_clocks/lintforclocks/rules/Loop" "template" "Lcom/example/lint_for_clocks/lintforclocks/model/Template;" .null := D24 (Or.inr (hw _ (List.mem_of_getElem? (i := 131) rfl))) (ty := (.object "com/example/lint_for_clocks/lintforclocks/model/Template")) (by decide)
    have F_shown_lp : Fld Z h24 lp "com/example/lint_for_clocks/lintforclocks/rules/Loop" "shown" "Ljava/util/Map;" .null := D24 (Or.inr (hw _ (List.mem_of_getElem? (i := 133) rfl))) (ty := (.object "java/util/Map")) (by decide)
    have F_edges_lp : Fld Z h24 lp "com/example/lint_for_clocks/lintforclocks/rules/Loop" "edges" "[I" .null := D24 (Or.inr (hw _ (List.mem_of_getElem? (i := 135) rfl))) (ty := (.array .int)) (by decide)
    show own_GoW p e below s _ _ _ (T24.setTop (mkF m 144 #[.val (.int p0), .val (.int p1), .val (.int p2), .val (.int p3), .val (.int p4), .val (.int p5), .val (.ref al), .val (.ref tm), .val (.int (0 : Int32)), .val (.int (((1 : Int32) + (p5 &&& (1 : Int32))) % (3 : Int32))), .val (.ref ed), .unset, .unset] [(.ref lp)]))
    refine own_goW (fun t_ kt_ => XS.dup X24.here hx rfl (hb hby at_144) rfl rfl kt_) ?_
    show own_GoW p e below s _ _ _ (T24.setTop (mkF m 145 #[.val (.int p0), .val (.int p1), .val (.int p2), .val (.int p3), .val (.int p4), .val (.int p5), .val (.ref al), .val (.ref tm), .val (.int (0 : Int32)), .val (.int (((1 : Int32) + (p5 &&& (1 : Int32))) % (3 : Int32))), .val (.ref ed), .unset, .unset] [(.ref lp), (.ref lp)]))
    refine own_goW (fun t_ kt_ => XS.aload X24.here hx rfl (hb hby at_145) rfl rfl kt_) ?_
    show own_GoW p e below s _ _ _ (T24.setTop (mkF m 147 #[.val (.int p0), .val (.int p1), .val (.int p2), .val (.int p3), .val (.int p4), .val (.int p5), .val (.ref al), .val (.ref tm), .val (.int (0 : Int32)), .val (.int (((1 : Int32) + (p5 &&& (1 : Int32))) % (3 : Int32))), .val (.ref ed), .unset, .unset] [(.ref tm), (.ref lp), (.ref lp)]))
    refine own_goW (fun t_ kt_ => XS.aconstNull X24.here hx rfl (hb hby at_147) kt_) ?_
    show own_GoW p e below s _ _ _ (T24.setTop (mkF m 148 #[.val (.int p0), .val (.int p1), .val (.int p2), .val (.int p3), .val (.int p4), .val (.int p5), .val (.ref al), .val (.ref tm), .val (.int (0 : Int32)), .val (.int (((1 : Int32) + (p5 &&& (1 : Int32))) % (3 : Int32))), .val (.ref ed), .unset, .unset] [.null, (.ref tm), (.ref lp), (.ref lp)]))
    refine own_goW (fun t_ kt_ => XS.aload X24.here hx rfl (hb hby at_148) rfl rfl kt_) ?_
    show own_GoW p e below s _ _ _ (T24.setTop (mkF m 150 #[.val (.int p0), .val (.int p1), .val (.int p2), .val (.int p3), .val (.int p4), .val (.int p5), .val (.ref al), .val (.ref tm), .val (.int (0 : Int32)), .val (.int (((1 : Int32) + (p5 &&& (1 : Int32))) % (3 : Int32))), .val (.ref ed), .unset, .unset] [(.ref ed), .null, (.ref tm), (.ref lp), (.ref lp)]))
    obtain ⟨_, _, ⟨T25, L25, k25, n25⟩, -, X25, ⟨Lc25, hQ25, l25, y25, z25⟩, st25⟩ := X24.specialBack hx (y := (⟨"com/example/lint_for_clocks/lintforclocks/rules/Loop", "<init>", "(Lcom/example/lint_for_clocks/lintforclocks/model/Template;Ljava/util/Map;[I)V"⟩ : MethodName)) rfl hown (mvT hZ (hw _ (List.mem_of_getElem? (i := 126) rfl))) (mvT hZ (hw _ (List.mem_of_getElem? (i := 127) rfl))) (mvT hZ (hw _ (List.mem_of_getElem? (i := 128) rfl))) (by decide) (backOf (W := 1) (rm13 l Z a0 hw [] (lp) (tm) (ed) h24 n0 ZZ_24 F_template_lp F_shown_lp F_edges_lp A24 gt_lp) hZ (hw _ (List.mem_of_getElem? (i := 128) rfl)) (hw _ (List.mem_of_getElem? (i := 125) rfl)) (by decide) (by decide)) (g := (mkF m 150 #[.val (.int p0), .val (.int p1), .val (.int p2), .val (.int p3), .val (.int p4), .val (.int p5), .val (.ref al), .val (.ref tm), .val (.int (0 : Int32)), .val (.int (((1 : Int32) + (p5 &&& (1 : Int32))) % (3 : Int32))), .val (.ref ed), .unset, .unset] [(.ref ed), .null, (.ref tm), (.ref lp), (.ref lp)])) rfl (by rw [hml]; rfl) (Steps.refl _) (a := lp) (argsL := [(.ref tm), .null, (.ref ed)]) (rest := [(.ref lp)]) (lenOf pd_12 rfl) rfl (by show 2 * 0 + _ ≤ _; exact Nat.le_of_eq rfl) (hb hby at_150) (fun _ _ => ⟨rfl, e24, (by decide : 22 + 0 ≤ _), (by decide : 130 + 0 ≤ _)⟩)
    dsimp only [Pt.U, Pt.locs, Pt.cells, Pt.slots] at X25 l25 y25 z25 st25 hQ25
    subst l25 y25 z25
    obtain ⟨rfl, Nq25, Kq25, Fq25a, Fq25b⟩ := hQ25
    have N25 := Fr.app N23g Nq25
    refine own_goW (fun t_ kt_ => st25.trans kt_) ?_
    obtain ⟨lo25, X25g, N25g⟩ : ∃ lo, Stand p l e room_1 (s.setVm T19.vm) m #[(.int p0), (.int p1), (.int p2), (.int p3), (.int p4), (.int p5)] below meth c T25 lo 22 130 ∧ Fr n0 lo := ⟨_, X25, N25⟩
    obtain ⟨h25, e25⟩ : ∃ z, T25.heap = z := ⟨_, rfl⟩
    rw [e25] at Kq25 Fq25a Fq25b
    have ZZ_25 : n0 ≤ h25.size := Nat.le_trans ZZ_24 Kq25.1
    have E_al_25 : Exa Z h25 al "java/util/ArrayList" := E_al_24.keep Kq25
    have E_xa_25 : Exa Z h25 xa "com/example/lint_for_clocks/lintforclocks/model/Edge" := E_xa_24.keep Kq25
    have F_line_xa_25 : Fld Z h25 xa "com/example/lint_for_clocks/lintforclocks/model/Edge" "line" "I" (.int p0) := F_line_xa_24.keep Kq25 (ninS ne_xa_lp nin0)
    have O_ba_25 : own_Ov Z h25 ba "java/lang/Object" := O_ba_24.keep Kq25
    have E_xb_25 : Exa Z h25 xb "com/example/lint_for_clocks/lintforclocks/model/Edge" := E_xb_24.keep Kq25
    have F_line_xb_25 : Fld Z h25 xb "com/example/lint_for_clocks/lintforclocks/model/Edge" "line" "I" (.int p1) := F_line_xb_24.keep Kq25 (ninS ne_xb_lp nin0)
    have E_xc_25 : Exa Z h25 xc "com/example/lint_for_clocks/lintforclocks/model/Edge" := E_xc_24.keep Kq25
    have F_line_xc_25 : Fld Z h25 xc "com/example/lint_for_clocks/lintforclocks/model/Edge" "line" "I" (.int p2) := F_line_xc_24.keep Kq25 (ninS ne_xc_lp nin0)
    have F_modCount_al_25 : Fld Z h25 al "java/util/AbstractList" "modCount" "I" (.int ((((0 : Int32) + (1 : Int32)) + (1 : Int32)) + (1 : Int32))) := F_modCount_al_24.keep Kq25 (ninS ne_al_lp nin0)
    have F_elementData_al_25 : Fld Z h25 al "java/util/ArrayList" "elementData" "[Ljava/lang/Object;" (.ref ba) := F_elementData_al_24.keep Kq25 (ninS ne_al_lp nin0)
    have F_size_al_25 : Fld Z h25 al "java/util/ArrayList" "size" "I" (.int (3 : Int32)) := F_size_al_24.keep Kq25 (ninS ne_al_lp nin0)
    have V_ba_25 : own_Ary Z h25 ba (.object "java/lang/Object") 10 (own_set (own_set (own_set (fun _ => .null) 0 (.ref xa)) 1 (.ref xb)) 2 (.ref xc)) := V_ba_24.keep Kq25 (ninS ne_ba_lp nin0)
    have E_tm_25 : Exa Z h25 tm "com/example/lint_for_clocks/lintforclocks/model/Template" := E_tm_24.keep Kq25
    have KS_25 : k19 ≤ h25.size := Nat.le_trans KS_24 Kq25.1
    have F_edges_tm_25 : Fld Z h25 tm "com/example/lint_for_clocks/lintforclocks/model/Template" "edges" "Ljava/util/List;" (.ref al) := F_edges_tm_24.keep Kq25 (ninS ne_tm_lp nin0)
    have V_ed_25 : own_Ary Z h25 ed .int 2 (own_set (own_set (fun _ => (.int (0 : Int32))) 0 (.int (0 : Int32))) 1 (.int (((1 : Int32) + (p5 &&& (1 : Int32))) % (3 : Int32)))) := V_ed_24.keep Kq25 (ninS ne_ed_lp nin0)
    have E_lp_25 : Exa Z h25 lp "com/example/lint_for_clocks/lintforclocks/rules/Loop" := A24.keep Kq25
    show own_GoW p e below s _ _ _ (T25.setTop (mkF m 153 #[.val (.int p0), .val (.int p1), .val (.int p2), .val (.int p3), .val (.int p4), .val (.int p5), .val (.ref al), .val (.ref tm), .val (.int (0 : Int32)), .val (.int (((1 : Int32) + (p5 &&& (1 : Int32))) % (3 : Int32))), .val (.ref ed), .unset, .unset] [(.ref lp)]))
    refine own_goW (fun t_ kt_ => XS.astore X25g.here hx rfl (hb hby at_153) rfl rfl (l' := #[.val (.int p0), .val (.int p1), .val (.int p2), .val (.int p3), .val (.int p4), .val (.int p5), .val (.ref al), .val (.ref tm), .val (.int (0 : Int32)), .val (.int (((1 : Int32) + (p5 &&& (1 : Int32))) % (3 : Int32))), .val (.ref ed), .val (.ref lp), .unset]) rfl kt_) ?_
    show own_GoW p e below s _ _ _ (T25.setTop (mkF m 155 #[.val (.int p0), .val (.int p1), .val (.int p2), .val (.int p3), .val (.int p4), .val (.int p5), .val (.ref al), .val (.ref tm), .val (.int (0 : Int32)), .val (.int (((1 : Int32) + (p5 &&& (1 : Int32))) % (3 : Int32))), .val (.ref ed), .val (.ref lp), .unset] []))
    refine own_goW (fun t_ kt_ => XS.iload X25g.here hx rfl (hb hby at_155) rfl kt_) ?_
    show own_GoW p e below s _ _ _ (T25.setTop (mkF m 157 #[.val (.int p0), .val (.int p1), .val (.int p2), .val (.int p3), .val (.int p4), .val (.int p5), .val (.ref al), .val (.ref tm), .val (.int (0 : Int32)), .val (.int (((1 : Int32) + (p5 &&& (1 : Int32))) % (3 : Int32))), .val (.ref ed), .val (.ref lp), .unset] [(.int (0 : Int32))]))
    refine own_goW (fun t_ kt_ => XS.ifNo X25g.here hx rfl (hb hby at_157) rfl ((if0 _ _).trans (teq (by decide)).2) kt_) ?_
    show own_GoW p e below s _ _ _ (T25.setTop (mkF m 160 #[.val (.int p0), .val (.int p1), .val (.int p2), .val (.int p3), .val (.int p4), .val (.int p5), .val (.ref al), .val (.ref tm), .val (.int (0 : Int32)), .val (.int (((1 : Int32) + (p5 &&& (1 : Int32))) % (3 : Int32))), .val (.ref ed), .val (.ref lp), .unset] []))
    refine own_goW (fun t_ kt_ => XS.iloadN X25g.here hx rfl (hb hby at_160) rfl kt_) ?_
    show own_GoW p e below s _ _ _ (T25.setTop (mkF m 161 #[.val (.int p0), .val (.int p1), .val (.int p2), .val (.int p3), .val (.int p4), .val (.int p5), .val (.ref al), .val (.ref tm), .val (.int (0 : Int32)), .val (.int (((1 : Int32) + (p5 &&& (1 : Int32))) % (3 : Int32))), .val (.ref ed), .val (.ref lp), .unset] [(.int p0)]))
    refine own_goW (fun t_ kt_ => XS.goto X25g.here hx rfl (pc0 := 161) (pc' := 175) rfl (hb hby at_161) (by decide) (by decide) kt_) ?_
    show own_GoW p e below s _ _ _ (T25.setTop (mkF m 175 #[.val (.int p0), .val (.int p1), .val (.int p2), .val (.int p3), .val (.int p4), .val (.int p5), .val (.ref al), .val (.ref tm), .val (.int (0 : Int32)), .val (.int (((1 : Int32) + (p5 &&& (1 : Int32))) % (3 : Int32))), .val (.ref ed), .val (.ref lp), .unset] [(.int p0)]))
    refine own_goW (fun t_ kt_ => XS.istore X25g.here hx rfl (hb hby at_175) rfl (l' := #[.val (.int p0), .val (.int p1), .val (.int p2), .val (.int p3), .val (.int p4), .val (.int p5), .val (.ref al), .val (.ref tm), .val (.int (0 : Int32)), .val (.int (((1 : Int32) + (p5 &&& (1 : Int32))) % (3 : Int32))), .val (.ref ed), .val (.ref lp), .val (.int p0)]) rfl kt_) ?_
    show own_GoW p e below s _ _ _ (T25.setTop (mkF m 177 #[.val (.int p0), .val (.int p1), .val (.int p2), .val (.int p3), .val (.int p4), .val (.int p5), .val (.ref al), .val (.ref tm), .val (.int (0 : Int32)), .val (.int (((1 : Int32) + (p5 &&& (1 : Int32))) % (3 : Int32))), .val (.ref ed), .val (.ref lp), .val (.int p0)] []))
    refine own_goW (fun t_ kt_ => XS.aload X25g.here hx rfl (hb hby at_177) rfl rfl kt_) ?_
    show own_GoW p e below s _ _ _ (T25.setTop (mkF m 179 #[.val (.int p0), .val (.int p1), .val (.int p2), .val (.int p3), .val (.int p4), .val (.int p5), .val (.ref al), .val (.ref tm), .val (.int (0 : Int32)), .val (.int (((1 : Int32) + (p5 &&& (1 : Int32))) % (3 : Int32))), .val (.ref ed), .val (.ref lp), .val (.int p0)] [(.ref lp)]))
    obtain ⟨cq26, kq26, q26a, q26b, q26c⟩ := isOf hZ e25 E_lp_25
    obtain ⟨_, _, ⟨T26, L26, k26, n26⟩, -, X26, ⟨Lc26, hQ26, l26, y26, z26⟩, st26⟩ := X25g.virtualBack hx (y := (⟨"com/example/lint_for_clocks/lintforclocks/rules/Loop", "line", "()I"⟩ : MethodName)) (z := (⟨"com/example/lint_for_clocks/lintforclocks/rules/Loop", "line", "()I"⟩ : MethodName)) hown (mvT hZ (hw _ (List.mem_of_getElem? (i := 136) rfl))) (mvT hZ (hw _ (List.mem_of_getElem? (i := 137) rfl))) (notFace_of_selects (args := #[]) (mvT hZ (hw _ (List.mem_of_getElem? (i := 139) rfl)))) (mvT hZ (hw _ (List.mem_of_getElem? (i := 139) rfl))) (mvT hZ (hw _ (List.mem_of_getElem? (i := 138) rfl))) (by decide) (backOf (W := 0) (rm14 l Z a0 hw [] (lp) (tm) (al) (ed) ((own_set (own_set (fun _ => (.int (0 : Int32))) 0 (.int (0 : Int32))) 1 (.int (((1 : Int32) + (p5 &&& (1 : Int32))) % (3 : Int32))))) ((0 : Int32)) (ba) ((own_set (own_set (own_set (fun _ => .null) 0 (.ref xa)) 1 (.ref xb)) 2 (.ref xc))) (0) (xa) (p0) h25 n0 ZZ_25 Fq25a Fq25b E_tm_25 F_edges_tm_25 E_al_25 V_ed_25 rfl F_size_al_25 F_elementData_al_25 V_ba_25 (by decide) (by decide) rfl E_xa_25 F_line_xa_25) hZ (hw _ (List.mem_of_getElem? (i := 140) rfl)) (hw _ (List.mem_of_getElem? (i := 125) rfl)) (by decide) (by decide)) q26a q26c (g := (mkF m 179 #[.val (.int p0), .val (.int p1), .val (.int p2), .val (.int p3), .val (.int p4), .val (.int p5), .val (.ref al), .val (.ref tm), .val (.int (0 : Int32)), .val (.int (((1 : Int32) + (p5 &&& (1 : Int32))) % (3 : Int32))), .val (.ref ed), .val (.ref lp), .val (.int p0)] [(.ref lp)])) rfl (by rw [hml]; rfl) (Steps.refl _) (argsL := []) (rest := []) (lenOf pd_8 rfl) rfl (by show 2 * 0 + _ ≤ _; exact Nat.le_of_eq rfl) (hb hby at_179) (fun _ _ => ⟨rfl, e25, (by decide : 22 + 0 ≤ _), (by decide : 130 + 0 ≤ _)⟩)
    dsimp only [Pt.U, Pt.locs, Pt.cells, Pt.slots] at X26 l26 y26 z26 st26 hQ26
    subst l26 y26 z26
    obtain ⟨rfl, Nq26, eh26⟩ := hQ26
    have N26 := Fr.app N25g Nq26
    refine own_goW (fun t_ kt_ => st26.trans kt_) ?_
    obtain ⟨lo26, X26g, N26g⟩ : ∃ lo, Stand p l e room_1 (s.setVm T19.vm) m #[(.int p0), (.int p1), (.int p2), (.int p3), (.int p4), (.int p5)] below meth c T26 lo 22 130 ∧ Fr n0 lo := ⟨_, X26, N26⟩
    have e26 : T26.heap = h25 := eh26
    show own_GoW p e below s _ _ _ (T26.setTop (mkF m 182 #[.val (.int p0), .val (.int p1), .val (.int p2), .val (.int p3), .val (.int p4), .val (.int p5), .val (.ref al), .val (.ref tm), .val (.int (0 : Int32)), .val (.int (((1 : Int32) + (p5 &&& (1 : Int32))) % (3 : Int32))), .val (.ref ed), .val (.ref lp), .val (.int p0)] [(.int p0)]))
    refine own_goW (fun t_ kt_ => XS.iload X26g.here hx rfl (hb hby at_182) rfl kt_) ?_
    show own_GoW p e below s _ _ _ (T26.setTop (mkF m 184 #[.val (.int p0), .val (.int p1), .val (.int p2), .val (.int p3), .val (.int p4), .val (.int p5), .val (.ref al), .val (.ref tm), .val (.int (0 : Int32)), .val (.int (((1 : Int32) + (p5 &&& (1 : Int32))) % (3 : Int32))), .val (.ref ed), .val (.ref lp), .val (.int p0)] [(.int p0), (.int p0)]))
    refine own_goW (fun t_ kt_ => XS.icmpNo X26g.here hx rfl (hb hby at_184) rfl (teq rfl).2 kt_) ?_
    show own_GoW p e below s _ _ _ (T26.setTop (mkF m 187 #[.val (.int p0), .val (.int p1), .val (.int p2), .val (.int p3), .val (.int p4), .val (.int p5), .val (.ref al), .val (.ref tm), .val (.int (0 : Int32)), .val (.int (((1 : Int32) + (p5 &&& (1 : Int32))) % (3 : Int32))), .val (.ref ed), .val (.ref lp), .val (.int p0)] []))
    refine own_goW (fun t_ kt_ => XS.iconst X26g.here hx rfl (hb hby at_187) kt_) ?_
    show own_GoW p e below s _ _ _ (T26.setTop (mkF m 188 #[.val (.int p0), .val (.int p1), .val (.int p2), .val (.int p3), .val (.int p4), .val (.int p5), .val (.ref al), .val (.ref tm), .val (.int (0 : Int32)), .val (.int (((1 : Int32) + (p5 &&& (1 : Int32))) % (3 : Int32))), .val (.ref ed), .val (.ref lp), .val (.int p0)] [(.int (1 : Int32))]))
    refine own_goW (fun t_ kt_ => XS.goto X26g.here hx rfl (pc0 := 188) (pc' := 192) rfl (hb hby at_188) (by decide) (by decide) kt_) ?_
    show own_GoW p e below s _ _ _ (T26.setTop (mkF m 192 #[.val (.int p0), .val (.int p1), .val (.int p2), .val (.int p3), .val (.int p4), .val (.int p5), .val (.ref al), .val (.ref tm), .val (.int (0 : Int32)), .val (.int (((1 : Int32) + (p5 &&& (1 : Int32))) % (3 : Int32))), .val (.ref ed), .val (.ref lp), .val (.int p0)] [(.int (1 : Int32))]))
    refine own_retW X26g hS19 (by rw [e26]; exact KS_25) (v := some (.int (1 : Int32))) (fun h => by rw [hret] at h; cases h) hlk ?_ (by decide) (by decide) (fun fs hr => retN X26g hx (t := .boolean) hret (by simp) (hb hby at_192) hr)
    show Q0 Z p0 p1 p2 p3 p4 p5 dea fd h0 n0 (some (.int (1 : Int32))) T26.heap _
    rw [e26]
    exact ⟨rfl, N26g⟩
  · skip
    rw [hm3]
    show own_GoW p e below s _ _ _ (T20.setTop (mkF m 111 #[.val (.int p0), .val (.int p1), .val (.int p2), .val (.int p3), .val (.int p4), .val (.int p5), .val (.ref al), .val (.ref tm), .val (.int (1 : Int32)), .unset, .unset, .unset, .unset] []))
    refine own_goW (fun t_ kt_ => XS.iload X20g.here hx rfl (hb hby at_111) rfl kt_) ?_
    show own_GoW p e below s _ _ _ (T20.setTop (mkF m 113 #[.val (.int p0), .val (.int p1), .val (.int p2), .val (.int p3), .val (.int p4), .val (.int p5), .val (.ref al), .val (.ref tm), .val (.int (1 : Int32)), .unset, .unset, .unset, .unset] [(.int (1 : Int32))]))
    refine own_goW (fun t_ kt_ => XS.iconst X20g.here hx rfl (hb hby at_113) kt_) ?_
    show own_GoW p e below s _ _ _ (T20.setTop (mkF m 114 #[.val (.int p0), .val (.int p1), .val (.int p2), .val (.int p3), .val (.int p4), .val (.int p5), .val (.ref al), .val (.ref tm), .val (.int (1 : Int32)), .unset, .unset, .unset, .unset] [(.int (1 : Int32)), (.int (1 : Int32))]))
    refine own_goW (fun t_ kt_ => XS.iadd X20g.here hx rfl (hb hby at_114) rfl kt_) ?_
    show own_GoW p e below s _ _ _ (T20.setTop (mkF m 115 #[.val (.int p0), .val (.int p1), .val (.int p2), .val (.int p3), .val (.int p4), .val (.int p5), .val (.ref al), .val (.ref tm), .val (.int (1 : Int32)), .unset, .unset, .unset, .unset] [(.int (2 : Int32))]))
    refine own_goW (fun t_ kt_ => XS.iload X20g.here hx rfl (hb hby at_115) rfl kt_) ?_
    show own_GoW p e below s _ _ _ (T20.setTop (mkF m 117 #[.val (.int p0), .val (.int p1), .val (.int p2), .val (.int p3), .val (.int p4), .val (.int p5), .val (.ref al), .val (.ref tm), .val (.int (1 : Int32)), .unset, .unset, .unset, .unset] [(.int p5), (.int (2 : Int32))]))
    refine own_goW (fun t_ kt_ => XS.iconst X20g.here hx rfl (hb hby at_117) kt_) ?_
    show own_GoW p e below s _ _ _ (T20.setTop (mkF m 118 #[.val (.int p0), .val (.int p1), .val (.int p2), .val (.int p3), .val (.int p4), .val (.int p5), .val (.ref al), .val (.ref tm), .val (.int (1 : Int32)), .unset, .unset, .unset, .unset] [(.int (1 : Int32)), (.int p5), (.int (2 : Int32))]))
    refine own_goW (fun t_ kt_ => XS.iand X20g.here hx rfl (hb hby at_118) rfl kt_) ?_
    show own_GoW p e below s _ _ _ (T20.setTop (mkF m 119 #[.val (.int p0), .val (.int p1), .val (.int p2), .val (.int p3), .val (.int p4), .val (.int p5), .val (.ref al), .val (.ref tm), .val (.int (1 : Int32)), .unset, .unset, .unset, .unset] [(.int (p5 &&& (1 : Int32))), (.int (2 : Int32))]))
    refine own_goW (fun t_ kt_ => XS.iadd X20g.here hx rfl (hb hby at_119) rfl kt_) ?_
    show own_GoW p e below s _ _ _ (T20.setTop (mkF m 120 #[.val (.int p0), .val (.int p1), .val (.int p2), .val (.int p3), .val (.int p4), .val (.int p5), .val (.ref al), .val (.ref tm), .val (.int (1 : Int32)), .unset, .unset, .unset, .unset] [(.int ((2 : Int32) + (p5 &&& (1 : Int32))))]))
    refine own_goW (fun t_ kt_ => XS.iconst X20g.here hx rfl (hb hby at_120) kt_) ?_
    show own_GoW p e below s _ _ _ (T20.setTop (mkF m 121 #[.val (.int p0), .val (.int p1), .val (.int p2), .val (.int p3), .val (.int p4), .val (.int p5), .val (.ref al), .val (.ref tm), .val (.int (1 : Int32)), .unset, .unset, .unset, .unset] [(.int (3 : Int32)), (.int ((2 : Int32) + (p5 &&& (1 : Int32))))]))
    refine own_goW (fun t_ kt_ => iremM X20g hx rfl (hb hby at_121) rfl (by decide) kt_) ?_
    show own_GoW p e below s _ _ _ (T20.setTop (mkF m 122 #[.val (.int p0), .val (.int p1), .val (.int p2), .val (.int p3), .val (.int p4), .val (.int p5), .val (.ref al), .val (.ref tm), .val (.int (1 : Int32)), .unset, .unset, .unset, .unset] [(.int (((2 : Int32) + (p5 &&& (1 : Int32))) % (3 : Int32)))]))
    refine own_goW (fun t_ kt_ => XS.istore X20g.here hx rfl (hb hby at_122) rfl (l' := #[.val (.int p0), .val (.int p1), .val (.int p2), .val (.int p3), .val (.int p4), .val (.int p5), .val (.ref al), .val (.ref tm), .val (.int (1 : Int32)), .val (.int (((2 : Int32) + (p5 &&& (1 : Int32))) % (3 : Int32))), .unset, .unset, .unset]) rfl kt_) ?_
    show own_GoW p e below s _ _ _ (T20.setTop (mkF m 124 #[.val (.int p0), .val (.int p1), .val (.int p2), .val (.int p3), .val (.int p4), .val (.int p5), .val (.ref al), .val (.ref tm), .val (.int (1 : Int32)), .val (.int (((2 : Int32) + (p5 &&& (1 : Int32))) % (3 : Int32))), .unset, .unset, .unset] []))
    refine own_goW (fun t_ kt_ => XS.iconst X20g.here hx rfl (hb hby at_124) kt_) ?_
    show own_GoW p e below s _ _ _ (T20.setTop (mkF m 125 #[.val (.int p0), .val (.int p1), .val (.int p2), .val (.int p3), .val (.int p4), .val (.int p5), .val (.ref al), .val (.ref tm), .val (.int (1 : Int32)), .val (.int (((2 : Int32) + (p5 &&& (1 : Int32))) % (3 : Int32))), .unset, .unset, .unset] [(.int (2 : Int32))]))
    obtain ⟨T27, h27, k27, X27, e27, E27, A27, st27⟩ := newP X20g hx hZ (hw _ (List.mem_of_getElem? (i := 122) rfl)) e20 (g := (mkF m 125 #[.val (.int p0), .val (.int p1), .val (.int p2), .val (.int p3), .val (.int p4), .val (.int p5), .val (.ref al), .val (.ref tm), .val (.int (1 : Int32)), .val (.int (((2 : Int32) + (p5 &&& (1 : Int32))) % (3 : Int32))), .unset, .unset, .unset] [(.int (2 : Int32))])) rfl (hb hby at_125) rfl (by decide) (cap := 2) (by decide) (by decide) (by decide) (by decide)
    obtain ⟨ed, g27⟩ : ∃ z, z = h20.size := ⟨_, rfl⟩
    rw [← g27] at A27 st27
    refine own_goW (fun t_ kt_ => st27 _ kt_) ?_
    have gt_ed : n0 ≤ ed := Nat.le_trans ZZ_20 (Nat.le_of_eq g27.symm)
    have ne_al_ed : al ≠ ed := Nat.ne_of_lt (Nat.lt_of_lt_of_le E_al_20.lt (Nat.le_of_eq g27.symm))
    have ne_xa_ed : xa ≠ ed := Nat.ne_of_lt (Nat.lt_of_lt_of_le E_xa_20.lt (Nat.le_of_eq g27.symm))
    have ne_xb_ed : xb ≠ ed := Nat.ne_of_lt (Nat.lt_of_lt_of_le E_xb_20.lt (Nat.le_of_eq g27.symm))
    have ne_xc_ed : xc ≠ ed := Nat.ne_of_lt (Nat.lt_of_lt_of_le E_xc_20.lt (Nat.le_of_eq g27.symm))
    have ne_ba_ed : ba ≠ ed := Nat.ne_of_lt (Nat.lt_of_lt_of_le V_ba_20.lt (Nat.le_of_eq g27.symm))
    have ne_tm_ed : tm ≠ ed := Nat.ne_of_lt (Nat.lt_of_lt_of_le E_tm_20.lt (Nat.le_of_eq g27.symm))
    have ZZ_27 : n0 ≤ h27.size := Nat.le_trans ZZ_20 E27.1
    have E_al_27 : Exa Z h27 al "java/util/ArrayList" := E_al_20.ext E27
    have E_xa_27 : Exa Z h27 xa "com/example/lint_for_clocks/lintforclocks/model/Edge" := E_xa_20.ext E27
    have F_line_xa_27 : Fld Z h27 xa "com/example/lint_for_clocks/lintforclocks/model/Edge" "line" "I" (.int p0) := F_line_xa_20.ext E27
    have O_ba_27 : own_Ov Z h27 ba "java/lang/Object" := O_ba_20.ext E27
    have E_xb_27 : Exa Z h27 xb "com/example/lint_for_clocks/lintforclocks/model/Edge" := E_xb_20.ext E27
    have F_line_xb_27 : Fld Z h27 xb "com/example/lint_for_clocks/lintforclocks/model/Edge" "line" "I" (.int p1) := F_line_xb_20.ext E27
    have E_xc_27 : Exa Z h27 xc "com/example/lint_for_clocks/lintforclocks/model/Edge" := E_xc_20.ext E27
    have F_line_xc_27 : Fld Z h27 xc "com/example/lint_for_clocks/lintforclocks/model/Edge" "line" "I" (.int p2) := F_line_xc_20.ext E27
    have F_modCount_al_27 : Fld Z h27 al "java/util/AbstractList" "modCount" "I" (.int ((((0 : Int32) + (1 : Int32)) + (1 : Int32)) + (1 : Int32))) := F_modCount_al_20.ext E27
    have F_elementData_al_27 : Fld Z h27 al "java/util/ArrayList" "elementData" "[Ljava/lang/Object;" (.ref ba) := F_elementData_al_20.ext E27
    have F_size_al_27 : Fld Z h27 al "java/util/ArrayList" "size" "I" (.int (3 : Int32)) := F_size_al_20.ext E27
    have V_ba_27 : own_Ary Z h27 ba (.object "java/lang/Object") 10 (own_set (own_set (own_set (fun _ => .null) 0 (.ref xa)) 1 (.ref xb)) 2 (.ref xc)) := V_ba_20.ext E27
    have E_tm_27 : Exa Z h27 tm "com/example/lint_for_clocks/lintforclocks/model/Template" := E_tm_20.ext E27
    have KS_27 : k19 ≤ h27.size := Nat.le_trans KS_20 E27.1
    have F_edges_tm_27 : Fld Z h27 tm "com/example/lint_for_clocks/lintforclocks/model/Template" "edges" "Ljava/util/List;" (.ref al) := Fq20.ext E27
    have V_ed : own_Ary Z h27 ed .int 2 (fun _ => (.int (0 : Int32))) := own_Ary.new A27 (by decide)
    show own_GoW p e below s _ _ _ (T27.setTop (mkF m 127 #[.val (.int p0), .val (.int p1), .val (.int p2), .val (.int p3), .val (.int p4), .val (.int p5), .val (.ref al), .val (.ref tm), .val (.int (1 : Int32)), .val (.int (((2 : Int32) + (p5 &&& (1 : Int32))) % (3 : Int32))), .unset, .unset, .unset] [(.ref ed)]))
    refine own_goW (fun t_ kt_ => XS.astore X27.here hx rfl (hb hby at_127) rfl rfl (l' := #[.val (.int p0), .val (.int p1), .val (.int p2), .val (.int p3), .val (.int p4), .val (.int p5), .val (.ref al), .val (.ref tm), .val (.int (1 : Int32)), .val (.int (((2 : Int32) + (p5 &&& (1 : Int32))) % (3 : Int32))), .val (.ref ed), .unset, .unset]) rfl kt_) ?_
    show own_GoW p e below s _ _ _ (T27.setTop (mkF m 129 #[.val (.int p0), .val (.int p1), .val (.int p2), .val (.int p3), .val (.int p4), .val (.int p5), .val (.ref al), .val (.ref tm), .val (.int (1 : Int32)), .val (.int (((2 : Int32) + (p5 &&& (1 : Int32))) % (3 : Int32))), .val (.ref ed), .unset, .unset] []))
    refine own_goW (fun t_ kt_ => XS.aload X27.here hx rfl (hb hby at_129) rfl rfl kt_) ?_
    show own_GoW p e below s _ _ _ (T27.setTop (mkF m 131 #[.val (.int p0), .val (.int p1), .val (.int p2), .val (.int p3), .val (.int p4), .val (.int p5), .val (.ref al), .val (.ref tm), .val (.int (1 : Int32)), .val (.int (((2 : Int32) + (p5 &&& (1 : Int32))) % (3 : Int32))), .val (.ref ed), .unset, .unset] [(.ref ed)]))
    refine own_goW (fun t_ kt_ => XS.iconst X27.here hx rfl (hb hby at_131) kt_) ?_
    show own_GoW p e below s _ _ _ (T27.setTop (mkF m 132 #[.val (.int p0), .val (.int p1), .val (.int p2), .val (.int p3), .val (.int p4), .val (.int p5), .val (.ref al), .val (.ref tm), .val (.int (1 : Int32)), .val (.int (((2 : Int32) + (p5 &&& (1 : Int32))) % (3 : Int32))), .val (.ref ed), .unset, .unset] [(.int (0 : Int32)), (.ref ed)]))
    refine own_goW (fun t_ kt_ => XS.iload X27.here hx rfl (hb hby at_132) rfl kt_) ?_
    show own_GoW p e below s _ _ _ (T27.setTop (mkF m 134 #[.val (.int p0), .val (.int p1), .val (.int p2), .val (.int p3), .val (.int p4), .val (.int p5), .val (.ref al), .val (.ref tm), .val (.int (1 : Int32)), .val (.int (((2 : Int32) + (p5 &&& (1 : Int32))) % (3 : Int32))), .val (.ref ed), .unset, .unset] [(.int (1 : Int32)), (.int (0 : Int32)), (.ref ed)]))
    obtain ⟨ce28, Ar28, S28, G28⟩ := id V_ed
    obtain ⟨T28, h28, X28, e28, W28, st28⟩ := stI X27 hx hZ e27 Ar28 (j := (0 : Int32)) (own_in (i := 0) S28 (by decide) (by decide)) (g := (mkF m 134 #[.val (.int p0), .val (.int p1), .val (.int p2), .val (.int p3), .val (.int p4), .val (.int p5), .val (.ref al), .val (.ref tm), .val (.int (1 : Int32)), .val (.int (((2 : Int32) + (p5 &&& (1 : Int32))) % (3 : Int32))), .val (.ref ed), .unset, .unset] [(.int (1 : Int32)), (.int (0 : Int32)), (.ref ed)])) rfl rfl (hb hby at_134)
    rw [own_cl (j := (0 : Int32)) (i := 0) (by decide)] at W28 X28
    refine own_goW (fun t_ kt_ => st28 _ kt_) ?_
    have N28 := Fr.snoc X28 N20g gt_ed
    obtain ⟨lo28, X28g, N28g⟩ : ∃ lo, Stand p l e room_1 (s.setVm T19.vm) m #[(.int p0), (.int p1), (.int p2), (.int p3), (.int p4), (.int p5)] below meth c T28 lo 21 126 ∧ Fr n0 lo := ⟨_, X28, N28⟩
    have ZZ_28 : n0 ≤ h28.size := Nat.le_trans ZZ_27 (Nat.le_of_eq W28.size.symm)
    have E_al_28 : Exa Z h28 al "java/util/ArrayList" := E_al_27.wr W28
    have E_xa_28 : Exa Z h28 xa "com/example/lint_for_clocks/lintforclocks/model/Edge" := E_xa_27.wr W28
    have F_line_xa_28 : Fld Z h28 xa "com/example/lint_for_clocks/lintforclocks/model/Edge" "line" "I" (.int p0) := F_line_xa_27.other W28 (Or.inl ne_xa_ed)
    have O_ba_28 : own_Ov Z h28 ba "java/lang/Object" := O_ba_27.wr W28
    have E_xb_28 : Exa Z h28 xb "com/example/lint_for_clocks/lintforclocks/model/Edge" := E_xb_27.wr W28
    have F_line_xb_28 : Fld Z h28 xb "com/example/lint_for_clocks/lintforclocks/model/Edge" "line" "I" (.int p1) := F_line_xb_27.other W28 (Or.inl ne_xb_ed)
    have E_xc_28 : Exa Z h28 xc "com/example/lint_for_clocks/lintforclocks/model/Edge" := E_xc_27.wr W28
    have F_line_xc_28 : Fld Z h28 xc "com/example/lint_for_clocks/lintforclocks/model/Edge" "line" "I" (.int p2) := F_line_xc_27.other W28 (Or.inl ne_xc_ed)
    have F_modCount_al_28 : Fld Z h28 al "java/util/AbstractList" "modCount" "I" (.int ((((0 : Int32) + (1 : Int32)) + (1 : Int32)) + (1 : Int32))) := F_modCount_al_27.other W28 (Or.inl ne_al_ed)
    have F_elementData_al_28 : Fld Z h28 al "java/util/ArrayList" "elementData" "[Ljava/lang/Object;" (.ref ba) := F_elementData_al_27.other W28 (Or.inl ne_al_ed)
    have F_size_al_28 : Fld Z h28 al "java/util/ArrayList" "size" "I" (.int (3 : Int32)) := F_size_al_27.other W28 (Or.inl ne_al_ed)
    have V_ba_28 : own_Ary Z h28 ba (.object "java/lang/Object") 10 (own_set (own_set (own_set (fun _ => .null) 0 (.ref xa)) 1 (.ref xb)) 2 (.ref xc)) := V_ba_27.other W28 ne_ba_ed
    have E_tm_28 : Exa Z h28 tm "com/example/lint_for_clocks/lintforclocks/model/Template" := E_tm_27.wr W28
    have KS_28 : k19 ≤ h28.size := Nat.le_trans KS_27 (Nat.le_of_eq W28.size.symm)
    have F_edges_tm_28 : Fld Z h28 tm "com/example/lint_for_clocks/lintforclocks/model/Template" "edges" "Ljava/util/List;" (.ref al) := F_edges_tm_27.other W28 (Or.inl ne_tm_ed)
    have V_ed_28 : own_Ary Z h28 ed .int 2 (own_set (fun _ => (.int (0 : Int32))) 0 (.int (1 : Int32))) := own_Ary.set Ar28 S28 G28 W28
    show own_GoW p e below s _ _ _ (T28.setTop (mkF m 135 #[.val (.int p0), .val (.int p1), .val (.int p2), .val (.int p3), .val (.int p4), .val (.int p5), .val (.ref al), .val (.ref tm), .val (.int (1 : Int32)), .val (.int (((2 : Int32) + (p5 &&& (1 : Int32))) % (3 : Int32))), .val (.ref ed), .unset, .unset] []))
    refine own_goW (fun t_ kt_ => XS.aload X28g.here hx rfl (hb hby at_135) rfl rfl kt_) ?_
    show own_GoW p e below s _ _ _ (T28.setTop (mkF m 137 #[.val (.int p0), .val (.int p1), .val (.int p2), .val (.int p3), .val (.int p4), .val (.int p5), .val (.ref al), .val (.ref tm), .val (.int (1 : Int32)), .val (.int (((2 : Int32) + (p5 &&& (1 : Int32))) % (3 : Int32))), .val (.ref ed), .unset, .unset] [(.ref ed)]))
    refine own_goW (fun t_ kt_ => XS.iconst X28g.here hx rfl (hb hby at_137) kt_) ?_
    show own_GoW p e below s _ _ _ (T28.setTop (mkF m 138 #[.val (.int p0), .val (.int p1), .val (.int p2), .val (.int p3), .val (.int p4), .val (.int p5), .val (.ref al), .val (.ref tm), .val (.int (1 : Int32)), .val (.int (((2 : Int32) + (p5 &&& (1 : Int32))) % (3 : Int32))), .val (.ref ed), .unset, .unset] [(.int (1 : Int32)), (.ref ed)]))
    refine own_goW (fun t_ kt_ => XS.iload X28g.here hx rfl (hb hby at_138) rfl kt_) ?_
    show own_GoW p e below s _ _ _ (T28.setTop (mkF m 140 #[.val (.int p0), .val (.int p1), .val (.int p2), .val (.int p3), .val (.int p4), .val (.int p5), .val (.ref al), .val (.ref tm), .val (.int (1 : Int32)), .val (.int (((2 : Int32) + (p5 &&& (1 : Int32))) % (3 : Int32))), .val (.ref ed), .unset, .unset] [(.int (((2 : Int32) + (p5 &&& (1 : Int32))) % (3 : Int32))), (.int (1 : Int32)), (.ref ed)]))
    obtain ⟨ce29, Ar29, S29, G29⟩ := id V_ed_28
    obtain ⟨T29, h29, X29, e29, W29, st29⟩ := stI X28g hx hZ e28 Ar29 (j := (1 : Int32)) (own_in (i := 1) S29 (by decide) (by decide)) (g := (mkF m 140 #[.val (.int p0), .val (.int p1), .val (.int p2), .val (.int p3), .val (.int p4), .val (.int p5), .val (.ref al), .val (.ref tm), .val (.int (1 : Int32)), .val (.int (((2 : Int32) + (p5 &&& (1 : Int32))) % (3 : Int32))), .val (.ref ed), .unset, .unset] [(.int (((2 : Int32) + (p5 &&& (1 : Int32))) % (3 : Int32))), (.int (1 : Int32)), (.ref ed)])) rfl rfl (hb hby at_140)
    rw [own_cl (j := (1 : Int32)) (i := 1) (by decide)] at W29 X29
    refine own_goW (fun t_ kt_ => st29 _ kt_) ?_
    have N29 := Fr.snoc X29 N28g gt_ed
    obtain ⟨lo29, X29g, N29g⟩ : ∃ lo, Stand p l e room_1 (s.setVm T19.vm) m #[(.int p0), (.int p1), (.int p2), (.int p3), (.int p4), (.int p5)] below meth c T29 lo 21 126 ∧ Fr n0 lo := ⟨_, X29, N29⟩
    have ZZ_29 : n0 ≤ h29.size := Nat.le_trans ZZ_28 (Nat.le_of_eq W29.size.symm)
    have E_al_29 : Exa Z h29 al "java/util/ArrayList" := E_al_28.wr W29
    have E_xa_29 : Exa Z h29 xa "com/example/lint_for_clocks/lintforclocks/model/Edge" := E_xa_28.wr W29
    have F_line_xa_29 : Fld Z h29 xa "com/example/lint_for_clocks/lintforclocks/model/Edge" "line" "I" (.int p0) := F_line_xa_28.other W29 (Or.inl ne_xa_ed)
    have O_ba_29 : own_Ov Z h29 ba "java/lang/Object" := O_ba_28.wr W29
    have E_xb_29 : Exa Z h29 xb "com/example/lint_for_clocks/lintforclocks/model/Edge" := E_xb_28.wr W29
    have F_line_xb_29 : Fld Z h29 xb "com/example/lint_for_clocks/lintforclocks/model/Edge" "line" "I" (.int p1) := F_line_xb_28.other W29 (Or.inl ne_xb_ed)
    have E_xc_29 : Exa Z h29 xc "com/example/lint_for_clocks/lintforclocks/model/Edge" := E_xc_28.wr W29
    have F_line_xc_29 : Fld Z h29 xc "com/example/lint_for_clocks/lintforclocks/model/Edge" "line" "I" (.int p2) := F_line_xc_28.other W29 (Or.inl ne_xc_ed)
    have F_modCount_al_29 : Fld Z h29 al "java/util/AbstractList" "modCount" "I" (.int ((((0 : Int32) + (1 : Int32)) + (1 : Int32)) + (1 : Int32))) := F_modCount_al_28.other W29 (Or.inl ne_al_ed)
    have F_elementData_al_29 : Fld Z h29 al "java/util/ArrayList" "elementData" "[Ljava/lang/Object;" (.ref ba) := F_elementData_al_28.other W29 (Or.inl ne_al_ed)
    have F_size_al_29 : Fld Z h29 al "java/util/ArrayList" "size" "I" (.int (3 : Int32)) := F_size_al_28.other W29 (Or.inl ne_al_ed)
    have V_ba_29 : own_Ary Z h29 ba (.object "java/lang/Object") 10 (own_set (own_set (own_set (fun _ => .null) 0 (.ref xa)) 1 (.ref xb)) 2 (.ref xc)) := V_ba_28.other W29 ne_ba_ed
    have E_tm_29 : Exa Z h29 tm "com/example/lint_for_clocks/lintforclocks/model/Template" := E_tm_28.wr W29
    have KS_29 : k19 ≤ h29.size := Nat.le_trans KS_28 (Nat.le_of_eq W29.size.symm)
    have F_edges_tm_29 : Fld Z h29 tm "com/example/lint_for_clocks/lintforclocks/model/Template" "edges" "Ljava/util/List;" (.ref al) := F_edges_tm_28.other W29 (Or.inl ne_tm_ed)
    have V_ed_29 : own_Ary Z h29 ed .int 2 (own_set (own_set (fun _ => (.int (0 : Int32))) 0 (.int (1 : Int32))) 1 (.int (((2 : Int32) + (p5 &&& (1 : Int32))) % (3 : Int32)))) := own_Ary.set Ar29 S29 G29 W29
    show own_GoW p e below s _ _ _ (T29.setTop (mkF m 141 #[.val (.int p0), .val (.int p1), .val (.int p2), .val (.int p3), .val (.int p4), .val (.int p5), .val (.ref al), .val (.ref tm), .val (.int (1 : Int32)), .val (.int (((2 : Int32) + (p5 &&& (1 : Int32))) % (3 : Int32))), .val (.ref ed), .unset, .unset] []))
    obtain ⟨T30, h30, X30, e30, E30, A30, D30, U30, st30⟩ := newO X29g hx hZ hown (hw _ (List.mem_of_getElem? (i := 123) rfl)) (hw _ (List.mem_of_getElem? (i := 124) rfl)) (hw _ (List.mem_of_getElem? (i := 125) rfl)) e29 (g := (mkF m 141 #[.val (.int p0), .val (.int p1), .val (.int p2), .val (.int p3), .val (.int p4), .val (.int p5), .val (.ref al), .val (.ref tm), .val (.int (1 : Int32)), .val (.int (((2 : Int32) + (p5 &&& (1 : Int32))) % (3 : Int32))), .val (.ref ed), .unset, .unset] [])) rfl (hb hby at_141) (by decide) (by decide)
    obtain ⟨lp, g30⟩ : ∃ z, z = h29.size := ⟨_, rfl⟩
    rw [← g30] at A30 D30 U30 st30
    refine own_goW (fun t_ kt_ => st30 _ kt_) ?_
    have gt_lp : n0 ≤ lp := Nat.le_trans ZZ_29 (Nat.le_of_eq g30.symm)
    have ne_al_lp : al ≠ lp := Nat.ne_of_lt (Nat.lt_of_lt_of_le E_al_29.lt (Nat.le_of_eq g30.symm))
    have ne_xa_lp : xa ≠ lp := Nat.ne_of_lt (Nat.lt_of_lt_of_le E_xa_29.lt (Nat.le_of_eq g30.symm))
    have ne_xb_lp : xb ≠ lp := Nat.ne_of_lt (Nat.lt_of_lt_of_le E_xb_29.lt (Nat.le_of_eq g30.symm))
    have ne_xc_lp : xc ≠ lp := Nat.ne_of_lt (Nat.lt_of_lt_of_le E_xc_29.lt (Nat.le_of_eq g30.symm))
    have ne_ba_lp : ba ≠ lp := Nat.ne_of_lt (Nat.lt_of_lt_of_le V_ba_29.lt (Nat.le_of_eq g30.symm))
    have ne_tm_lp : tm ≠ lp := Nat.ne_of_lt (Nat.lt_of_lt_of_le E_tm_29.lt (Nat.le_of_eq g30.symm))
    have ne_ed_lp : ed ≠ lp := Nat.ne_of_lt (Nat.lt_of_lt_of_le V_ed_29.lt (Nat.le_of_eq g30.symm))
    have ZZ_30 : n0 ≤ h30.size := Nat.le_trans ZZ_29 E30.1
    have E_al_30 : Exa Z h30 al "java/util/ArrayList" := E_al_29.ext E30
    have E_xa_30 : Exa Z h30 xa "com/example/lint_for_clocks/lintforclocks/model/Edge" := E_xa_29.ext E30
    have F_line_xa_30 : Fld Z h30 xa "com/example/lint_for_clocks/lintforclocks/model/Edge" "line" "I" (.int p0) := F_line_xa_29.ext E30
    have O_ba_30 : own_Ov Z h30 ba "java/lang/Object" := O_ba_29.ext E30
    have E_xb_30 : Exa Z h30 xb "com/example/lint_for_clocks/lintforclocks/model/Edge" := E_xb_29.ext E30
    have F_line_xb_30 : Fld Z h30 xb "com/example/lint_for_clocks/lintforclocks/model/Edge" "line" "I" (.int p1) := F_line_xb_29.ext E30
    have E_xc_30 : Exa Z h30 xc "com/example/lint_for_clocks/lintforclocks/model/Edge" := E_xc_29.ext E30
    have F_line_xc_30 : Fld Z h30 xc "com/example/lint_for_clocks/lintforclocks/model/Edge" "line" "I" (.int p2) := F_line_xc_29.ext E30
    have F_modCount_al_30 : Fld Z h30 al "java/util/AbstractList" "modCount" "I" (.int ((((0 : Int32) + (1 : Int32)) + (1 : Int32)) + (1 : Int32))) := F_modCount_al_29.ext E30
    have F_elementData_al_30 : Fld Z h30 al "java/util/ArrayList" "elementData" "[Ljava/lang/Object;" (.ref ba) := F_elementData_al_29.ext E30
    have F_size_al_30 : Fld Z h30 al "java/util/ArrayList" "size" "I" (.int (3 : Int32)) := F_size_al_29.ext E30
    have V_ba_30 : own_Ary Z h30 ba (.object "java/lang/Object") 10 (own_set (own_set (own_set (fun _ => .null) 0 (.ref xa)) 1 (.ref xb)) 2 (.ref xc)) := V_ba_29.ext E30
    have E_tm_30 : Exa Z h30 tm "com/example/lint_for_clocks/lintforclocks/model/Template" := E_tm_29.ext E30
    have KS_30 : k19 ≤ h30.size := Nat.le_trans KS_29 E30.1
    have F_edges_tm_30 : Fld Z h30 tm "com/example/lint_for_clocks/lintforclocks/model/Template" "edges" "Ljava/util/List;" (.ref al) := F_edges_tm_29.ext E30
    have V_ed_30 : own_Ary Z h30 ed .int 2 (own_set (own_set (fun _ => (.int (0 : Int32))) 0 (.int (1 : Int32))) 1 (.int (((2 : Int32) + (p5 &&& (1 : Int32))) % (3 : Int32)))) := V_ed_29.ext E30
    have F_template_lp : Fld Z h30 lp "com/example/lint_for_clocks/lintforclocks/rules/Loop" "template" "Lcom/example/lint_for_clocks/lintforclocks/model/Template;" .null := D30 (Or.inr (hw _ (List.mem_of_getElem? (i := 131) rfl))) (ty := (.object "com/example/lint_for_clocks/lintforclocks/model/Template")) (by decide)
    have F_shown_lp : Fld Z h30 lp "com/example/lint_for_clocks/lintforclocks/rules/Loop" "shown" "Ljava/util/Map;" .null := D30 (Or.inr (hw _ (List.mem_of_getElem? (i := 133) rfl))) (ty := (.object "java/util/Map")) (by decide)
    have F_edges_lp : Fld Z h30 lp "com/example/lint_for_clocks/lintforclocks/rules/Loop" "edges" "[I" .null := D30 (Or.inr (hw _ (List.mem_of_getElem? (i := 135) rfl))) (ty := (.array .int)) (by decide)
    show own_GoW p e below s _ _ _ (T30.setTop (mkF m 144 #[.val (.int p0), .val (.int p1), .val (.int p2), .val (.int p3), .val (.int p4), .val (.int p5), .val (.ref al), .val (.ref tm), .val (.int (1 : Int32)), .val (.int (((2 : Int32) + (p5 &&& (1 : Int32))) % (3 : Int32))), .val (.ref ed), .unset, .unset] [(.ref lp)]))
    refine own_goW (fun t_ kt_ => XS.dup X30.here hx rfl (hb hby at_144) rfl rfl kt_) ?_
    show own_GoW p e below s _ _ _ (T30.setTop (mkF m 145 #[.val (.int p0), .val (.int p1), .val (.int p2), .val (.int p3), .val (.int p4), .val (.int p5), .val (.ref al), .val (.ref tm), .val (.int (1 : Int32)), .val (.int (((2 : Int32) + (p5 &&& (1 : Int32))) % (3 : Int32))), .val (.ref ed), .unset, .unset] [(.ref lp), (.ref lp)]))
    refine own_goW (fun t_ kt_ => XS.aload X30.here hx rfl (hb hby at_145) rfl rfl kt_) ?_
    show own_GoW p e below s _ _ _ (T30.setTop (mkF m 147 #[.val (.int p0), .val (.int p1), .val (.int p2), .val (.int p3), .val (.int p4), .val (.int p5), .val (.ref al), .val (.ref tm), .val (.int (1 : Int32)), .val (.int (((2 : Int32) + (p5 &&& (1 : Int32))) % (3 : Int32))), .val (.ref ed), .unset, .unset] [(.ref tm), (.ref lp), (.ref lp)]))
    refine own_goW (fun t_ kt_ => XS.aconstNull X30.here hx rfl (hb hby at_147) kt_) ?_
    show own_GoW p e below s _ _ _ (T30.setTop (mkF m 148 #[.val (.int p0), .val (.int p1), .val (.int p2), .val (.int p3), .val (.int p4), .val (.int p5), .val (.ref al), .val (.ref tm), .val (.int (1 : Int32)), .val (.int (((2 : Int32) + (p5 &&& (1 : Int32))) % (3 : Int32))), .val (.ref ed), .unset, .unset] [.null, (.ref tm), (.ref lp), (.ref lp)]))
    refine own_goW (fun t_ kt_ => XS.aload X30.here hx rfl (hb hby at_148) rfl rfl kt_) ?_
    show own_GoW p e below s _ _ _ (T30.setTop (mkF m 150 #[.val (.int p0), .val (.int p1), .val (.int p2), .val (.int p3), .val (.int p4), .val (.int p5), .val (.ref al), .val (.ref tm), .val (.int (1 : Int32)), .val (.int (((2 : Int32) + (p5 &&& (1 : Int32))) % (3 : Int32))), .val (.ref ed), .unset, .unset] [(.ref ed), .null, (.ref tm), (.ref lp), (.ref lp)]))
    obtain ⟨_, _, ⟨T31, L31, k31, n31⟩, -, X31, ⟨Lc31, hQ31, l31, y31, z31⟩, st31⟩ := X30.specialBack hx (y := (⟨"com/example/lint_for_clocks/lintforclocks/rules/Loop", "<init>", "(Lcom/example/lint_for_clocks/lintforclocks/model/Template;Ljava/util/Map;[I)V"⟩ : MethodName)) rfl hown (mvT hZ (hw _ (List.mem_of_getElem? (i := 126) rfl))) (mvT hZ (hw _ (List.mem_of_getElem? (i := 127) rfl))) (mvT hZ (hw _ (List.mem_of_getElem? (i := 128) rfl))) (by decide) (backOf (W := 1) (rm13 l Z a0 hw [] (lp) (tm) (ed) h30 n0 ZZ_30 F_template_lp F_shown_lp F_edges_lp A30 gt_lp) hZ (hw _ (List.mem_of_getElem? (i := 128) rfl)) (hw _ (List.mem_of_getElem? (i := 125) rfl)) (by decide) (by decide)) (g := (mkF m 150 #[.val (.int p0), .val (.int p1), .val (.int p2), .val (.int p3), .val (.int p4), .val (.int p5), .val (.ref al), .val (.ref tm), .val (.int (1 : Int32)), .val (.int (((2 : Int32) + (p5 &&& (1 : Int32))) % (3 : Int32))), .val (.ref ed), .unset, .unset] [(.ref ed), .null, (.ref tm), (.ref lp), (.ref lp)])) rfl (by rw [hml]; rfl) (Steps.refl _) (a := lp) (argsL := [(.ref tm), .null, (.ref ed)]) (rest := [(.ref lp)]) (lenOf pd_12 rfl) rfl (by show 2 * 0 + _ ≤ _; exact Nat.le_of_eq rfl) (hb hby at_150) (fun _ _ => ⟨rfl, e30, (by decide : 22 + 0 ≤ _), (by decide : 130 + 0 ≤ _)⟩)
    dsimp only [Pt.U, Pt.locs, Pt.cells, Pt.slots] at X31 l31 y31 z31 st31 hQ31
    subst l31 y31 z31
    obtain ⟨rfl, Nq31, Kq31, Fq31a, Fq31b⟩ := hQ31
    have N31 := Fr.app N29g Nq31
    refine own_goW (fun t_ kt_ => st31.trans kt_) ?_
    obtain ⟨lo31, X31g, N31g⟩ : ∃ lo, Stand p l e room_1 (s.setVm T19.vm) m #[(.int p0), (.int p1), (.int p2), (.int p3), (.int p4), (.int p5)] below meth c T31 lo 22 130 ∧ Fr n0 lo := ⟨_, X31, N31⟩
    obtain ⟨h31, e31⟩ : ∃ z, T31.heap = z := ⟨_, rfl⟩
    rw [e31] at Kq31 Fq31a Fq31b
    have ZZ_31 : n0 ≤ h31.size := Nat.le_trans ZZ_30 Kq31.1
    have E_al_31 : Exa Z h31 al "java/util/ArrayList" := E_al_30.keep Kq31
    have E_xa_31 : Exa Z h31 xa "com/example/lint_for_clocks/lintforclocks/model/Edge" := E_xa_30.keep Kq31
    have F_line_xa_31 : Fld Z h31 xa "com/example/lint_for_clocks/lintforclocks/model/Edge" "line" "I" (.int p0) := F_line_xa_30.keep Kq31 (ninS ne_xa_lp nin0)
    have O_ba_31 : own_Ov Z h31 ba "java/lang/Object" := O_ba_30.keep Kq31
    have E_xb_31 : Exa Z h31 xb "com/example/lint_for_clocks/lintforclocks/model/Edge" := E_xb_30.keep Kq31
    have F_line_xb_31 : Fld Z h31 xb "com/example/lint_for_clocks/lintforclocks/model/Edge" "line" "I" (.int p1) := F_line_xb_30.keep Kq31 (ninS ne_xb_lp nin0)
    have E_xc_31 : Exa Z h31 xc "com/example/lint_for_clocks/lintforclocks/model/Edge" := E_xc_30.keep Kq31
    have F_line_xc_31 : Fld Z h31 xc "com/example/lint_for_clocks/lintforclocks/model/Edge" "line" "I" (.int p2) := F_line_xc_30.keep Kq31 (ninS ne_xc_lp nin0)
    have F_modCount_al_31 : Fld Z h31 al "java/util/AbstractList" "modCount" "I" (.int ((((0 : Int32) + (1 : Int32)) + (1 : Int32)) + (1 : Int32))) := F_modCount_al_30.keep Kq31 (ninS ne_al_lp nin0)
    have F_elementData_al_31 : Fld Z h31 al "java/util/ArrayList" "elementData" "[Ljava/lang/Object;" (.ref ba) := F_elementData_al_30.keep Kq31 (ninS ne_al_lp nin0)
    have F_size_al_31 : Fld Z h31 al "java/util/ArrayList" "size" "I" (.int (3 : Int32)) := F_size_al_30.keep Kq31 (ninS ne_al_lp nin0)
    have V_ba_31 : own_Ary Z h31 ba (.object "java/lang/Object") 10 (own_set (own_set (own_set (fun _ => .null) 0 (.ref xa)) 1 (.ref xb)) 2 (.ref xc)) := V_ba_30.keep Kq31 (ninS ne_ba_lp nin0)
    have E_tm_31 : Exa Z h31 tm "com/example/lint_for_clocks/lintforclocks/model/Template" := E_tm_30.keep Kq31
    have KS_31 : k19 ≤ h31.size := Nat.le_trans KS_30 Kq31.1
    have F_edges_tm_31 : Fld Z h31 tm "com/example/lint_for_clocks/lintforclocks/model/Template" "edges" "Ljava/util/List;" (.ref al) := F_edges_tm_30.keep Kq31 (ninS ne_tm_lp nin0)
    have V_ed_31 : own_Ary Z h31 ed .int 2 (own_set (own_set (fun _ => (.int (0 : Int32))) 0 (.int (1 : Int32))) 1 (.int (((2 : Int32) + (p5 &&& (1 : Int32))) % (3 : Int32)))) := V_ed_30.keep Kq31 (ninS ne_ed_lp nin0)
    have E_lp_31 : Exa Z h31 lp "com/example/lint_for_clocks/lintforclocks/rules/Loop" := A30.keep Kq31
    show own_GoW p e below s _ _ _ (T31.setTop (mkF m 153 #[.val (.int p0), .val (.int p1), .val (.int p2), .val (.int p3), .val (.int p4), .val (.int p5), .val (.ref al), .val (.ref tm), .val (.int (1 : Int32)), .val (.int (((2 : Int32) + (p5 &&& (1 : Int32))) % (3 : Int32))), .val (.ref ed), .unset, .unset] [(.ref lp)]))
    refine own_goW (fun t_ kt_ => XS.astore X31g.here hx rfl (hb hby at_153) rfl rfl (l' := #[.val (.int p0), .val (.int p1), .val (.int p2), .val (.int p3), .val (.int p4), .val (.int p5), .val (.ref al), .val (.ref tm), .val (.int (1 : Int32)), .val (.int (((2 : Int32) + (p5 &&& (1 : Int32))) % (3 : Int32))), .val (.ref ed), .val (.ref lp), .unset]) rfl kt_) ?_
    show own_GoW p e below s _ _ _ (T31.setTop (mkF m 155 #[.val (.int p0), .val (.int p1), .val (.int p2), .val (.int p3), .val (.int p4), .val (.int p5), .val (.ref al), .val (.ref tm), .val (.int (1 : Int32)), .val (.int (((2 : Int32) + (p5 &&& (1 : Int32))) % (3 : Int32))), .val (.ref ed), .val (.ref lp), .unset] []))
    refine own_goW (fun t_ kt_ => XS.iload X31g.here hx rfl (hb hby at_155) rfl kt_) ?_
    show own_GoW p e below s _ _ _ (T31.setTop (mkF m 157 #[.val (.int p0), .val (.int p1), .val (.int p2), .val (.int p3), .val (.int p4), .val (.int p5), .val (.ref al), .val (.ref tm), .val (.int (1 : Int32)), .val (.int (((2 : Int32) + (p5 &&& (1 : Int32))) % (3 : Int32))), .val (.ref ed), .val (.ref lp), .unset] [(.int (1 : Int32))]))
    refine own_goW (fun t_ kt_ => XS.ifYes X31g.here hx rfl (pc0 := 157) (pc' := 164) rfl (hb hby at_157) rfl ((if0 _ _).trans (feq (by decide)).2) (by decide) (by decide) kt_) ?_
    show own_GoW p e below s _ _ _ (T31.setTop (mkF m 164 #[.val (.int p0), .val (.int p1), .val (.int p2), .val (.int p3), .val (.int p4), .val (.int p5), .val (.ref al), .val (.ref tm), .val (.int (1 : Int32)), .val (.int (((2 : Int32) + (p5 &&& (1 : Int32))) % (3 : Int32))), .val (.ref ed), .val (.ref lp), .unset] []))
    refine own_goW (fun t_ kt_ => XS.iload X31g.here hx rfl (hb hby at_164) rfl kt_) ?_
    show own_GoW p e below s _ _ _ (T31.setTop (mkF m 166 #[.val (.int p0), .val (.int p1), .val (.int p2), .val (.int p3), .val (.int p4), .val (.int p5), .val (.ref al), .val (.ref tm), .val (.int (1 : Int32)), .val (.int (((2 : Int32) + (p5 &&& (1 : Int32))) % (3 : Int32))), .val (.ref ed), .val (.ref lp), .unset] [(.int (1 : Int32))]))
    refine own_goW (fun t_ kt_ => XS.iconst X31g.here hx rfl (hb hby at_166) kt_) ?_
    show own_GoW p e below s _ _ _ (T31.setTop (mkF m 167 #[.val (.int p0), .val (.int p1), .val (.int p2), .val (.int p3), .val (.int p4), .val (.int p5), .val (.ref al), .val (.ref tm), .val (.int (1 : Int32)), .val (.int (((2 : Int32) + (p5 &&& (1 : Int32))) % (3 : Int32))), .val (.ref ed), .val (.ref lp), .unset] [(.int (1 : Int32)), (.int (1 : Int32))]))
    refine own_goW (fun t_ kt_ => XS.icmpNo X31g.here hx rfl (hb hby at_167) rfl (teq (by decide)).2 kt_) ?_
    show own_GoW p e below s _ _ _ (T31.setTop (mkF m 170 #[.val (.int p0), .val (.int p1), .val (.int p2), .val (.int p3), .val (.int p4), .val (.int p5), .val (.ref al), .val (.ref tm), .val (.int (1 : Int32)), .val (.int (((2 : Int32) + (p5 &&& (1 : Int32))) % (3 : Int32))), .val (.ref ed), .val (.ref lp), .unset] []))
    refine own_goW (fun t_ kt_ => XS.iloadN X31g.here hx rfl (hb hby at_170) rfl kt_) ?_
    show own_GoW p e below s _ _ _ (T31.setTop (mkF m 171 #[.val (.int p0), .val (.int p1), .val (.int p2), .val (.int p3), .val (.int p4), .val (.int p5), .val (.ref al), .val (.ref tm), .val (.int (1 : Int32)), .val (.int (((2 : Int32) + (p5 &&& (1 : Int32))) % (3 : Int32))), .val (.ref ed), .val (.ref lp), .unset] [(.int p1)]))
    refine own_goW (fun t_ kt_ => XS.goto X31g.here hx rfl (pc0 := 171) (pc' := 175) rfl (hb hby at_171) (by decide) (by decide) kt_) ?_
    show own_GoW p e below s _ _ _ (T31.setTop (mkF m 175 #[.val (.int p0), .val (.int p1), .val (.int p2), .val (.int p3), .val (.int p4), .val (.int p5), .val (.ref al), .val (.ref tm), .val (.int (1 : Int32)), .val (.int (((2 : Int32) + (p5 &&& (1 : Int32))) % (3 : Int32))), .val (.ref ed), .val (.ref lp), .unset] [(.int p1)]))
    refine own_goW (fun t_ kt_ => XS.istore X31g.here hx rfl (hb hby at_175) rfl (l' := #[.val (.int p0), .val (.int p1), .val (.int p2), .val (.int p3), .val (.int p4), .val (.int p5), .val (.ref al), .val (.ref tm), .val (.int (1 : Int32)), .val (.int (((2 : Int32) + (p5 &&& (1 : Int32))) % (3 : Int32))), .val (.ref ed), .val (.ref lp), .val (.int p1)]) rfl kt_) ?_
    show own_GoW p e below s _ _ _ (T31.setTop (mkF m 177 #[.val (.int p0), .val (.int p1), .val (.int p2), .val (.int p3), .val (.int p4), .val (.int p5), .val (.ref al), .val (.ref tm), .val (.int (1 : Int32)), .val (.int (((2 : Int32) + (p5 &&& (1 : Int32))) % (3 : Int32))), .val (.ref ed), .val (.ref lp), .val (.int p1)] []))
    refine own_goW (fun t_ kt_ => XS.aload X31g.here hx rfl (hb hby at_177) rfl rfl kt_) ?_
    show own_GoW p e below s _ _ _ (T31.setTop (mkF m 179 #[.val (.int p0), .val (.int p1), .val (.int p2), .val (.int p3), .val (.int p4), .val (.int p5), .val (.ref al), .val (.ref tm), .val (.int (1 : Int32)), .val (.int (((2 : Int32) + (p5 &&& (1 : Int32))) % (3 : Int32))), .val (.ref ed), .val (.ref lp), .val (.int p1)] [(.ref lp)]))
    obtain ⟨cq32, kq32, q32a, q32b, q32c⟩ := isOf hZ e31 E_lp_31
    obtain ⟨_, _, ⟨T32, L32, k32, n32⟩, -, X32, ⟨Lc32, hQ32, l32, y32, z32⟩, st32⟩ := X31g.virtualBack hx (y := (⟨"com/example/lint_for_clocks/lintforclocks/rules/Loop", "line", "()I"⟩ : MethodName)) (z := (⟨"com/example/lint_for_clocks/lintforclocks/rules/Loop", "line", "()I"⟩ : MethodName)) hown (mvT hZ (hw _ (List.mem_of_getElem? (i := 136) rfl))) (mvT hZ (hw _ (List.mem_of_getElem? (i := 137) rfl))) (notFace_of_selects (args := #[]) (mvT hZ (hw _ (List.mem_of_getElem? (i := 139) rfl)))) (mvT hZ (hw _ (List.mem_of_getElem? (i := 139) rfl))) (mvT hZ (hw _ (List.mem_of_getElem? (i := 138) rfl))) (by decide) (backOf (W := 0) (rm14 l Z a0 hw [] (lp) (tm) (al) (ed) ((own_set (own_set (fun _ => (.int (0 : Int32))) 0 (.int (1 : Int32))) 1 (.int (((2 : Int32) + (p5 &&& (1 : Int32))) % (3 : Int32))))) ((1 : Int32)) (ba) ((own_set (own_set (own_set (fun _ => .null) 0 (.ref xa)) 1 (.ref xb)) 2 (.ref xc))) (1) (xb) (p1) h31 n0 ZZ_31 Fq31a Fq31b E_tm_31 F_edges_tm_31 E_al_31 V_ed_31 rfl F_size_al_31 F_elementData_al_31 V_ba_31 (by decide) (by decide) rfl E_xb_31 F_line_xb_31) hZ (hw _ (List.mem_of_getElem? (i := 140) rfl)) (hw _ (List.mem_of_getElem? (i := 125) rfl)) (by decide) (by decide)) q32a q32c (g := (mkF m 179 #[.val (.int p0), .val (.int p1), .val (.int p2), .val (.int p3), .val (.int p4), .val (.int p5), .val (.ref al), .val (.ref tm), .val (.int (1 : Int32)), .val (.int (((2 : Int32) + (p5 &&& (1 : Int32))) % (3 : Int32))), .val (.ref ed), .val (.ref lp), .val (.int p1)] [(.ref lp)])) rfl (by rw [hml]; rfl) (Steps.refl _) (argsL := []) (rest := []) (lenOf pd_8 rfl) rfl (by show 2 * 0 + _ ≤ _; exact Nat.le_of_eq rfl) (hb hby at_179) (fun _ _ => ⟨rfl, e31, (by decide : 22 + 0 ≤ _), (by decide : 130 + 0 ≤ _)⟩)
    dsimp only [Pt.U, Pt.locs, Pt.cells, Pt.slots] at X32 l32 y32 z32 st32 hQ32
    subst l32 y32 z32
    obtain ⟨rfl, Nq32, eh32⟩ := hQ32
    have N32 := Fr.app N31g Nq32
    refine own_goW (fun t_ kt_ => st32.trans kt_) ?_
    obtain ⟨lo32, X32g, N32g⟩ : ∃ lo, Stand p l e room_1 (s.setVm T19.vm) m #[(.int p0), (.int p1), (.int p2), (.int p3), (.int p4), (.int p5)] below meth c T32 lo 22 130 ∧ Fr n0 lo := ⟨_, X32, N32⟩
    have e32 : T32.heap = h31 := eh32
    show own_GoW p e below s _ _ _ (T32.setTop (mkF m 182 #[.val (.int p0), .val (.int p1), .val (.int p2), .val (.int p3), .val (.int p4), .val (.int p5), .val (.ref al), .val (.ref tm), .val (.int (1 : Int32)), .val (.int (((2 : Int32) + (p5 &&& (1 : Int32))) % (3 : Int32))), .val (.ref ed), .val (.ref lp), .val (.int p1)] [(.int p1)]))
    refine own_goW (fun t_ kt_ => XS.iload X32g.here hx rfl (hb hby at_182) rfl kt_) ?_
    show own_GoW p e below s _ _ _ (T32.setTop (mkF m 184 #[.val (.int p0), .val (.int p1), .val (.int p2), .val (.int p3), .val (.int p4), .val (.int p5), .val (.ref al), .val (.ref tm), .val (.int (1 : Int32)), .val (.int (((2 : Int32) + (p5 &&& (1 : Int32))) % (3 : Int32))), .val (.ref ed), .val (.ref lp), .val (.int p1)] [(.int p1), (.int p1)]))
    refine own_goW (fun t_ kt_ => XS.icmpNo X32g.here hx rfl (hb hby at_184) rfl (teq rfl).2 kt_) ?_
    show own_GoW p e below s _ _ _ (T32.setTop (mkF m 187 #[.val (.int p0), .val (.int p1), .val (.int p2), .val (.int p3), .val (.int p4), .val (.int p5), .val (.ref al), .val (.ref tm), .val (.int (1 : Int32)), .val (.int (((2 : Int32) + (p5 &&& (1 : Int32))) % (3 : Int32))), .val (.ref ed), .val (.ref lp), .val (.int p1)] []))
    refine own_goW (fun t_ kt_ => XS.iconst X32g.here hx rfl (hb hby at_187) kt_) ?_
    show own_GoW p e below s _ _ _ (T32.setTop (mkF m 188 #[.val (.int p0), .val (.int p1), .val (.int p2), .val (.int p3), .val (.int p4), .val (.int p5), .val (.ref al), .val (.ref tm), .val (.int (1 : Int32)), .val (.int (((2 : Int32) + (p5 &&& (1 : Int32))) % (3 : Int32))), .val (.ref ed), .val (.ref lp), .val (.int p1)] [(.int (1 : Int32))]))
    refine own_goW (fun t_ kt_ => XS.goto X32g.here hx rfl (pc0 := 188) (pc' := 192) rfl (hb hby at_188) (by decide) (by decide) kt_) ?_
    show own_GoW p e below s _ _ _ (T32.setTop (mkF m 192 #[.val (.int p0), .val (.int p1), .val (.int p2), .val (.int p3), .val (.int p4), .val (.int p5), .val (.ref al), .val (.ref tm), .val (.int (1 : Int32)), .val (.int (((2 : Int32) + (p5 &&& (1 : Int32))) % (3 : Int32))), .val (.ref ed), .val (.ref lp), .val (.int p1)] [(.int (1 : Int32))]))
    refine own_retW X32g hS19 (by rw [e32]; exact KS_31) (v := some (.int (1 : Int32))) (fun h => by rw [hret] at h; cases h) hlk ?_ (by decide) (by decide) (fun fs hr => retN X32g hx (t := .boolean) hret (by simp) (hb hby at_192) hr)
    show Q0 Z p0 p1 p2 p3 p4 p5 dea fd h0 n0 (some (.int (1 : Int32))) T32.heap _
    rw [e32]
    exact ⟨rfl, N32g⟩
  · skip
    rw [hm3]
    show own_GoW p e below s _ _ _ (T20.setTop (mkF m 111 #[.val (.int p0), .val (.int p1), .val (.int p2), .val (.int p3), .val (.int p4), .val (.int p5), .val (.ref al), .val (.ref tm), .val (.int (2 : Int32)), .unset, .unset, .unset, .unset] []))
    refine own_goW (fun t_ kt_ => XS.iload X20g.here hx rfl (hb hby at_111) rfl kt_) ?_
    show own_GoW p e below s _ _ _ (T20.setTop (mkF m 113 #[.val (.int p0), .val (.int p1), .val (.int p2), .val (.int p3), .val (.int p4), .val (.int p5), .val (.ref al), .val (.ref tm), .val (.int (2 : Int32)), .unset, .unset, .unset, .unset] [(.int (2 : Int32))]))
    refine own_goW (fun t_ kt_ => XS.iconst X20g.here hx rfl (hb hby at_113) kt_) ?_
    show own_GoW p e below s _ _ _ (T20.setTop (mkF m 114 #[.val (.int p0), .val (.int p1), .val (.int p2), .val (.int p3), .val (.int p4), .val (.int p5), .val (.ref al), .val (.ref tm), .val (.int (2 : Int32)), .unset, .unset, .unset, .unset] [(.int (1 : Int32)), (.int (2 : Int32))]))
    refine own_goW (fun t_ kt_ => XS.iadd X20g.here hx rfl (hb hby at_114) rfl kt_) ?_
    show own_GoW p e below s _ _ _ (T20.setTop (mkF m 115 #[.val (.int p0), .val (.int p1), .val (.int p2), .val (.int p3), .val (.int p4), .val (.int p5), .val (.ref al), .val (.ref tm), .val (.int (2 : Int32)), .unset, .unset, .unset, .unset] [(.int (3 : Int32))]))
    refine own_goW (fun t_ kt_ => XS.iload X20g.here hx rfl (hb hby at_115) rfl kt_) ?_
    show own_GoW p e below s _ _ _ (T20.setTop (mkF m 117 #[.val (.int p0), .val (.int p1), .val (.int p2), .val (.int p3), .val (.int p4), .val (.int p5), .val (.ref al), .val (.ref tm), .val (.int (2 : Int32)), .unset, .unset, .unset, .unset] [(.int p5), (.int (3 : Int32))]))
    refine own_goW (fun t_ kt_ => XS.iconst X20g.here hx rfl (hb hby at_117) kt_) ?_
    show own_GoW p e below s _ _ _ (T20.setTop (mkF m 118 #[.val (.int p0), .val (.int p1), .val (.int p2), .val (.int p3), .val (.int p4), .val (.int p5), .val (.ref al), .val (.ref tm), .val (.int (2 : Int32)), .unset, .unset, .unset, .unset] [(.int (1 : Int32)), (.int p5), (.int (3 : Int32))]))
    refine own_goW (fun t_ kt_ => XS.iand X20g.here hx rfl (hb hby at_118) rfl kt_) ?_
    show own_GoW p e below s _ _ _ (T20.setTop (mkF m 119 #[.val (.int p0), .val (.int p1), .val (.int p2), .val (.int p3), .val (.int p4), .val (.int p5), .val (.ref al), .val (.ref tm), .val (.int (2 : Int32)), .unset, .unset, .unset, .unset] [(.int (p5 &&& (1 : Int32))), (.int (3 : Int32))]))
    refine own_goW (fun t_ kt_ => XS.iadd X20g.here hx rfl (hb hby at_119) rfl kt_) ?_
    show own_GoW p e below s _ _ _ (T20.setTop (mkF m 120 #[.val (.int p0), .val (.int p1), .val (.int p2), .val (.int p3), .val (.int p4), .val (.int p5), .val (.ref al), .val (.ref tm), .val (.int (2 : Int32)), .unset, .unset, .unset, .unset] [(.int ((3 : Int32) + (p5 &&& (1 : Int32))))]))
    refine own_goW (fun t_ kt_ => XS.iconst X20g.here hx rfl (hb hby at_120) kt_) ?_
    show own_GoW p e below s _ _ _ (T20.setTop (mkF m 121 #[.val (.int p0), .val (.int p1), .val (.int p2), .val (.int p3), .val (.int p4), .val (.int p5), .val (.ref al), .val (.ref tm), .val (.int (2 : Int32)), .unset, .unset, .unset, .unset] [(.int (3 : Int32)), (.int ((3 : Int32) + (p5 &&& (1 : Int32))))]))
    refine own_goW (fun t_ kt_ => iremM X20g hx rfl (hb hby at_121) rfl (by decide) kt_) ?_
    show own_GoW p e below s _ _ _ (T20.setTop (mkF m 122 #[.val (.int p0), .val (.int p1), .val (.int p2), .val (.int p3), .val (.int p4), .val (.int p5), .val (.ref al), .val (.ref tm), .val (.int (2 : Int32)), .unset, .unset, .unset, .unset] [(.int (((3 : Int32) + (p5 &&& (1 : Int32))) % (3 : Int32)))]))
    refine own_goW (fun t_ kt_ => XS.istore X20g.here hx rfl (hb hby at_122) rfl (l' := #[.val (.int p0), .val (.int p1), .val (.int p2), .val (.int p3), .val (.int p4), .val (.int p5), .val (.ref al), .val (.ref tm), .val (.int (2 : Int32)), .val (.int (((3 : Int32) + (p5 &&& (1 : Int32))) % (3 : Int32))), .unset, .unset, .unset]) rfl kt_) ?_
    show own_GoW p e below s _ _ _ (T20.setTop (mkF m 124 #[.val (.int p0), .val (.int p1), .val (.int p2), .val (.int p3), .val (.int p4), .val (.int p5), .val (.ref al), .val (.ref tm), .val (.int (2 : Int32)), .val (.int (((3 : Int32) + (p5 &&& (1 : Int32))) % (3 : Int32))), .unset, .unset, .unset] []))
    refine own_goW (fun t_ kt_ => XS.iconst X20g.here hx rfl (hb hby at_124) kt_) ?_
    show own_GoW p e below s _ _ _ (T20.setTop (mkF m 125 #[.val (.int p0), .val (.int p1), .val (.int p2), .val (.int p3), .val (.int p4), .val (.int p5), .val (.ref al), .val (.ref tm), .val (.int (2 : Int32)), .val (.int (((3 : Int32) + (p5 &&& (1 : Int32))) % (3 : Int32))), .unset, .unset, .unset] [(.int (2 : Int32))]))
    obtain ⟨T33, h33, k33, X33, e33, E33, A33, st33⟩ := newP X20g hx hZ (hw _ (List.mem_of_getElem? (i := 122) rfl)) e20 (g := (mkF m 125 #[.val (.int p0), .val (.int p1), .val (.int p2), .val (.int p3), .val (.int p4), .val (.int p5), .val (.ref al), .val (.ref tm), .val (.int (2 : Int32)), .val (.int (((3 : Int32) + (p5 &&& (1 : Int32))) % (3 : Int32))), .unset, .unset, .unset] [(.int (2 : Int32))])) rfl (hb hby at_125) rfl (by decide) (cap := 2) (by decide) (by decide) (by decide) (by decide)
    obtain ⟨ed, g33⟩ : ∃ z, z = h20.size := ⟨_, rfl⟩
    rw [← g33] at A33 st33
    refine own_goW (fun t_ kt_ => st33 _ kt_) ?_
    have gt_ed : n0 ≤ ed := Nat.le_trans ZZ_20 (Nat.le_of_eq g33.symm)
    have ne_al_ed : al ≠ ed := Nat.ne_of_lt (Nat.lt_of_lt_of_le E_al_20.lt (Nat.le_of_eq g33.symm))
    have ne_xa_ed : xa ≠ ed := Nat.ne_of_lt (Nat.lt_of_lt_of_le E_xa_20.lt (Nat.le_of_eq g33.symm))
    have ne_xb_ed : xb ≠ ed := Nat.ne_of_lt (Nat.lt_of_lt_of_le E_xb_20.lt (Nat.le_of_eq g33.symm))
    have ne_xc_ed : xc ≠ ed := Nat.ne_of_lt (Nat.lt_of_lt_of_le E_xc_20.lt (Nat.le_of_eq g33.symm))
    have ne_ba_ed : ba ≠ ed := Nat.ne_of_lt (Nat.lt_of_lt_of_le V_ba_20.lt (Nat.le_of_eq g33.symm))
    have ne_tm_ed : tm ≠ ed := Nat.ne_of_lt (Nat.lt_of_lt_of_le E_tm_20.lt (Nat.le_of_eq g33.symm))
    have ZZ_33 : n0 ≤ h33.size := Nat.le_trans ZZ_20 E33.1
    have E_al_33 : Exa Z h33 al "java/util/ArrayList" := E_al_20.ext E33
    have E_xa_33 : Exa Z h33 xa "com/example/lint_for_clocks/lintforclocks/model/Edge" := E_xa_20.ext E33
    have F_line_xa_33 : Fld Z h33 xa "com/example/lint_for_clocks/lintforclocks/model/Edge" "line" "I" (.int p0) := F_line_xa_20.ext E33
    have O_ba_33 : own_Ov Z h33 ba "java/lang/Object" := O_ba_20.ext E33
    have E_xb_33 : Exa Z h33 xb "com/example/lint_for_clocks/lintforclocks/model/Edge" := E_xb_20.ext E33
    have F_line_xb_33 : Fld Z h33 xb "com/example/lint_for_clocks/lintforclocks/model/Edge" "line" "I" (.int p1) := F_line_xb_20.ext E33
    have E_xc_33 : Exa Z h33 xc "com/example/lint_for_clocks/lintforclocks/model/Edge" := E_xc_20.ext E33
    have F_line_xc_33 : Fld Z h33 xc "com/example/lint_for_clocks/lintforclocks/model/Edge" "line" "I" (.int p2) := F_line_xc_20.ext E33
    have F_modCount_al_33 : Fld Z h33 al "java/util/AbstractList" "modCount" "I" (.int ((((0 : Int32) + (1 : Int32)) + (1 : Int32)) + (1 : Int32))) := F_modCount_al_20.ext E33
    have F_elementData_al_33 : Fld Z h33 al "java/util/ArrayList" "elementData" "[Ljava/lang/Object;" (.ref ba) := F_elementData_al_20.ext E33
    have F_size_al_33 : Fld Z h33 al "java/util/ArrayList" "size" "I" (.int (3 : Int32)) := F_size_al_20.ext E33
    have V_ba_33 : own_Ary Z h33 ba (.object "java/lang/Object") 10 (own_set (own_set (own_set (fun _ => .null) 0 (.ref xa)) 1 (.ref xb)) 2 (.ref xc)) := V_ba_20.ext E33
    have E_tm_33 : Exa Z h33 tm "com/example/lint_for_clocks/lintforclocks/model/Template" := E_tm_20.ext E33
    have KS_33 : k19 ≤ h33.size := Nat.le_trans KS_20 E33.1
    have F_edges_tm_33 : Fld Z h33 tm "com/example/lint_for_clocks/lintforclocks/model/Template" "edges" "Ljava/util/List;" (.ref al) := Fq20.ext E33
    have V_ed : own_Ary Z h33 ed .int 2 (fun _ => (.int (0 : Int32))) := own_Ary.new A33 (by decide)
    show own_GoW p e below s _ _ _ (T33.setTop (mkF m 127 #[.val (.int p0), .val (.int p1), .val (.int p2), .val (.int p3), .val (.int p4), .val (.int p5), .val (.ref al), .val (.ref tm), .val (.int (2 : Int32)), .val (.int (((3 : Int32) + (p5 &&& (1 : Int32))) % (3 : Int32))), .unset, .unset, .unset] [(.ref ed)]))
    refine own_goW (fun t_ kt_ => XS.astore X33.here hx rfl (hb hby at_127) rfl rfl (l' := #[.val (.int p0), .val (.int p1), .val (.int p2), .val (.int p3), .val (.int p4), .val (.int p5), .val (.ref al), .val (.ref tm), .val (.int (2 : Int32)), .val (.int (((3 : Int32) + (p5 &&& (1 : Int32))) % (3 : Int32))), .val (.ref ed), .unset, .unset]) rfl kt_) ?_
    show own_GoW p e below s _ _ _ (T33.setTop (mkF m 129 #[.val (.int p0), .val (.int p1), .val (.int p2), .val (.int p3), .val (.int p4), .val (.int p5), .val (.ref al), .val (.ref tm), .val (.int (2 : Int32)), .val (.int (((3 : Int32) + (p5 &&& (1 : Int32))) % (3 : Int32))), .val (.ref ed), .unset, .unset] []))
    refine own_goW (fun t_ kt_ => XS.aload X33.here hx rfl (hb hby at_129) rfl rfl kt_) ?_
    show own_GoW p e below s _ _ _ (T33.setTop (mkF m 131 #[.val (.int p0), .val (.int p1), .val (.int p2), .val (.int p3), .val (.int p4), .val (.int p5), .val (.ref al), .val (.ref tm), .val (.int (2 : Int32)), .val (.int (((3 : Int32) + (p5 &&& (1 : Int32))) % (3 : Int32))), .val (.ref ed), .unset, .unset] [(.ref ed)]))
    refine own_goW (fun t_ kt_ => XS.iconst X33.here hx rfl (hb hby at_131) kt_) ?_
    show own_GoW p e below s _ _ _ (T33.setTop (mkF m 132 #[.val (.int p0), .val (.int p1), .val (.int p2), .val (.int p3), .val (.int p4), .val (.int p5), .val (.ref al), .val (.ref tm), .val (.int (2 : Int32)), .val (.int (((3 : Int32) + (p5 &&& (1 : Int32))) % (3 : Int32))), .val (.ref ed), .unset, .unset] [(.int (0 : Int32)), (.ref ed)]))
    refine own_goW (fun t_ kt_ => XS.iload X33.here hx rfl (hb hby at_132) rfl kt_) ?_
    show own_GoW p e below s _ _ _ (T33.setTop (mkF m 134 #[.val (.int p0), .val (.int p1), .val (.int p2), .val (.int p3), .val (.int p4), .val (.int p5), .val (.ref al), .val (.ref tm), .val (.int (2 : Int32)), .val (.int (((3 : Int32) + (p5 &&& (1 : Int32))) % (3 : Int32))), .val (.ref ed), .unset, .unset] [(.int (2 : Int32)), (.int (0 : Int32)), (.ref ed)]))
    obtain ⟨ce34, Ar34, S34, G34⟩ := id V_ed
    obtain ⟨T34, h34, X34, e34, W34, st34⟩ := stI X33 hx hZ e33 Ar34 (j := (0 : Int32)) (own_in (i := 0) S34 (by decide) (by decide)) (g := (mkF m 134 #[.val (.int p0), .val (.int p1), .val (.int p2), .val (.int p3), .val (.int p4), .val (.int p5), .val (.ref al), .val (.ref tm), .val (.int (2 : Int32)), .val (.int (((3 : Int32) + (p5 &&& (1 : Int32))) % (3 : Int32))), .val (.ref ed), .unset, .unset] [(.int (2 : Int32)), (.int (0 : Int32)), (.ref ed)])) rfl rfl (hb hby at_134)
    rw [own_cl (j := (0 : Int32)) (i := 0) (by decide)] at W34 X34
    refine own_goW (fun t_ kt_ => st34 _ kt_) ?_
    have N34 := Fr.snoc X34 N20g gt_ed
    obtain ⟨lo34, X34g, N34g⟩ : ∃ lo, Stand p l e room_1 (s.setVm T19.vm) m #[(.int p0), (.int p1), (.int p2), (.int p3), (.int p4), (.int p5)] below meth c T34 lo 21 126 ∧ Fr n0 lo := ⟨_, X34, N34⟩
    have ZZ_34 : n0 ≤ h34.size := Nat.le_trans ZZ_33 (Nat.le_of_eq W34.size.symm)
    have E_al_34 : Exa Z h34 al "java/util/ArrayList" := E_al_33.wr W34
    have E_xa_34 : Exa Z h34 xa "com/example/lint_for_clocks/lintforclocks/model/Edge" := E_xa_33.wr W34
    have F_line_xa_34 : Fld Z h34 xa "com/example/lint_for_clocks/lintforclocks/model/Edge" "line" "I" (.int p0) := F_line_xa_33.other W34 (Or.inl ne_xa_ed)
    have O_ba_34 : own_Ov Z h34 ba "java/lang/Object" := O_ba_33.wr W34
    have E_xb_34 : Exa Z h34 xb "com/example/lint_for_clocks/lintforclocks/model/Edge" := E_xb_33.wr W34
    have F_line_xb_34 : Fld Z h34 xb "com/example/lint_for_clocks/lintforclocks/model/Edge" "line" "I" (.int p1) := F_line_xb_33.other W34 (Or.inl ne_xb_ed)
    have E_xc_34 : Exa Z h34 xc "com/example/lint_for_clocks/lintforclocks/model/Edge" := E_xc_33.wr W34
    have F_line_xc_34 : Fld Z h34 xc "com/example/lint_for_clocks/lintforclocks/model/Edge" "line" "I" (.int p2) := F_line_xc_33.other W34 (Or.inl ne_xc_ed)
    have F_modCount_al_34 : Fld Z h34 al "java/util/AbstractList" "modCount" "I" (.int ((((0 : Int32) + (1 : Int32)) + (1 : Int32)) + (1 : Int32))) := F_modCount_al_33.other W34 (Or.inl ne_al_ed)
    have F_elementData_al_34 : Fld Z h34 al "java/util/ArrayList" "elementData" "[Ljava/lang/Object;" (.ref ba) := F_elementData_al_33.other W34 (Or.inl ne_al_ed)
    have F_size_al_34 : Fld Z h34 al "java/util/ArrayList" "size" "I" (.int (3 : Int32)) := F_size_al_33.other W34 (Or.inl ne_al_ed)
    have V_ba_34 : own_Ary Z h34 ba (.object "java/lang/Object") 10 (own_set (own_set (own_set (fun _ => .null) 0 (.ref xa)) 1 (.ref xb)) 2 (.ref xc)) := V_ba_33.other W34 ne_ba_ed
    have E_tm_34 : Exa Z h34 tm "com/example/lint_for_clocks/lintforclocks/model/Template" := E_tm_33.wr W34
    have KS_34 : k19 ≤ h34.size := Nat.le_trans KS_33 (Nat.le_of_eq W34.size.symm)
    have F_edges_tm_34 : Fld Z h34 tm "com/example/lint_for_clocks/lintforclocks/model/Template" "edges" "Ljava/util/List;" (.ref al) := F_edges_tm_33.other W34 (Or.inl ne_tm_ed)
    have V_ed_34 : own_Ary Z h34 ed .int 2 (own_set (fun _ => (.int (0 : Int32))) 0 (.int (2 : Int32))) := own_Ary.set Ar34 S34 G34 W34
    show own_GoW p e below s _ _ _ (T34.setTop (mkF m 135 #[.val (.int p0), .val (.int p1), .val (.int p2), .val (.int p3), .val (.int p4), .val (.int p5), .val (.ref al), .val (.ref tm), .val (.int (2 : Int32)), .val (.int (((3 : Int32) + (p5 &&& (1 : Int32))) % (3 : Int32))), .val (.ref ed), .unset, .unset] []))
    refine own_goW (fun t_ kt_ => XS.aload X34g.here hx rfl (hb hby at_135) rfl rfl kt_) ?_
    show own_GoW p e below s _ _ _ (T34.setTop (mkF m 137 #[.val (.int p0), .val (.int p1), .val (.int p2), .val (.int p3), .val (.int p4), .val (.int p5), .val (.ref al), .val (.ref tm), .val (.int (2 : Int32)), .val (.int (((3 : Int32) + (p5 &&& (1 : Int32))) % (3 : Int32))), .val (.ref ed), .unset, .unset] [(.ref ed)]))
    refine own_goW (fun t_ kt_ => XS.iconst X34g.here hx rfl (hb hby at_137) kt_) ?_
    show own_GoW p e below s _ _ _ (T34.setTop (mkF m 138 #[.val (.int p0), .val (.int p1), .val (.int p2), .val (.int p3), .val (.int p4), .val (.int p5), .val (.ref al), .val (.ref tm), .val (.int (2 : Int32)), .val (.int (((3 : Int32) + (p5 &&& (1 : Int32))) % (3 : Int32))), .val (.ref ed), .unset, .unset] [(.int (1 : Int32)), (.ref ed)]))
    refine own_goW (fun t_ kt_ => XS.iload X34g.here hx rfl (hb hby at_138) rfl kt_) ?_
    show own_GoW p e below s _ _ _ (T34.setTop (mkF m 140 #[.val (.int p0), .val (.int p1), .val (.int p2), .val (.int p3), .val (.int p4), .val (.int p5), .val (.ref al), .val (.ref tm), .val (.int (2 : Int32)), .val (.int (((3 : Int32) + (p5 &&& (1 : Int32))) % (3 : Int32))), .val (.ref ed), .unset, .unset] [(.int (((3 : Int32) + (p5 &&& (1 : Int32))) % (3 : Int32))), (.int (1 : Int32)), (.ref ed)]))
    obtain ⟨ce35, Ar35, S35, G35⟩ := id V_ed_34
    obtain ⟨T35, h35, X35, e35, W35, st35⟩ := stI X34g hx hZ e34 Ar35 (j := (1 : Int32)) (own_in (i := 1) S35 (by decide) (by decide)) (g := (mkF m 140 #[.val (.int p0), .val (.int p1), .val (.int p2), .val (.int p3), .val (.int p4), .val (.int p5), .val (.ref al), .val (.ref tm), .val (.int (2 : Int32)), .val (.int (((3 : Int32) + (p5 &&& (1 : Int32))) % (3 : Int32))), .val (.ref ed), .unset, .unset] [(.int (((3 : Int32) + (p5 &&& (1 : Int32))) % (3 : Int32))), (.int (1 : Int32)), (.ref ed)])) rfl rfl (hb hby at_140)
    rw [own_cl (j := (1 : Int32)) (i := 1) (by decide)] at W35 X35
    refine own_goW (fun t_ kt_ => st35 _ kt_) ?_
    have N35 := Fr.snoc X35 N34g gt_ed
    obtain ⟨lo35, X35g, N35g⟩ : ∃ lo, Stand p l e room_1 (s.setVm T19.vm) m #[(.int p0), (.int p1), (.int p2), (.int p3), (.int p4), (.int p5)] below meth c T35 lo 21 126 ∧ Fr n0 lo := ⟨_, X35, N35⟩
    have ZZ_35 : n0 ≤ h35.size := Nat.le_trans ZZ_34 (Nat.le_of_eq W35.size.symm)
    have E_al_35 : Exa Z h35 al "java/util/ArrayList" := E_al_34.wr W35
    have E_xa_35 : Exa Z h35 xa "com/example/lint_for_clocks/lintforclocks/model/Edge" := E_xa_34.wr W35
    have F_line_xa_35 : Fld Z h35 xa "com/example/lint_for_clocks/lintforclocks/model/Edge" "line" "I" (.int p0) := F_line_xa_34.other W35 (Or.inl ne_xa_ed)
    have O_ba_35 : own_Ov Z h35 ba "java/lang/Object" := O_ba_34.wr W35
    have E_xb_35 : Exa Z h35 xb "com/example/lint_for_clocks/lintforclocks/model/Edge" := E_xb_34.wr W35
    have F_line_xb_35 : Fld Z h35 xb "com/example/lint_for_clocks/lintforclocks/model/Edge" "line" "I" (.int p1) := F_line_xb_34.other W35 (Or.inl ne_xb_ed)
    have E_xc_35 : Exa Z h35 xc "com/example/lint_for_clocks/lintforclocks/model/Edge" := E_xc_34.wr W35
    have F_line_xc_35 : Fld Z h35 xc "com/example/lint_for_clocks/lintforclocks/model/Edge" "line" "I" (.int p2) := F_line_xc_34.other W35 (Or.inl ne_xc_ed)
    have F_modCount_al_35 : Fld Z h35 al "java/util/AbstractList" "modCount" "I" (.int ((((0 : Int32) + (1 : Int32)) + (1 : Int32)) + (1 : Int32))) := F_modCount_al_34.other W35 (Or.inl ne_al_ed)
    have F_elementData_al_35 : Fld Z h35 al "java/util/ArrayList" "elementData" "[Ljava/lang/Object;" (.ref ba) := F_elementData_al_34.other W35 (Or.inl ne_al_ed)
    have F_size_al_35 : Fld Z h35 al "java/util/ArrayList" "size" "I" (.int (3 : Int32)) := F_size_al_34.other W35 (Or.inl ne_al_ed)
    have V_ba_35 : own_Ary Z h35 ba (.object "java/lang/Object") 10 (own_set (own_set (own_set (fun _ => .null) 0 (.ref xa)) 1 (.ref xb)) 2 (.ref xc)) := V_ba_34.other W35 ne_ba_ed
    have E_tm_35 : Exa Z h35 tm "com/example/lint_for_clocks/lintforclocks/model/Template" := E_tm_34.wr W35
    have KS_35 : k19 ≤ h35.size := Nat.le_trans KS_34 (Nat.le_of_eq W35.size.symm)
    have F_edges_tm_35 : Fld Z h35 tm "com/example/lint_for_clocks/lintforclocks/model/Template" "edges" "Ljava/util/List;" (.ref al) := F_edges_tm_34.other W35 (Or.inl ne_tm_ed)
    have V_ed_35 : own_Ary Z h35 ed .int 2 (own_set (own_set (fun _ => (.int (0 : Int32))) 0 (.int (2 : Int32))) 1 (.int (((3 : Int32) + (p5 &&& (1 : Int32))) % (3 : Int32)))) := own_Ary.set Ar35 S35 G35 W35
    show own_GoW p e below s _ _ _ (T35.setTop (mkF m 141 #[.val (.int p0), .val (.int p1), .val (.int p2), .val (.int p3), .val (.int p4), .val (.int p5), .val (.ref al), .val (.ref tm), .val (.int (2 : Int32)), .val (.int (((3 : Int32) + (p5 &&& (1 : Int32))) % (3 : Int32))), .val (.ref ed), .unset, .unset] []))
    obtain ⟨T36, h36, X36, e36, E36, A36, D36, U36, st36⟩ := newO X35g hx hZ hown (hw _ (List.mem_of_getElem? (i := 123) rfl)) (hw _ (List.mem_of_getElem? (i := 124) rfl)) (hw _ (List.mem_of_getElem? (i := 125) rfl)) e35 (g := (mkF m 141 #[.val (.int p0), .val (.int p1), .val (.int p2), .val (.int p3), .val (.int p4), .val (.int p5), .val (.ref al), .val (.ref tm), .val (.int (2 : Int32)), .val (.int (((3 : Int32) + (p5 &&& (1 : Int32))) % (3 : Int32))), .val (.ref ed), .unset, .unset] [])) rfl (hb hby at_141) (by decide) (by decide)
    obtain ⟨lp, g36⟩ : ∃ z, z = h35.size := ⟨_, rfl⟩
    rw [← g36] at A36 D36 U36 st36
    refine own_goW (fun t_ kt_ => st36 _ kt_) ?_
    have gt_lp : n0 ≤ lp := Nat.le_trans ZZ_35 (Nat.le_of_eq g36.symm)
    have ne_al_lp : al ≠ lp := Nat.ne_of_lt (Nat.lt_of_lt_of_le E_al_35.lt (Nat.le_of_eq g36.symm))
    have ne_xa_lp : xa ≠ lp := Nat.ne_of_lt (Nat.lt_of_lt_of_le E_xa_35.lt (Nat.le_of_eq g36.symm))
    have ne_xb_lp : xb ≠ lp := Nat.ne_of_lt (Nat.lt_of_lt_of_le E_xb_35.lt (Nat.le_of_eq g36.symm))
    have ne_xc_lp : xc ≠ lp := Nat.ne_of_lt (Nat.lt_of_lt_of_le E_xc_35.lt (Nat.le_of_eq g36.symm))
    have ne_ba_lp : ba ≠ lp := Nat.ne_of_lt (Nat.lt_of_lt_of_le V_ba_35.lt (Nat.le_of_eq g36.symm))
    have ne_tm_lp : tm ≠ lp := Nat.ne_of_lt (Nat.lt_of_lt_of_le E_tm_35.lt (Nat.le_of_eq g36.symm))
    have ne_ed_lp : ed ≠ lp := Nat.ne_of_lt (Nat.lt_of_lt_of_le V_ed_35.lt (Nat.le_of_eq g36.symm))
    have ZZ_36 : n0 ≤ h36.size := Nat.le_trans ZZ_35 E36.1
    have E_al_36 : Exa Z h36 al "java/util/ArrayList" := E_al_35.ext E36
    have E_xa_36 : Exa Z h36 xa "com/example/lint_for_clocks/lintforclocks/model/Edge" := E_xa_35.ext E36
    have F_line_xa_36 : Fld Z h36 xa "com/example/lint_for_clocks/lintforclocks/model/Edge" "line" "I" (.int p0) := F_line_xa_35.ext E36
    have O_ba_36 : own_Ov Z h36 ba "java/lang/Object" := O_ba_35.ext E36
    have E_xb_36 : Exa Z h36 xb "com/example/lint_for_clocks/lintforclocks/model/Edge" := E_xb_35.ext E36
    have F_line_xb_36 : Fld Z h36 xb "com/example/lint_for_clocks/lintforclocks/model/Edge" "line" "I" (.int p1) := F_line_xb_35.ext E36
    have E_xc_36 : Exa Z h36 xc "com/example/lint_for_clocks/lintforclocks/model/Edge" := E_xc_35.ext E36
    have F_line_xc_36 : Fld Z h36 xc "com/example/lint_for_clocks/lintforclocks/model/Edge" "line" "I" (.int p2) := F_line_xc_35.ext E36
    have F_modCount_al_36 : Fld Z h36 al "java/util/AbstractList" "modCount" "I" (.int ((((0 : Int32) + (1 : Int32)) + (1 : Int32)) + (1 : Int32))) := F_modCount_al_35.ext E36
    have F_elementData_al_36 : Fld Z h36 al "java/util/ArrayList" "elementData" "[Ljava/lang/Object;" (.ref ba) := F_elementData_al_35.ext E36
    have F_size_al_36 : Fld Z h36 al "java/util/ArrayList" "size" "I" (.int (3 : Int32)) := F_size_al_35.ext E36
    have V_ba_36 : own_Ary Z h36 ba (.object "java/lang/Object") 10 (own_set (own_set (own_set (fun _ => .null) 0 (.ref xa)) 1 (.ref xb)) 2 (.ref xc)) := V_ba_35.ext E36
    have E_tm_36 : Exa Z h36 tm "com/example/lint_for_clocks/lintforclocks/model/Template" := E_tm_35.ext E36
    have KS_36 : k19 ≤ h36.size := Nat.le_trans KS_35 E36.1
    have F_edges_tm_36 : Fld Z h36 tm "com/example/lint_for_clocks/lintforclocks/model/Template" "edges" "Ljava/util/List;" (.ref al) := F_edges_tm_35.ext E36
    have V_ed_36 : own_Ary Z h36 ed .int 2 (own_set (own_set (fun _ => (.int (0 : Int32))) 0 (.int (2 : Int32))) 1 (.int (((3 : Int32) + (p5 &&& (1 : Int32))) % (3 : Int32)))) := V_ed_35.ext E36
    have F_template_lp : Fld Z h36 lp "com/example/lint_for_clocks/lintforclocks/rules/Loop" "template" "Lcom/example/lint_for_clocks/lintforclocks/model/Template;" .null := D36 (Or.inr (hw _ (List.mem_of_getElem? (i := 131) rfl))) (ty := (.object "com/example/lint_for_clocks/lintforclocks/model/Template")) (by decide)
    have F_shown_lp : Fld Z h36 lp "com/example/lint_for_clocks/lintforclocks/rules/Loop" "shown" "Ljava/util/Map;" .null := D36 (Or.inr (hw _ (List.mem_of_getElem? (i := 133) rfl))) (ty := (.object "java/util/Map")) (by decide)
    have F_edges_lp : Fld Z h36 lp "com/example/lint_for_clocks/lintforclocks/rules/Loop" "edges" "[I" .null := D36 (Or.inr (hw _ (List.mem_of_getElem? (i := 135) rfl))) (ty := (.array .int)) (by decide)
    show own_GoW p e below s _ _ _ (T36.setTop (mkF m 144 #[.val (.int p0), .val (.int p1), .val (.int p2), .val (.int p3), .val (.int p4), .val (.int p5), .val (.ref al), .val (.ref tm), .val (.int (2 : Int32)), .val (.int (((3 : Int32) + (p5 &&& (1 : Int32))) % (3 : Int32))), .val (.ref ed), .unset, .unset] [(.ref lp)]))
    refine own_goW (fun t_ kt_ => XS.dup X36.here hx rfl (hb hby at_144) rfl rfl kt_) ?_
    show own_GoW p e below s _ _ _ (T36.setTop (mkF m 145 #[.val (.int p0), .val (.int p1), .val (.int p2), .val (.int p3), .val (.int p4), .val (.int p5), .val (.ref al), .val (.ref tm), .val (.int (2 : Int32)), .val (.int (((3 : Int32) + (p5 &&& (1 : Int32))) % (3 : Int32))), .val (.ref ed), .unset, .unset] [(.ref lp), (.ref lp)]))
    refine own_goW (fun t_ kt_ => XS.aload X36.here hx rfl (hb hby at_145) rfl rfl kt_) ?_
    show own_GoW p e below s _ _ _ (T36.setTop (mkF m 147 #[.val (.int p0), .val (.int p1), .val (.int p2), .val (.int p3), .val (.int p4), .val (.int p5), .val (.ref al), .val (.ref tm), .val (.int (2 : Int32)), .val (.int (((3 : Int32) + (p5 &&& (1 : Int32))) % (3 : Int32))), .val (.ref ed), .unset, .unset] [(.ref tm), (.ref lp), (.ref lp)]))
    refine own_goW (fun t_ kt_ => XS.aconstNull X36.here hx rfl (hb hby at_147) kt_) ?_
    show own_GoW p e below s _ _ _ (T36.setTop (mkF m 148 #[.val (.int p0), .val (.int p1), .val (.int p2), .val (.int p3), .val (.int p4), .val (.int p5), .val (.ref al), .val (.ref tm), .val (.int (2 : Int32)), .val (.int (((3 : Int32) + (p5 &&& (1 : Int32))) % (3 : Int32))), .val (.ref ed), .unset, .unset] [.null, (.ref tm), (.ref lp), (.ref lp)]))
    refine own_goW (fun t_ kt_ => XS.aload X36.here hx rfl (hb hby at_148) rfl rfl kt_) ?_
    show own_GoW p e below s _ _ _ (T36.setTop (mkF m 150 #[.val (.int p0), .val (.int p1), .val (.int p2), .val (.int p3), .val (.int p4), .val (.int p5), .val (.ref al), .val (.ref tm), .val (.int (2 : Int32)), .val (.int (((3 : Int32) + (p5 &&& (1 : Int32))) % (3 : Int32))), .val (.ref ed), .unset, .unset] [(.ref ed), .null, (.ref tm), (.ref lp), (.ref lp)]))
    obtain ⟨_, _, ⟨T37, L37, k37, n37⟩, -, X37, ⟨Lc37, hQ37, l37, y37, z37⟩, st37⟩ := X36.specialBack hx (y := (⟨"com/example/lint_for_clocks/lintforclocks/rules/Loop", "<init>", "(Lcom/example/lint_for_clocks/lintforclocks/model/Template;Ljava/util/Map;[I)V"⟩ : MethodName)) rfl hown (mvT hZ (hw _ (List.mem_of_getElem? (i := 126) rfl))) (mvT hZ (hw _ (List.mem_of_getElem? (i := 127) rfl))) (mvT hZ (hw _ (List.mem_of_getElem? (i := 128) rfl))) (by decide) (backOf (W := 1) (rm13 l Z a0 hw [] (lp) (tm) (ed) h36 n0 ZZ_36 F_template_lp F_shown_lp F_edges_lp A36 gt_lp) hZ (hw _ (List.mem_of_getElem? (i := 128) rfl)) (hw _ (List.mem_of_getElem? (i := 125) rfl)) (by decide) (by decide)) (g := (mkF m 150 #[.val (.int p0), .val (.int p1), .val (.int p2), .val (.int p3), .val (.int p4), .val (.int p5), .val (.ref al), .val (.ref tm), .val (.int (2 : Int32)), .val (.int (((3 : Int32) + (p5 &&& (1 : Int32))) % (3 : Int32))), .val (.ref ed), .unset, .unset] [(.ref ed), .null, (.ref tm), (.ref lp), (.ref lp)])) rfl (by rw [hml]; rfl) (Steps.refl _) (a := lp) (argsL := [(.ref tm), .null, (.ref ed)]) (rest := [(.ref lp)]) (lenOf pd_12 rfl) rfl (by show 2 * 0 + _ ≤ _; exact Nat.le_of_eq rfl) (hb hby at_150) (fun _ _ => ⟨rfl, e36, (by decide : 22 + 0 ≤ _), (by decide : 130 + 0 ≤ _)⟩)
    dsimp only [Pt.U, Pt.locs, Pt.cells, Pt.slots] at X37 l37 y37 z37 st37 hQ37
    subst l37 y37 z37
    obtain ⟨rfl, Nq37, Kq37, Fq37a, Fq37b⟩ := hQ37
    have N37 := Fr.app N35g Nq37
    refine own_goW (fun t_ kt_ => st37.trans kt_) ?_
    obtain ⟨lo37, X37g, N37g⟩ : ∃ lo, Stand p l e room_1 (s.setVm T19.vm) m #[(.int p0), (.int p1), (.int p2), (.int p3), (.int p4), (.int p5)] below meth c T37 lo 22 130 ∧ Fr n0 lo := ⟨_, X37, N37⟩
    obtain ⟨h37, e37⟩ : ∃ z, T37.heap = z := ⟨_, rfl⟩
    rw [e37] at Kq37 Fq37a Fq37b
    have ZZ_37 : n0 ≤ h37.size := Nat.le_trans ZZ_36 Kq37.1
    have E_al_37 : Exa Z h37 al "java/util/ArrayList" := E_al_36.keep Kq37
    have E_xa_37 : Exa Z h37 xa "com/example/lint_for_clocks/lintforclocks/model/Edge" := E_xa_36.keep Kq37
    have F_line_xa_37 : Fld Z h37 xa "com/example/lint_for_clocks/lintforclocks/model/Edge" "line" "I" (.int p0) := F_line_xa_36.keep Kq37 (ninS ne_xa_lp nin0)
    have O_ba_37 : own_Ov Z h37 ba "java/lang/Object" := O_ba_36.keep Kq37
    have E_xb_37 : Exa Z h37 xb "com/example/lint_for_clocks/lintforclocks/model/Edge" := E_xb_36.keep Kq37
    have F_line_xb_37 : Fld Z h37 xb "com/example/lint_for_clocks/lintforclocks/model/Edge" "line" "I" (.int p1) := F_line_xb_36.keep Kq37 (ninS ne_xb_lp nin0)
    have E_xc_37 : Exa Z h37 xc "com/example/lint_for_clocks/lintforclocks/model/Edge" := E_xc_36.keep Kq37
    have F_line_xc_37 : Fld Z h37 xc "com/example/lint_for_clocks/lintforclocks/model/Edge" "line" "I" (.int p2) := F_line_xc_36.keep Kq37 (ninS ne_xc_lp nin0)
    have F_modCount_al_37 : Fld Z h37 al "java/util/AbstractList" "modCount" "I" (.int ((((0 : Int32) + (1 : Int32)) + (1 : Int32)) + (1 : Int32))) := F_modCount_al_36.keep Kq37 (ninS ne_al_lp nin0)
    have F_elementData_al_37 : Fld Z h37 al "java/util/ArrayList" "elementData" "[Ljava/lang/Object;" (.ref ba) := F_elementData_al_36.keep Kq37 (ninS ne_al_lp nin0)
    have F_size_al_37 : Fld Z h37 al "java/util/ArrayList" "size" "I" (.int (3 : Int32)) := F_size_al_36.keep Kq37 (ninS ne_al_lp nin0)
    have V_ba_37 : own_Ary Z h37 ba (.object "java/lang/Object") 10 (own_set (own_set (own_set (fun _ => .null) 0 (.ref xa)) 1 (.ref xb)) 2 (.ref xc)) := V_ba_36.keep Kq37 (ninS ne_ba_lp nin0)
    have E_tm_37 : Exa Z h37 tm "com/example/lint_for_clocks/lintforclocks/model/Template" := E_tm_36.keep Kq37
    have KS_37 : k19 ≤ h37.size := Nat.le_trans KS_36 Kq37.1
    have F_edges_tm_37 : Fld Z h37 tm "com/example/lint_for_clocks/lintforclocks/model/Template" "edges" "Ljava/util/List;" (.ref al) := F_edges_tm_36.keep Kq37 (ninS ne_tm_lp nin0)
    have V_ed_37 : own_Ary Z h37 ed .int 2 (own_set (own_set (fun _ => (.int (0 : Int32))) 0 (.int (2 : Int32))) 1 (.int (((3 : Int32) + (p5 &&& (1 : Int32))) % (3 : Int32)))) := V_ed_36.keep Kq37 (ninS ne_ed_lp nin0)
    have E_lp_37 : Exa Z h37 lp "com/example/lint_for_clocks/lintforclocks/rules/Loop" := A36.keep Kq37
    show own_GoW p e below s _ _ _ (T37.setTop (mkF m 153 #[.val (.int p0), .val (.int p1), .val (.int p2), .val (.int p3), .val (.int p4), .val (.int p5), .val (.ref al), .val (.ref tm), .val (.int (2 : Int32)), .val (.int (((3 : Int32) + (p5 &&& (1 : Int32))) % (3 : Int32))), .val (.ref ed), .unset, .unset] [(.ref lp)]))
    refine own_goW (fun t_ kt_ => XS.astore X37g.here hx rfl (hb hby at_153) rfl rfl (l' := #[.val (.int p0), .val (.int p1), .val (.int p2), .val (.int p3), .val (.int p4), .val (.int p5), .val (.ref al), .val (.ref tm), .val (.int (2 : Int32)), .val (.int (((3 : Int32) + (p5 &&& (1 : Int32))) % (3 : Int32))), .val (.ref ed), .val (.ref lp), .unset]) rfl kt_) ?_
    show own_GoW p e below s _ _ _ (T37.setTop (mkF m 155 #[.val (.int p0), .val (.int p1), .val (.int p2), .val (.int p3), .val (.int p4), .val (.int p5), .val (.ref al), .val (.ref tm), .val (.int (2 : Int32)), .val (.int (((3 : Int32) + (p5 &&& (1 : Int32))) % (3 : Int32))), .val (.ref ed), .val (.ref lp), .unset] []))
    refine own_goW (fun t_ kt_ => XS.iload X37g.here hx rfl (hb hby at_155) rfl kt_) ?_
    show own_GoW p e below s _ _ _ (T37.setTop (mkF m 157 #[.val (.int p0), .val (.int p1), .val (.int p2), .val (.int p3), .val (.int p4), .val (.int p5), .val (.ref al), .val (.ref tm), .val (.int (2 : Int32)), .val (.int (((3 : Int32) + (p5 &&& (1 : Int32))) % (3 : Int32))), .val (.ref ed), .val (.ref lp), .unset] [(.int (2 : Int32))]))
    refine own_goW (fun t_ kt_ => XS.ifYes X37g.here hx rfl (pc0 := 157) (pc' := 164) rfl (hb hby at_157) rfl ((if0 _ _).trans (feq (by decide)).2) (by decide) (by decide) kt_) ?_
    show own_GoW p e below s _ _ _ (T37.setTop (mkF m 164 #[.val (.int p0), .val (.int p1), .val (.int p2), .val (.int p3), .val (.int p4), .val (.int p5), .val (.ref al), .val (.ref tm), .val (.int (2 : Int32)), .val (.int (((3 : Int32) + (p5 &&& (1 : Int32))) % (3 : Int32))), .val (.ref ed), .val (.ref lp), .unset] []))
    refine own_goW (fun t_ kt_ => XS.iload X37g.here hx rfl (hb hby at_164) rfl kt_) ?_
    show own_GoW p e below s _ _ _ (T37.setTop (mkF m 166 #[.val (.int p0), .val (.int p1), .val (.int p2), .val (.int p3), .val (.int p4), .val (.int p5), .val (.ref al), .val (.ref tm), .val (.int (2 : Int32)), .val (.int (((3 : Int32) + (p5 &&& (1 : Int32))) % (3 : Int32))), .val (.ref ed), .val (.ref lp), .unset] [(.int (2 : Int32))]))
    refine own_goW (fun t_ kt_ => XS.iconst X37g.here hx rfl (hb hby at_166) kt_) ?_
    show own_GoW p e below s _ _ _ (T37.setTop (mkF m 167 #[.val (.int p0), .val (.int p1), .val (.int p2), .val (.int p3), .val (.int p4), .val (.int p5), .val (.ref al), .val (.ref tm), .val (.int (2 : Int32)), .val (.int (((3 : Int32) + (p5 &&& (1 : Int32))) % (3 : Int32))), .val (.ref ed), .val (.ref lp), .unset] [(.int (1 : Int32)), (.int (2 : Int32))]))
    refine own_goW (fun t_ kt_ => XS.icmpYes X37g.here hx rfl (pc0 := 167) (pc' := 174) rfl (hb hby at_167) rfl (feq (by decide)).2 (by decide) (by decide) kt_) ?_
    show own_GoW p e below s _ _ _ (T37.setTop (mkF m 174 #[.val (.int p0), .val (.int p1), .val (.int p2), .val (.int p3), .val (.int p4), .val (.int p5), .val (.ref al), .val (.ref tm), .val (.int (2 : Int32)), .val (.int (((3 : Int32) + (p5 &&& (1 : Int32))) % (3 : Int32))), .val (.ref ed), .val (.ref lp), .unset] []))
    refine own_goW (fun t_ kt_ => XS.iloadN X37g.here hx rfl (hb hby at_174) rfl kt_) ?_
    show own_GoW p e below s _ _ _ (T37.setTop (mkF m 175 #[.val (.int p0), .val (.int p1), .val (.int p2), .val (.int p3), .val (.int p4), .val (.int p5), .val (.ref al), .val (.ref tm), .val (.int (2 : Int32)), .val (.int (((3 : Int32) + (p5 &&& (1 : Int32))) % (3 : Int32))), .val (.ref ed), .val (.ref lp), .unset] [(.int p2)]))
    refine own_goW (fun t_ kt_ => XS.istore X37g.here hx rfl (hb hby at_175) rfl (l' := #[.val (.int p0), .val (.int p1), .val (.int p2), .val (.int p3), .val (.int p4), .val (.int p5), .val (.ref al), .val (.ref tm), .val (.int (2 : Int32)), .val (.int (((3 : Int32) + (p5 &&& (1 : Int32))) % (3 : Int32))), .val (.ref ed), .val (.ref lp), .val (.int p2)]) rfl kt_) ?_
    show own_GoW p e below s _ _ _ (T37.setTop (mkF m 177 #[.val (.int p0), .val (.int p1), .val (.int p2), .val (.int p3), .val (.int p4), .val (.int p5), .val (.ref al), .val (.ref tm), .val (.int (2 : Int32)), .val (.int (((3 : Int32) + (p5 &&& (1 : Int32))) % (3 : Int32))), .val (.ref ed), .val (.ref lp), .val (.int p2)] []))
    refine own_goW (fun t_ kt_ => XS.aload X37g.here hx rfl (hb hby at_177) rfl rfl kt_) ?_
    show own_GoW p e below s _ _ _ (T37.setTop (mkF m 179 #[.val (.int p0), .val (.int p1), .val (.int p2), .val (.int p3), .val (.int p4), .val (.int p5), .val (.ref al), .val (.ref tm), .val (.int (2 : Int32)), .val (.int (((3 : Int32) + (p5 &&& (1 : Int32))) % (3 : Int32))), .val (.ref ed), .val (.ref lp), .val (.int p2)] [(.ref lp)]))
    obtain ⟨cq38, kq38, q38a, q38b, q38c⟩ := isOf hZ e37 E_lp_37
    obtain ⟨_, _, ⟨T38, L38, k38, n38⟩, -, X38, ⟨Lc38, hQ38, l38, y38, z38⟩, st38⟩ := X37g.virtualBack hx (y := (⟨"com/example/lint_for_clocks/lintforclocks/rules/Loop", "line", "()I"⟩ : MethodName)) (z := (⟨"com/example/lint_for_clocks/lintforclocks/rules/Loop", "line", "()I"⟩ : MethodName)) hown (mvT hZ (hw _ (List.mem_of_getElem? (i := 136) rfl))) (mvT hZ (hw _ (List.mem_of_getElem? (i := 137) rfl))) (notFace_of_selects (args := #[]) (mvT hZ (hw _ (List.mem_of_getElem? (i := 139) rfl)))) (mvT hZ (hw _ (List.mem_of_getElem? (i := 139) rfl))) (mvT hZ (hw _ (List.mem_of_getElem? (i := 138) rfl))) (by decide) (backOf (W := 0) (rm14 l Z a0 hw [] (lp) (tm) (al) (ed) ((own_set (own_set (fun _ => (.int (0 : Int32))) 0 (.int (2 : Int32))) 1 (.int (((3 : Int32) + (p5 &&& (1 : Int32))) % (3 : Int32))))) ((2 : Int32)) (ba) ((own_set (own_set (own_set (fun _ => .null) 0 (.ref xa)) 1 (.ref xb)) 2 (.ref xc))) (2) (xc) (p2) h37 n0 ZZ_37 Fq37a Fq37b E_tm_37 F_edges_tm_37 E_al_37 V_ed_37 rfl F_size_al_37 F_elementData_al_37 V_ba_37 (by decide) (by decide) rfl E_xc_37 F_line_xc_37) hZ (hw _ (List.mem_of_getElem? (i := 140) rfl)) (hw _ (List.mem_of_getElem? (i := 125) rfl)) (by decide) (by decide)) q38a q38c (g := (mkF m 179 #[.val (.int p0), .val (.int p1), .val (.int p2), .val (.int p3), .val (.int p4), .val (.int p5), .val (.ref al), .val (.ref tm), .val (.int (2 : Int32)), .val (.int (((3 : Int32) + (p5 &&& (1 : Int32))) % (3 : Int32))), .val (.ref ed), .val (.ref lp), .val (.int p2)] [(.ref lp)])) rfl (by rw [hml]; rfl) (Steps.refl _) (argsL := []) (rest := []) (lenOf pd_8 rfl) rfl (by show 2 * 0 + _ ≤ _; exact Nat.le_of_eq rfl) (hb hby at_179) (fun _ _ => ⟨rfl, e37, (by decide : 22 + 0 ≤ _), (by decide : 130 + 0 ≤ _)⟩)
    dsimp only [Pt.U, Pt.locs, Pt.cells, Pt.slots] at X38 l38 y38 z38 st38 hQ38
    subst l38 y38 z38
    obtain ⟨rfl, Nq38, eh38⟩ := hQ38
    have N38 := Fr.app N37g Nq38
    refine own_goW (fun t_ kt_ => st38.trans kt_) ?_
    obtain ⟨lo38, X38g, N38g⟩ : ∃ lo, Stand p l e room_1 (s.setVm T19.vm) m #[(.int p0), (.int p1), (.int p2), (.int p3), (.int p4), (.int p5)] below meth c T38 lo 22 130 ∧ Fr n0 lo := ⟨_, X38, N38⟩
    have e38 : T38.heap = h37 := eh38
    show own_GoW p e below s _ _ _ (T38.setTop (mkF m 182 #[.val (.int p0), .val (.int p1), .val (.int p2), .val (.int p3), .val (.int p4), .val (.int p5), .val (.ref al), .val (.ref tm), .val (.int (2 : Int32)), .val (.int (((3 : Int32) + (p5 &&& (1 : Int32))) % (3 : Int32))), .val (.ref ed), .val (.ref lp), .val (.int p2)] [(.int p2)]))
    refine own_goW (fun t_ kt_ => XS.iload X38g.here hx rfl (hb hby at_182) rfl kt_) ?_
    show own_GoW p e below s _ _ _ (T38.setTop (mkF m 184 #[.val (.int p0), .val (.int p1), .val (.int p2), .val (.int p3), .val (.int p4), .val (.int p5), .val (.ref al), .val (.ref tm), .val (.int (2 : Int32)), .val (.int (((3 : Int32) + (p5 &&& (1 : Int32))) % (3 : Int32))), .val (.ref ed), .val (.ref lp), .val (.int p2)] [(.int p2), (.int p2)]))
    refine own_goW (fun t_ kt_ => XS.icmpNo X38g.here hx rfl (hb hby at_184) rfl (teq rfl).2 kt_) ?_
    show own_GoW p e below s _ _ _ (T38.setTop (mkF m 187 #[.val (.int p0), .val (.int p1), .val (.int p2), .val (.int p3), .val (.int p4), .val (.int p5), .val (.ref al), .val (.ref tm), .val (.int (2 : Int32)), .val (.int (((3 : Int32) + (p5 &&& (1 : Int32))) % (3 : Int32))), .val (.ref ed), .val (.ref lp), .val (.int p2)] []))
    refine own_goW (fun t_ kt_ => XS.iconst X38g.here hx rfl (hb hby at_187) kt_) ?_
    show own_GoW p e below s _ _ _ (T38.setTop (mkF m 188 #[.val (.int p0), .val (.int p1), .val (.int p2), .val (.int p3), .val (.int p4), .val (.int p5), .val (.ref al), .val (.ref tm), .val (.int (2 : Int32)), .val (.int (((3 : Int32) + (p5 &&& (1 : Int32))) % (3 : Int32))), .val (.ref ed), .val (.ref lp), .val (.int p2)] [(.int (1 : Int32))]))
    refine own_goW (fun t_ kt_ => XS.goto X38g.here hx rfl (pc0 := 188) (pc' := 192) rfl (hb hby at_188) (by decide) (by decide) kt_) ?_
    show own_GoW p e below s _ _ _ (T38.setTop (mkF m 192 #[.val (.int p0), .val (.int p1), .val (.int p2), .val (.int p3), .val (.int p4), .val (.int p5), .val (.ref al), .val (.ref tm), .val (.int (2 : Int32)), .val (.int (((3 : Int32) + (p5 &&& (1 : Int32))) % (3 : Int32))), .val (.ref ed), .val (.ref lp), .val (.int p2)] [(.int (1 : Int32))]))
    refine own_retW X38g hS19 (by rw [e38]; exact KS_37) (v := some (.int (1 : Int32))) (fun h => by rw [hret] at h; cases h) hlk ?_ (by decide) (by decide) (fun fs hr => retN X38g hx (t := .boolean) hret (by simp) (hb hby at_192) hr)
    show Q0 Z p0 p1 p2 p3 p4 p5 dea fd h0 n0 (some (.int (1 : Int32))) T38.heap _
    rw [e38]
    exact ⟨rfl, N38g⟩
set_option maxRecDepth 65536 in
set_option maxHeartbeats 40000000 in
theorem comes_1 {Post : Tables → Env → Array Value → State → Outcome → State → Prop} (hpost : ∀ tb e args s v u, (limb_1_1.after args s (.returned v) u = true ∧ limb_1_2.after args s (.returned v) u = true ∧ True) → ReturnedEndW s (.returned v) u (Jvm.fieldLocs frame_1_writes args s ++ Jvm.arrayLocs frame_1_arrays args s ++ Jvm.staticLocs frame_1_statics s) 32 4288 → Post tb e args s (.returned v) u) :
    ArmFor flags0 classFile x code maxLocals ret World_1 tables_1 room_1 Calls_1 rest_1 Pre_1 Post := by
  intro l hfl _ _ p e ha hc hk s m args below hf hA hF happ hP
  obtain ⟨hcalls, hrest, hpre⟩ := hP
  obtain ⟨-, -, -, hnamed, -, -, -, hat⟩ := (Spec.applies_iff hf).mp happ
  obtain ⟨hg, hn⟩ := and_e (Cond.before_iff.mp (show (Jvm.Cond.and given_1 narrow_1).before args s = true from hpre))
  obtain ⟨g1, g2⟩ := and_e hg
  obtain ⟨g3, g4⟩ := and_e g2
  obtain ⟨g5, g6⟩ := and_e g4
  obtain ⟨g7, g8⟩ := and_e g6
  obtain ⟨g9, g10⟩ := and_e g8
  obtain ⟨g11, g12⟩ := and_e g10
  obtain ⟨w0, w1, w2, w3, w4, w5, rfl⟩ : ∃ w0 w1 w2 w3 w4 w5 : Value, args = #[w0, w1, w2, w3, w4, w5] := by
    have hs : args.size = 6 := by simpa [Cond.value, given_1] using g1
    obtain ⟨L⟩ := args
    match L, hs with
    | [w0, w1, w2, w3, w4, w5], _ => exact ⟨w0, w1, w2, w3, w4, w5, rfl⟩
  have hw := fun d (hd : d ∈ tables_1) => atoms_spec (ws := Jvm.Cond.code x code maxLocals ret :: tables_1) hat d (List.mem_cons_of_mem _ hd)
  have hfit : Fit s := fun {y c} hc i hi => by
    obtain ⟨ha, rfl⟩ := Array.getElem?_eq_some_iff.mp hc
    have q := List.all_eq_true.mp ((Array.all_eq_true_iff_forall_mem.mp hF) _ (Array.getElem_mem ha)) i (List.mem_range.mpr hi)
    simpa [Array.getElem?_eq_getElem hi] using q
  obtain ⟨hsets, hown0⟩ := atoms_of _ (rest_1_c_eq ▸ (show rest_1_c.before _ s = true from hrest))
  have hr0 := Cond.before_iff.mp hown0
  obtain ⟨i0, ei0⟩ := is_v g3
  obtain rfl : w0 = (.int i0) := Option.some.inj ei0
  obtain ⟨i1, ei1⟩ := is_v g5
  obtain rfl : w1 = (.int i1) := Option.some.inj ei1
  obtain ⟨i2, ei2⟩ := is_v g7
  obtain rfl : w2 = (.int i2) := Option.some.inj ei2
  obtain ⟨i3, ei3⟩ := is_v g9
  obtain rfl : w3 = (.int i3) := Option.some.inj ei3
  obtain ⟨i4, ei4⟩ := is_v g11
  obtain rfl : w4 = (.int i4) := Option.some.inj ei4
  obtain ⟨i5, ei5⟩ := is_v g12
  obtain rfl : w5 = (.int i5) := Option.some.inj ei5
  obtain ⟨dea, es_D⟩ := arr_v (Cond.before_iff.mp (hsets _ (List.mem_of_getElem? (i := 6) rfl)))
  have S_D := Sta.start es_D (Or.inr ⟨(hw _ (List.mem_of_getElem? (i := 2) rfl)), (hsets _ (List.mem_of_getElem? (i := 2) rfl))⟩)
  obtain ⟨cD, ArD⟩ := Arr.start es_D (Cond.before_iff.mp (hsets _ (List.mem_of_getElem? (i := 6) rfl)))
  have szD := own_size (n := 0) es_D ArD (Cond.before_iff.mp (hsets _ (List.mem_of_getElem? (i := 8) rfl))) (by decide)
  have AD : own_Ary s s.heap dea (.object "java/lang/Object") 0 (fun _ => .null) := ⟨cD, ArD, szD, fun j hj => absurd hj (Nat.not_lt_zero j)⟩
  obtain ⟨n, o, h1, h2, h3, _, L, rfl, ⟨rfl, N⟩, hq⟩ := rm0 l s _ hw tables_1 i0 i1 i2 i3 i4 i5 dea (fun _ => .null) s.heap s.heap.size (Nat.le_refl _) S_D AD p e ha hc hk s m _ below hf ((Spec.applies_iff_loose hf).mp happ).1 ⟨rfl, State.Warmed39.refl s, rfl⟩ trivial
  refine ⟨n, _, h1, h2, h3, hpost _ _ _ _ _ _ ⟨Cond.after_iff.mpr rfl, Cond.after_iff.mpr (eq_i res_at (Term.int_eval (1)) rfl), trivial⟩ ⟨hq.1, hq.2.1, hq.2.2.1, (hq.2.2.2.sift fun y hy => Or.inr (N y hy)).mono (by decide) (by decide)⟩⟩
theorem main_1_1 : Claimed_1_1 := comes_1 fun _ _ _ _ _ _ h hF => ⟨h.1, hF⟩
theorem main_1_2 : Claimed_1_2 := comes_1 fun _ _ _ _ _ _ h hF => ⟨h.2.1, hF⟩
end Jvm.Pilot.@@N@@
namespace Jvm.Pilot.@@N@@
open Jvm Jvm.ClassFile Sem Op Lib Jvm.Free Jvm.Stand Jvm.Pilot.@@N@@.Jvm.D
/-! MADE BY PROGRAM (witnessworld.py) out of the Statement's table words and the real class files: 29 classes; the members and pool entries that the words name. The judged class is class 1, her method 1. -/
namespace start1
open Jvm.ClassFile
def u (s : String) : CpInfo := .utf8 (stringToUtf16 s)
/-- a pool by its gaps: so many unusable entries, then the entry; so many at the end -/
def gap : Nat → List CpInfo → List CpInfo
  | 0, r => r
  | n + 1, r => .unusable :: gap n r
def poolList (es : List (Nat × CpInfo)) (last : Nat) : List CpInfo := es.foldr (fun e r => gap e.1 (e.2 :: r)) (gap last [])
def pool (es : List (Nat × CpInfo)) (last : Nat) : Array CpInfo := ⟨poolList es last⟩
def fileOf (pool : Array CpInfo) (this : Nat) (attrs : Array Attribute := #[]) (ms : Array MethodInfo := #[]) (fl : Nat := 33) (sup : Nat := 0) (ifs : Array Nat := #[]) (fds : Array FieldInfo := #[]) : ClassFile where
  minorVersion := 0
  majorVersion := 65
  constantPool := pool
  accessFlags := fl
  thisClass := this
  superClass := sup
  interfaces := ifs
  fields := fds
  methods := ms
  attributes := attrs
def plain (name : String) (sup : Option ClassId) : Class where
  name := name
  kind := .ordinary
  loader := none
  accessFlags := 33
  super := sup
  interfaces := #[]
  cf := none
  fields := #[]
  methods := #[]
  instanceTypes := #[]
  staticTypes := #[]
  resolved := #[]
  callSites := []
  init := .initialized
  statics := none
  mirror := none

def pool0 : Array CpInfo := pool [(5, u "<init>"), (0, u "()V"), (1, .class_ 10), (1, u "java/lang/Object")] 113

def k0c0 : Code := { maxStack := 0, maxLocals := 1, code := object_method_1_code, exceptionTable := #[], attributes := #[] }
def k0m0 : Method := { name := "<init>", desc := "()V", sig := { parameters := [], returnType := none }, accessFlags := 1, code := some k0c0 }
/-- java/lang/Object -/
def k0 : Class := { plain "java/lang/Object" none with
  accessFlags := 33
  interfaces := #[]
  cf := some (fileOf pool0 8 #[] #[{ accessFlags := 1, nameIndex := 5, descriptorIndex := 6, attributes := #[] }] 33 0 #[] #[])
  fields := #[]
  methods := #[k0m0]
  instanceTypes := #[]
  staticTypes := #[]
  resolved := Array.replicate 124 none
  statics := none }

def pool1 : Array CpInfo := pool [(2, .class_ 4), (0, .nameAndType 5 6), (0, u "java/lang/Object"), (0, u "<init>"), (0, u "()V"), (0, .class_ 8), (0, u "java/util/ArrayList"), (0, .methodref 7 3), (0, .class_ 11), (0, u "com/example/lint_for_clocks/lintforclocks/model/Edge"), (0, .string 13), (0, u "s0"), (0, .string 15), (0, u "s1"), (0, .methodref 10 17), (0, .nameAndType 5 18), (0, u "(Ljava/lang/String;Ljava/lang/String;ILjava/util/List;Ljava/util/List;Lcom/example/lint_for_clocks/lintforclocks/model/Expr;Lcom/example/lint_for_clocks/lintforclocks/model/Synchronisation;Ljava/util/List;)V"), (0, .interfaceMethodref 20 21), (0, .class_ 22), (0, .nameAndType 23 24), (0, u "java/util/List"), (0, u "add"), (0, u "(Ljava/lang/Object;)Z"), (0, .string 26), (0, u "s2"), (0, .class_ 28), (0, u "com/example/lint_for_clocks/lintforclocks/model/Template"), (0, .string 30), (0, u "T"), (0, .methodref 27 32), (0, .nameAndType 5 33), (0, u "(Ljava/lang/String;ILjava/util/List;Ljava/util/List;Ljava/util/List;Ljava/util/List;Ljava/util/List;)V"), (0, .integer 2147483647), (0, .class_ 36), (0, u "com/example/lint_for_clocks/lintforclocks/rules/Loop"), (0, .methodref 35 38), (0, .nameAndType 5 39), (0, u "(Lcom/example/lint_for_clocks/lintforclocks/model/Template;Ljava/util/Map;[I)V"), (0, .methodref 35 41), (0, .nameAndType 42 43), (0, u "line"), (0, u "()I"), (0, .class_ 45), (0, u "com/example/lint_for_clocks/lintforclocks/rules/LoopLinePinLaw"), (2, u "law"), (0, u "(IIIIII)Z")] 5

def k1m0 : Method := { name := "<init>", desc := "()V", sig := { parameters := [], returnType := none }, accessFlags := 1, code := none }
def k1c1 : Code := { maxStack := 11, maxLocals := 13, code := code, exceptionTable := #[], attributes := #[] }
def k1m1 : Method := { name := "law", desc := "(IIIIII)Z", sig := { parameters := [.int, .int, .int, .int, .int, .int], returnType := some .boolean }, accessFlags := 9, code := some k1c1 }
/-- com/example/lint_for_clocks/lintforclocks/rules/LoopLinePinLaw -/
def k1 : Class := { plain "com/example/lint_for_clocks/lintforclocks/rules/LoopLinePinLaw" (some 0) with
  accessFlags := 49
  interfaces := #[]
  cf := some (fileOf pool1 44 #[] #[{ accessFlags := 1, nameIndex := 5, descriptorIndex := 6, attributes := #[] }, { accessFlags := 9, nameIndex := 48, descriptorIndex := 49, attributes := #[] }] 49 2 #[] #[])
  fields := #[]
  methods := #[k1m0, k1m1]
  instanceTypes := #[]
  staticTypes := #[]
  resolved := Array.replicate 55 none
  statics := none }

def pool2 : Array CpInfo := pool [(8, .class_ 10), (1, u "java/lang/Iterable"), (24, .class_ 36), (0, u "java/lang/Object")] 25

/-- java/lang/Iterable -/
def k2 : Class := { plain "java/lang/Iterable" (some 0) with
  accessFlags := 1537
  interfaces := #[]
  cf := some (fileOf pool2 8 #[] #[] 1537 35 #[] #[])
  fields := #[]
  methods := #[]
  instanceTypes := #[]
  staticTypes := #[]
  resolved := Array.replicate 62 none
  statics := none }

def pool3 : Array CpInfo := pool [(10, .class_ 12), (1, u "java/util/Collection"), (47, .class_ 61), (0, u "java/lang/Object"), (0, .class_ 63), (0, u "java/lang/Iterable")] 51

/-- java/util/Collection -/
def k3 : Class := { plain "java/util/Collection" (some 0) with
  accessFlags := 1537
  interfaces := #[2]
  cf := some (fileOf pool3 10 #[] #[] 1537 60 #[62] #[])
  fields := #[]
  methods := #[]
  instanceTypes := #[]
  staticTypes := #[]
  resolved := Array.replicate 115 none
  statics := none }

def pool4 : Array CpInfo := pool [(1, .methodref 2 3), (0, .class_ 4), (0, .nameAndType 5 6), (0, u "java/lang/Object"), (0, u "<init>"), (0, u "()V"), (1, .class_ 10), (1, u "java/util/AbstractCollection"), (66, .class_ 78), (0, u "java/util/Collection")] 81

def k4c0 : Code := { maxStack := 1, maxLocals := 1, code := jdk_22_method_1_code, exceptionTable := #[], attributes := #[] }
def k4m0 : Method := { name := "<init>", desc := "()V", sig := { parameters := [], returnType := none }, accessFlags := 4, code := some k4c0 }
/-- java/util/AbstractCollection -/
def k4 : Class := { plain "java/util/AbstractCollection" (some 0) with
  accessFlags := 1057
  interfaces := #[3]
  cf := some (fileOf pool4 8 #[] #[{ accessFlags := 4, nameIndex := 5, descriptorIndex := 6, attributes := #[] }] 1057 2 #[77] #[])
  fields := #[]
  methods := #[k4m0]
  instanceTypes := #[]
  staticTypes := #[]
  resolved := Array.replicate 160 none
  statics := none }

def pool5 : Array CpInfo := pool [(8, .class_ 10), (1, u "java/util/SequencedCollection"), (15, .class_ 27), (0, u "java/lang/Object"), (0, .class_ 29), (0, u "java/util/Collection")] 27

/-- java/util/SequencedCollection -/
def k5 : Class := { plain "java/util/SequencedCollection" (some 0) with
  accessFlags := 1537
  interfaces := #[3]
  cf := some (fileOf pool5 8 #[] #[] 1537 26 #[28] #[])
  fields := #[]
  methods := #[]
  instanceTypes := #[]
  staticTypes := #[]
  resolved := Array.replicate 57 none
  statics := none }

def pool6 : Array CpInfo := pool [(8, .class_ 10), (1, u "java/util/List"), (49, u "add"), (3, u "(Ljava/lang/Object;)Z"), (10, u "get"), (0, u "(I)Ljava/lang/Object;"), (26, .class_ 104), (0, u "java/lang/Object"), (15, .class_ 121), (0, u "java/util/SequencedCollection")] 129

def k6m0 : Method := { name := "add", desc := "(Ljava/lang/Object;)Z", sig := { parameters := [(.object "java/lang/Object")], returnType := some .boolean }, accessFlags := 1025, code := none }
def k6m1 : Method := { name := "get", desc := "(I)Ljava/lang/Object;", sig := { parameters := [.int], returnType := some (.object "java/lang/Object") }, accessFlags := 1025, code := none }
/-- java/util/List -/
def k6 : Class := { plain "java/util/List" (some 0) with
  accessFlags := 1537
  interfaces := #[5]
  cf := some (fileOf pool6 8 #[] #[{ accessFlags := 1025, nameIndex := 60, descriptorIndex := 64, attributes := #[] }, { accessFlags := 1025, nameIndex := 75, descriptorIndex := 76, attributes := #[] }] 1537 103 #[120] #[])
  fields := #[]
  methods := #[k6m0, k6m1]
  instanceTypes := #[]
  staticTypes := #[]
  resolved := Array.replicate 251 none
  statics := none }

def pool7 : Array CpInfo := pool [(1, .methodref 2 3), (0, .class_ 4), (0, .nameAndType 5 6), (0, u "java/util/AbstractCollection"), (0, u "<init>"), (0, u "()V"), (0, .fieldref 8 9), (0, .class_ 10), (0, .nameAndType 11 12), (0, u "java/util/AbstractList"), (0, u "modCount"), (0, u "I"), (64, .class_ 78), (0, u "java/util/AbstractList$Itr"), (3, .class_ 83), (0, u "java/util/AbstractList$ListItr"), (9, .class_ 94), (0, u "java/util/AbstractList$RandomAccessSubList"), (3, .class_ 99), (0, u "java/util/AbstractList$SubList"), (33, .class_ 134), (0, u "java/util/List"), (73, .class_ 209), (0, u "java/util/AbstractList$SubList$1"), (0, .class_ 211), (0, u "java/util/AbstractList$RandomAccessSpliterator")] 6

def k7c0 : Code := { maxStack := 2, maxLocals := 1, code := jdk_39_method_1_code, exceptionTable := #[], attributes := #[] }
def k7m0 : Method := { name := "<init>", desc := "()V", sig := { parameters := [], returnType := none }, accessFlags := 4, code := some k7c0 }
/-- java/util/AbstractList -/
def k7 : Class := { plain "java/util/AbstractList" (some 4) with
  accessFlags := 1057
  interfaces := #[6]
  cf := some (fileOf pool7 8 #[.nestMembers #[93, 98, 208, 210, 82, 77]] #[{ accessFlags := 4, nameIndex := 5, descriptorIndex := 6, attributes := #[] }] 1057 2 #[133] #[{ accessFlags := 132, nameIndex := 11, descriptorIndex := 12, attributes := #[] }])
  fields := #[{ name := "modCount", type := .int, accessFlags := 132, slot := 0, constantValue := 0 }]
  methods := #[k7m0]
  instanceTypes := #[.int]
  staticTypes := #[]
  resolved := Array.replicate 218 none
  statics := none }

def pool8 : Array CpInfo := pool [(1, .class_ 2), (0, u "java/util/RandomAccess"), (0, .class_ 4), (0, u "java/lang/Object")] 2

/-- java/util/RandomAccess -/
def k8 : Class := { plain "java/util/RandomAccess" (some 0) with
  accessFlags := 1537
  interfaces := #[]
  cf := some (fileOf pool8 1 #[] #[] 1537 3 #[] #[])
  fields := #[]
  methods := #[]
  instanceTypes := #[]
  staticTypes := #[]
  resolved := Array.replicate 7 none
  statics := none }

def pool9 : Array CpInfo := pool [(1, .class_ 2), (0, u "java/lang/Cloneable"), (0, .class_ 4), (0, u "java/lang/Object")] 2

/-- java/lang/Cloneable -/
def k9 : Class := { plain "java/lang/Cloneable" (some 0) with
  accessFlags := 1537
  interfaces := #[]
  cf := some (fileOf pool9 1 #[] #[] 1537 3 #[] #[])
  fields := #[]
  methods := #[]
  instanceTypes := #[]
  staticTypes := #[]
  resolved := Array.replicate 7 none
  statics := none }

def pool10 : Array CpInfo := pool [(1, .class_ 2), (0, u "java/io/Serializable"), (0, .class_ 4), (0, u "java/lang/Object")] 2

/-- java/io/Serializable -/
def k10 : Class := { plain "java/io/Serializable" (some 0) with
  accessFlags := 1537
  interfaces := #[]
  cf := some (fileOf pool10 1 #[] #[] 1537 3 #[] #[])
  fields := #[]
  methods := #[]
  instanceTypes := #[]
  staticTypes := #[]
  resolved := Array.replicate 7 none
  statics := none }

def pool11 : Array CpInfo := pool [(1, .methodref 2 3), (0, .class_ 4), (0, .nameAndType 5 6), (0, u "java/util/AbstractList"), (0, u "<init>"), (0, u "()V"), (0, .class_ 8), (0, u "java/lang/Object"), (0, .fieldref 10 11), (0, .class_ 12), (0, .nameAndType 13 14), (0, u "java/util/ArrayList"), (0, u "elementData"), (0, u "[Ljava/lang/Object;"), (2, u "EMPTY_ELEMENTDATA"), (21, .fieldref 10 40), (0, .nameAndType 41 14), (0, u "DEFAULTCAPACITY_EMPTY_ELEMENTDATA"), (5, u "()[Ljava/lang/Object;"), (0, .fieldref 10 49), (0, .nameAndType 50 51), (0, u "size"), (0, u "I"), (11, .fieldref 10 64), (0, .nameAndType 65 51), (0, u "modCount"), (3, .methodref 10 70), (0, .nameAndType 71 72), (0, u "grow"), (0, u "(I)[Ljava/lang/Object;"), (6, .methodref 80 81), (0, .class_ 82), (0, .nameAndType 83 84), (0, u "java/lang/Math"), (0, u "max"), (0, u "(II)I"), (11, u "(Ljava/lang/Object;)Z"), (21, .methodref 119 120), (0, .class_ 121), (0, .nameAndType 122 84), (0, u "java/util/Objects"), (0, u "checkIndex"), (0, .methodref 10 124), (0, .nameAndType 13 125), (0, u "(I)Ljava/lang/Object;"), (3, .methodref 10 130), (0, .nameAndType 71 47), (0, .methodref 10 132), (0, .nameAndType 133 134), (0, u "add"), (0, u "(Ljava/lang/Object;[Ljava/lang/Object;I)V"), (13, .class_ 149), (0, u "java/util/List"), (112, .class_ 263), (0, u "java/util/ArrayList$ListItr"), (3, .class_ 268), (0, u "java/util/ArrayList$Itr"), (7, .class_ 277), (0, u "java/util/ArrayList$SubList"), (12, .class_ 291), (0, u "java/util/ArrayList$ArrayListSpliterator"), (37, .class_ 330), (0, u "java/util/RandomAccess"), (0, .class_ 332), (0, u "java/lang/Cloneable"), (0, .class_ 334), (0, u "java/io/Serializable"), (0, u "serialVersionUID"), (0, u "J"), (3, u "DEFAULT_CAPACITY"), (40, u "get"), (118, .class_ 501), (0, u "java/util/ArrayList$SubList$2"), (0, .class_ 503), (0, u "java/util/ArrayList$SubList$1")] 5

def k11c0 : Code := { maxStack := 2, maxLocals := 1, code := jdk_38_method_2_code, exceptionTable := #[], attributes := #[] }
def k11m0 : Method := { name := "<init>", desc := "()V", sig := { parameters := [], returnType := none }, accessFlags := 1, code := some k11c0 }
def k11c1 : Code := { maxStack := 4, maxLocals := 4, code := jdk_38_method_6_code, exceptionTable := #[], attributes := #[] }
def k11m1 : Method := { name := "grow", desc := "(I)[Ljava/lang/Object;", sig := { parameters := [.int], returnType := some (.array (.object "java/lang/Object")) }, accessFlags := 2, code := some k11c1 }
def k11c2 : Code := { maxStack := 3, maxLocals := 1, code := jdk_38_method_7_code, exceptionTable := #[], attributes := #[] }
def k11m2 : Method := { name := "grow", desc := "()[Ljava/lang/Object;", sig := { parameters := [], returnType := some (.array (.object "java/lang/Object")) }, accessFlags := 2, code := some k11c2 }
def k11c3 : Code := { maxStack := 2, maxLocals := 2, code := jdk_38_method_18_code, exceptionTable := #[], attributes := #[] }
def k11m3 : Method := { name := "elementData", desc := "(I)Ljava/lang/Object;", sig := { parameters := [.int], returnType := some (.object "java/lang/Object") }, accessFlags := 0, code := some k11c3 }
def k11c4 : Code := { maxStack := 2, maxLocals := 2, code := jdk_38_method_20_code, exceptionTable := #[], attributes := #[] }
def k11m4 : Method := { name := "get", desc := "(I)Ljava/lang/Object;", sig := { parameters := [.int], returnType := some (.object "java/lang/Object") }, accessFlags := 1, code := some k11c4 }
def k11c5 : Code := { maxStack := 3, maxLocals := 4, code := jdk_38_method_24_code, exceptionTable := #[], attributes := #[] }
def k11m5 : Method := { name := "add", desc := "(Ljava/lang/Object;[Ljava/lang/Object;I)V", sig := { parameters := [(.object "java/lang/Object"), (.array (.object "java/lang/Object")), .int], returnType := none }, accessFlags := 2, code := some k11c5 }
def k11c6 : Code := { maxStack := 4, maxLocals := 2, code := jdk_38_method_25_code, exceptionTable := #[], attributes := #[] }
def k11m6 : Method := { name := "add", desc := "(Ljava/lang/Object;)Z", sig := { parameters := [(.object "java/lang/Object")], returnType := some .boolean }, accessFlags := 1, code := some k11c6 }
/-- java/util/ArrayList -/
def k11 : Class := { plain "java/util/ArrayList" (some 7) with
  accessFlags := 33
  interfaces := #[6, 8, 9, 10]
  cf := some (fileOf pool11 10 #[.nestMembers #[290, 276, 500, 502, 262, 267]] #[{ accessFlags := 1, nameIndex := 5, descriptorIndex := 6, attributes := #[] }, { accessFlags := 2, nameIndex := 71, descriptorIndex := 72, attributes := #[] }, { accessFlags := 2, nameIndex := 71, descriptorIndex := 47, attributes := #[] }, { accessFlags := 0, nameIndex := 13, descriptorIndex := 125, attributes := #[] }, { accessFlags := 1, nameIndex := 381, descriptorIndex := 125, attributes := #[] }, { accessFlags := 2, nameIndex := 133, descriptorIndex := 134, attributes := #[] }, { accessFlags := 1, nameIndex := 133, descriptorIndex := 96, attributes := #[] }] 33 2 #[148, 329, 331, 333] #[{ accessFlags := 26, nameIndex := 335, descriptorIndex := 336, attributes := #[] }, { accessFlags := 26, nameIndex := 340, descriptorIndex := 51, attributes := #[] }, { accessFlags := 26, nameIndex := 17, descriptorIndex := 14, attributes := #[] }, { accessFlags := 26, nameIndex := 41, descriptorIndex := 14, attributes := #[] }, { accessFlags := 128, nameIndex := 13, descriptorIndex := 14, attributes := #[] }, { accessFlags := 2, nameIndex := 50, descriptorIndex := 51, attributes := #[] }])
  fields := #[{ name := "serialVersionUID", type := .long, accessFlags := 26, slot := 0, constantValue := 0 }, { name := "DEFAULT_CAPACITY", type := .int, accessFlags := 26, slot := 1, constantValue := 0 }, { name := "EMPTY_ELEMENTDATA", type := (.array (.object "java/lang/Object")), accessFlags := 26, slot := 2, constantValue := 0 }, { name := "DEFAULTCAPACITY_EMPTY_ELEMENTDATA", type := (.array (.object "java/lang/Object")), accessFlags := 26, slot := 3, constantValue := 0 }, { name := "elementData", type := (.array (.object "java/lang/Object")), accessFlags := 128, slot := 1, constantValue := 0 }, { name := "size", type := .int, accessFlags := 2, slot := 2, constantValue := 0 }]
  methods := #[k11m0, k11m1, k11m2, k11m3, k11m4, k11m5, k11m6]
  instanceTypes := #[.int, (.array (.object "java/lang/Object")), .int]
  staticTypes := #[.long, .int, (.array (.object "java/lang/Object")), (.array (.object "java/lang/Object"))]
  resolved := Array.replicate 509 none
  statics := some 0 }

def pool12 : Array CpInfo := pool [(1, .methodref 2 3), (0, .class_ 4), (0, .nameAndType 5 6), (0, u "java/lang/Object"), (0, u "<init>"), (0, u "()V"), (0, .class_ 8), (0, u "java/lang/Record")] 13

def k12c0 : Code := { maxStack := 1, maxLocals := 1, code := jdk_30_method_1_code, exceptionTable := #[], attributes := #[] }
def k12m0 : Method := { name := "<init>", desc := "()V", sig := { parameters := [], returnType := none }, accessFlags := 4, code := some k12c0 }
/-- java/lang/Record -/
def k12 : Class := { plain "java/lang/Record" (some 0) with
  accessFlags := 1057
  interfaces := #[]
  cf := some (fileOf pool12 7 #[] #[{ accessFlags := 4, nameIndex := 5, descriptorIndex := 6, attributes := #[] }] 1057 2 #[] #[])
  fields := #[]
  methods := #[k12m0]
  instanceTypes := #[]
  staticTypes := #[]
  resolved := Array.replicate 22 none
  statics := none }

def pool13 : Array CpInfo := pool [(1, .methodref 2 3), (0, .class_ 4), (0, .nameAndType 5 6), (0, u "java/lang/Record"), (0, u "<init>"), (0, u "()V"), (0, .fieldref 8 9), (0, .class_ 10), (0, .nameAndType 11 12), (0, u "com/example/lint_for_clocks/lintforclocks/model/Edge"), (0, u "source"), (0, u "Ljava/lang/String;"), (0, .fieldref 8 14), (0, .nameAndType 15 12), (0, u "target"), (0, .fieldref 8 17), (0, .nameAndType 18 19), (0, u "line"), (0, u "I"), (0, .fieldref 8 21), (0, .nameAndType 22 23), (0, u "labels"), (0, u "Ljava/util/List;"), (0, .fieldref 8 25), (0, .nameAndType 26 23), (0, u "selects"), (0, .fieldref 8 28), (0, .nameAndType 29 30), (0, u "guard"), (0, u "Lcom/example/lint_for_clocks/lintforclocks/model/Expr;"), (0, .fieldref 8 32), (0, .nameAndType 33 34), (0, u "synchronisation"), (0, u "Lcom/example/lint_for_clocks/lintforclocks/model/Synchronisation;"), (0, .fieldref 8 36), (0, .nameAndType 37 23), (0, u "assignments"), (35, u "(Ljava/lang/String;Ljava/lang/String;ILjava/util/List;Ljava/util/List;Lcom/example/lint_for_clocks/lintforclocks/model/Expr;Lcom/example/lint_for_clocks/lintforclocks/model/Synchronisation;Ljava/util/List;)V"), (9, u "()I")] 35

def k13c0 : Code := { maxStack := 2, maxLocals := 9, code := prog_6_method_1_code, exceptionTable := #[], attributes := #[] }
def k13m0 : Method := { name := "<init>", desc := "(Ljava/lang/String;Ljava/lang/String;ILjava/util/List;Ljava/util/List;Lcom/example/lint_for_clocks/lintforclocks/model/Expr;Lcom/example/lint_for_clocks/lintforclocks/model/Synchronisation;Ljava/util/List;)V", sig := { parameters := [(.object "java/lang/String"), (.object "java/lang/String"), .int, (.object "java/util/List"), (.object "java/util/List"), (.object "com/example/lint_for_clocks/lintforclocks/model/Expr"), (.object "com/example/lint_for_clocks/lintforclocks/model/Synchronisation"), (.object "java/util/List")], returnType := none }, accessFlags := 1, code := some k13c0 }
def k13c1 : Code := { maxStack := 1, maxLocals := 1, code := prog_6_method_8_code, exceptionTable := #[], attributes := #[] }
def k13m1 : Method := { name := "line", desc := "()I", sig := { parameters := [], returnType := some .int }, accessFlags := 1, code := some k13c1 }
/-- com/example/lint_for_clocks/lintforclocks/model/Edge -/
def k13 : Class := { plain "com/example/lint_for_clocks/lintforclocks/model/Edge" (some 12) with
  accessFlags := 49
  interfaces := #[]
  cf := some (fileOf pool13 8 #[] #[{ accessFlags := 1, nameIndex := 5, descriptorIndex := 73, attributes := #[] }, { accessFlags := 1, nameIndex := 18, descriptorIndex := 83, attributes := #[] }] 49 2 #[] #[{ accessFlags := 18, nameIndex := 11, descriptorIndex := 12, attributes := #[] }, { accessFlags := 18, nameIndex := 15, descriptorIndex := 12, attributes := #[] }, { accessFlags := 18, nameIndex := 18, descriptorIndex := 19, attributes := #[] }, { accessFlags := 18, nameIndex := 22, descriptorIndex := 23, attributes := #[] }, { accessFlags := 18, nameIndex := 26, descriptorIndex := 23, attributes := #[] }, { accessFlags := 18, nameIndex := 29, descriptorIndex := 30, attributes := #[] }, { accessFlags := 18, nameIndex := 33, descriptorIndex := 34, attributes := #[] }, { accessFlags := 18, nameIndex := 37, descriptorIndex := 23, attributes := #[] }])
  fields := #[{ name := "source", type := (.object "java/lang/String"), accessFlags := 18, slot := 0, constantValue := 0 }, { name := "target", type := (.object "java/lang/String"), accessFlags := 18, slot := 1, constantValue := 0 }, { name := "line", type := .int, accessFlags := 18, slot := 2, constantValue := 0 }, { name := "labels", type := (.object "java/util/List"), accessFlags := 18, slot := 3, constantValue := 0 }, { name := "selects", type := (.object "java/util/List"), accessFlags := 18, slot := 4, constantValue := 0 }, { name := "guard", type := (.object "com/example/lint_for_clocks/lintforclocks/model/Expr"), accessFlags := 18, slot := 5, constantValue := 0 }, { name := "synchronisation", type := (.object "com/example/lint_for_clocks/lintforclocks/model/Synchronisation"), accessFlags := 18, slot := 6, constantValue := 0 }, { name := "assignments", type := (.object "java/util/List"), accessFlags := 18, slot := 7, constantValue := 0 }]
  methods := #[k13m0, k13m1]
  instanceTypes := #[(.object "java/lang/String"), (.object "java/lang/String"), .int, (.object "java/util/List"), (.object "java/util/List"), (.object "com/example/lint_for_clocks/lintforclocks/model/Expr"), (.object "com/example/lint_for_clocks/lintforclocks/model/Synchronisation"), (.object "java/util/List")]
  staticTypes := #[]
  resolved := Array.replicate 119 none
  statics := none }

def pool14 : Array CpInfo := pool [(1, .class_ 2), (0, u "java/lang/Comparable"), (0, .class_ 4), (0, u "java/lang/Object")] 7

/-- java/lang/Comparable -/
def k14 : Class := { plain "java/lang/Comparable" (some 0) with
  accessFlags := 1537
  interfaces := #[]
  cf := some (fileOf pool14 1 #[] #[] 1537 3 #[] #[])
  fields := #[]
  methods := #[]
  instanceTypes := #[]
  staticTypes := #[]
  resolved := Array.replicate 12 none
  statics := none }

def pool15 : Array CpInfo := pool [(2, .class_ 4), (1, u "java/lang/CharSequence"), (42, .class_ 48), (0, u "java/lang/CharSequence$1CodePointIterator"), (10, .class_ 60), (0, u "java/lang/CharSequence$1CharIterator"), (5, .class_ 67), (0, u "java/lang/Object")] 63

/-- java/lang/CharSequence -/
def k15 : Class := { plain "java/lang/CharSequence" (some 0) with
  accessFlags := 1537
  interfaces := #[]
  cf := some (fileOf pool15 2 #[.nestMembers #[47, 59]] #[] 1537 66 #[] #[])
  fields := #[]
  methods := #[]
  instanceTypes := #[]
  staticTypes := #[]
  resolved := Array.replicate 131 none
  statics := none }

def pool16 : Array CpInfo := pool [(1, .class_ 2), (0, u "java/lang/constant/Constable"), (0, .class_ 4), (0, u "java/lang/Object")] 6

/-- java/lang/constant/Constable -/
def k16 : Class := { plain "java/lang/constant/Constable" (some 0) with
  accessFlags := 1537
  interfaces := #[]
  cf := some (fileOf pool16 1 #[] #[] 1537 3 #[] #[])
  fields := #[]
  methods := #[]
  instanceTypes := #[]
  staticTypes := #[]
  resolved := Array.replicate 11 none
  statics := none }

def pool17 : Array CpInfo := pool [(1, .class_ 2), (0, u "java/lang/constant/ConstantDesc"), (0, .class_ 4), (0, u "java/lang/Object")] 32

/-- java/lang/constant/ConstantDesc -/
def k17 : Class := { plain "java/lang/constant/ConstantDesc" (some 0) with
  accessFlags := 1537
  interfaces := #[]
  cf := some (fileOf pool17 1 #[] #[] 1537 3 #[] #[])
  fields := #[]
  methods := #[]
  instanceTypes := #[]
  staticTypes := #[]
  resolved := Array.replicate 37 none
  statics := none }

def pool18 : Array CpInfo := pool [(2, .class_ 4), (1, u "java/lang/Object"), (0, u "<init>"), (0, u "()V"), (3, .class_ 12), (1, u "java/lang/String"), (0, u "value"), (0, u "[B"), (2, u "coder"), (0, u "B"), (2, u "hash"), (0, u "I"), (2, u "hashIsZero"), (0, u "Z"), (13, u "COMPACT_STRINGS"), (534, .class_ 576), (0, u "java/lang/CharSequence"), (22, u "CASE_INSENSITIVE_ORDER"), (0, u "Ljava/util/Comparator;"), (500, u "serialPersistentFields"), (0, u "[Ljava/io/ObjectStreamField;"), (0, .class_ 1104), (0, u "java/lang/String$CaseInsensitiveComparator"), (1, .class_ 1107), (0, u "java/io/Serializable"), (0, .class_ 1109), (0, u "java/lang/Comparable"), (0, .class_ 1111), (0, u "java/lang/constant/Constable"), (0, .class_ 1113), (0, u "java/lang/constant/ConstantDesc"), (2, u "serialVersionUID"), (0, u "J"), (3, u "REPL"), (0, u "C"), (2, u "LATIN1"), (1, u "UTF16")] 323

def k18m0 : Method := { name := "<init>", desc := "()V", sig := { parameters := [], returnType := none }, accessFlags := 1, code := none }
/-- java/lang/String -/
def k18 : Class := { plain "java/lang/String" (some 0) with
  accessFlags := 49
  interfaces := #[10, 14, 15, 16, 17]
  cf := some (fileOf pool18 10 #[.nestMembers #[1103]] #[{ accessFlags := 1, nameIndex := 5, descriptorIndex := 6, attributes := #[] }] 49 2 #[1106, 1108, 575, 1110, 1112] #[{ accessFlags := 18, nameIndex := 13, descriptorIndex := 14, attributes := #[] }, { accessFlags := 18, nameIndex := 17, descriptorIndex := 18, attributes := #[] }, { accessFlags := 2, nameIndex := 21, descriptorIndex := 22, attributes := #[] }, { accessFlags := 2, nameIndex := 25, descriptorIndex := 26, attributes := #[] }, { accessFlags := 26, nameIndex := 1116, descriptorIndex := 1117, attributes := #[] }, { accessFlags := 24, nameIndex := 40, descriptorIndex := 26, attributes := #[] }, { accessFlags := 26, nameIndex := 1101, descriptorIndex := 1102, attributes := #[] }, { accessFlags := 26, nameIndex := 1121, descriptorIndex := 1122, attributes := #[] }, { accessFlags := 25, nameIndex := 599, descriptorIndex := 600, attributes := #[] }, { accessFlags := 24, nameIndex := 1125, descriptorIndex := 18, attributes := #[] }, { accessFlags := 24, nameIndex := 1127, descriptorIndex := 18, attributes := #[] }])
  fields := #[{ name := "value", type := (.array .byte), accessFlags := 18, slot := 0, constantValue := 0 }, { name := "coder", type := .byte, accessFlags := 18, slot := 1, constantValue := 0 }, { name := "hash", type := .int, accessFlags := 2, slot := 2, constantValue := 0 }, { name := "hashIsZero", type := .boolean, accessFlags := 2, slot := 3, constantValue := 0 }, { name := "serialVersionUID", type := .long, accessFlags := 26, slot := 0, constantValue := 0 }, { name := "COMPACT_STRINGS", type := .boolean, accessFlags := 24, slot := 1, constantValue := 0 }, { name := "serialPersistentFields", type := (.array (.object "java/io/ObjectStreamField")), accessFlags := 26, slot := 2, constantValue := 0 }, { name := "REPL", type := .char, accessFlags := 26, slot := 3, constantValue := 0 }, { name := "CASE_INSENSITIVE_ORDER", type := (.object "java/util/Comparator"), accessFlags := 25, slot := 4, constantValue := 0 }, { name := "LATIN1", type := .byte, accessFlags := 24, slot := 5, constantValue := 0 }, { name := "UTF16", type := .byte, accessFlags := 24, slot := 6, constantValue := 0 }]
  methods := #[k18m0]
  instanceTypes := #[(.array .byte), .byte, .int, .boolean]
  staticTypes := #[.long, .boolean, (.array (.object "java/io/ObjectStreamField")), .char, (.object "java/util/Comparator"), .byte, .byte]
  resolved := Array.replicate 1451 none
  statics := none }

def pool19 : Array CpInfo := pool [(1, .class_ 2), (0, u "java/lang/Math"), (1, .class_ 6), (1, u "java/lang/Object"), (0, u "<init>"), (0, u "()V"), (89, .class_ 100), (1, u "java/lang/Math$RandomNumberGeneratorHolder"), (71, u "negativeZeroFloatBits"), (0, u "J"), (2, u "negativeZeroDoubleBits"), (21, u "max"), (46, u "$assertionsDisabled"), (0, u "Z"), (88, u "(II)I"), (2, u "twoToTheDoubleScaleDown"), (0, u "D"), (4, u "twoToTheDoubleScaleUp"), (9, u "E"), (3, u "PI"), (2, u "TAU"), (2, u "DEGREES_TO_RADIANS"), (0, u "RADIANS_TO_DEGREES")] 94

def k19m0 : Method := { name := "<init>", desc := "()V", sig := { parameters := [], returnType := none }, accessFlags := 2, code := none }
def k19c1 : Code := { maxStack := 2, maxLocals := 2, code := jdk_29_method_65_code, exceptionTable := #[], attributes := #[] }
def k19m1 : Method := { name := "max", desc := "(II)I", sig := { parameters := [.int, .int], returnType := some .int }, accessFlags := 9, code := some k19c1 }
/-- java/lang/Math -/
def k19 : Class := { plain "java/lang/Math" (some 0) with
  accessFlags := 49
  interfaces := #[]
  cf := some (fileOf pool19 1 #[.nestMembers #[98]] #[{ accessFlags := 2, nameIndex := 7, descriptorIndex := 8, attributes := #[] }, { accessFlags := 9, nameIndex := 198, descriptorIndex := 335, attributes := #[] }] 49 4 #[] #[{ accessFlags := 25, nameIndex := 354, descriptorIndex := 339, attributes := #[] }, { accessFlags := 25, nameIndex := 358, descriptorIndex := 339, attributes := #[] }, { accessFlags := 25, nameIndex := 361, descriptorIndex := 339, attributes := #[] }, { accessFlags := 26, nameIndex := 364, descriptorIndex := 339, attributes := #[] }, { accessFlags := 26, nameIndex := 365, descriptorIndex := 339, attributes := #[] }, { accessFlags := 26, nameIndex := 172, descriptorIndex := 173, attributes := #[] }, { accessFlags := 26, nameIndex := 176, descriptorIndex := 173, attributes := #[] }, { accessFlags := 8, nameIndex := 344, descriptorIndex := 339, attributes := #[] }, { accessFlags := 8, nameIndex := 338, descriptorIndex := 339, attributes := #[] }, { accessFlags := 4120, nameIndex := 245, descriptorIndex := 246, attributes := #[] }])
  fields := #[{ name := "E", type := .double, accessFlags := 25, slot := 0, constantValue := 0 }, { name := "PI", type := .double, accessFlags := 25, slot := 1, constantValue := 0 }, { name := "TAU", type := .double, accessFlags := 25, slot := 2, constantValue := 0 }, { name := "DEGREES_TO_RADIANS", type := .double, accessFlags := 26, slot := 3, constantValue := 0 }, { name := "RADIANS_TO_DEGREES", type := .double, accessFlags := 26, slot := 4, constantValue := 0 }, { name := "negativeZeroFloatBits", type := .long, accessFlags := 26, slot := 5, constantValue := 0 }, { name := "negativeZeroDoubleBits", type := .long, accessFlags := 26, slot := 6, constantValue := 0 }, { name := "twoToTheDoubleScaleUp", type := .double, accessFlags := 8, slot := 7, constantValue := 0 }, { name := "twoToTheDoubleScaleDown", type := .double, accessFlags := 8, slot := 8, constantValue := 0 }, { name := "$assertionsDisabled", type := .boolean, accessFlags := 4120, slot := 9, constantValue := 0 }]
  methods := #[k19m0, k19m1]
  instanceTypes := #[]
  staticTypes := #[.double, .double, .double, .double, .double, .long, .long, .double, .double, .boolean]
  resolved := Array.replicate 460 none
  statics := none }

def pool20 : Array CpInfo := pool [(1, .methodref 2 3), (0, .class_ 4), (0, .nameAndType 5 6), (0, u "java/lang/Record"), (0, u "<init>"), (0, u "()V"), (0, .fieldref 8 9), (0, .class_ 10), (0, .nameAndType 11 12), (0, u "com/example/lint_for_clocks/lintforclocks/model/Template"), (0, u "name"), (0, u "Ljava/lang/String;"), (0, .fieldref 8 14), (0, .nameAndType 15 16), (0, u "line"), (0, u "I"), (0, .fieldref 8 18), (0, .nameAndType 19 20), (0, u "parameters"), (0, u "Ljava/util/List;"), (0, .fieldref 8 22), (0, .nameAndType 23 20), (0, u "declarations"), (0, .fieldref 8 25), (0, .nameAndType 26 20), (0, u "locations"), (0, .fieldref 8 28), (0, .nameAndType 29 20), (0, u "branchpoints"), (0, .fieldref 8 31), (0, .nameAndType 32 20), (0, u "edges"), (18, u "(Ljava/lang/String;ILjava/util/List;Ljava/util/List;Ljava/util/List;Ljava/util/List;Ljava/util/List;)V"), (7, u "()Ljava/util/List;")] 31

def k20c0 : Code := { maxStack := 2, maxLocals := 8, code := prog_60_method_1_code, exceptionTable := #[], attributes := #[] }
def k20m0 : Method := { name := "<init>", desc := "(Ljava/lang/String;ILjava/util/List;Ljava/util/List;Ljava/util/List;Ljava/util/List;Ljava/util/List;)V", sig := { parameters := [(.object "java/lang/String"), .int, (.object "java/util/List"), (.object "java/util/List"), (.object "java/util/List"), (.object "java/util/List"), (.object "java/util/List")], returnType := none }, accessFlags := 1, code := some k20c0 }
def k20c1 : Code := { maxStack := 1, maxLocals := 1, code := prog_60_method_11_code, exceptionTable := #[], attributes := #[] }
def k20m1 : Method := { name := "edges", desc := "()Ljava/util/List;", sig := { parameters := [], returnType := some (.object "java/util/List") }, accessFlags := 1, code := some k20c1 }
/-- com/example/lint_for_clocks/lintforclocks/model/Template -/
def k20 : Class := { plain "com/example/lint_for_clocks/lintforclocks/model/Template" (some 12) with
  accessFlags := 49
  interfaces := #[]
  cf := some (fileOf pool20 8 #[] #[{ accessFlags := 1, nameIndex := 5, descriptorIndex := 51, attributes := #[] }, { accessFlags := 1, nameIndex := 32, descriptorIndex := 59, attributes := #[] }] 49 2 #[] #[{ accessFlags := 18, nameIndex := 11, descriptorIndex := 12, attributes := #[] }, { accessFlags := 18, nameIndex := 15, descriptorIndex := 16, attributes := #[] }, { accessFlags := 18, nameIndex := 19, descriptorIndex := 20, attributes := #[] }, { accessFlags := 18, nameIndex := 23, descriptorIndex := 20, attributes := #[] }, { accessFlags := 18, nameIndex := 26, descriptorIndex := 20, attributes := #[] }, { accessFlags := 18, nameIndex := 29, descriptorIndex := 20, attributes := #[] }, { accessFlags := 18, nameIndex := 32, descriptorIndex := 20, attributes := #[] }])
  fields := #[{ name := "name", type := (.object "java/lang/String"), accessFlags := 18, slot := 0, constantValue := 0 }, { name := "line", type := .int, accessFlags := 18, slot := 1, constantValue := 0 }, { name := "parameters", type := (.object "java/util/List"), accessFlags := 18, slot := 2, constantValue := 0 }, { name := "declarations", type := (.object "java/util/List"), accessFlags := 18, slot := 3, constantValue := 0 }, { name := "locations", type := (.object "java/util/List"), accessFlags := 18, slot := 4, constantValue := 0 }, { name := "branchpoints", type := (.object "java/util/List"), accessFlags := 18, slot := 5, constantValue := 0 }, { name := "edges", type := (.object "java/util/List"), accessFlags := 18, slot := 6, constantValue := 0 }]
  methods := #[k20m0, k20m1]
  instanceTypes := #[(.object "java/lang/String"), .int, (.object "java/util/List"), (.object "java/util/List"), (.object "java/util/List"), (.object "java/util/List"), (.object "java/util/List")]
  staticTypes := #[]
  resolved := Array.replicate 91 none
  statics := none }

def pool21 : Array CpInfo := pool [(1, .methodref 2 3), (0, .class_ 4), (0, .nameAndType 5 6), (0, u "java/lang/Object"), (0, u "<init>"), (0, u "()V"), (0, .fieldref 8 9), (0, .class_ 10), (0, .nameAndType 11 12), (0, u "com/example/lint_for_clocks/lintforclocks/rules/Loop"), (0, u "template"), (0, u "Lcom/example/lint_for_clocks/lintforclocks/model/Template;"), (0, .fieldref 8 14), (0, .nameAndType 15 16), (0, u "shown"), (0, u "Ljava/util/Map;"), (0, .fieldref 8 18), (0, .nameAndType 19 20), (0, u "edges"), (0, u "[I"), (0, .methodref 22 23), (0, .class_ 24), (0, .nameAndType 19 25), (0, u "com/example/lint_for_clocks/lintforclocks/model/Template"), (0, u "()Ljava/util/List;"), (0, .interfaceMethodref 27 28), (0, .class_ 29), (0, .nameAndType 30 31), (0, u "java/util/List"), (0, u "get"), (0, u "(I)Ljava/lang/Object;"), (0, .class_ 33), (0, u "com/example/lint_for_clocks/lintforclocks/model/Edge"), (0, .methodref 32 35), (0, .nameAndType 36 37), (0, u "line"), (0, u "()I"), (2, u "path"), (0, u "Ljava/lang/String;"), (30, u "(Lcom/example/lint_for_clocks/lintforclocks/model/Template;Ljava/util/Map;[I)V")] 10

def k21c0 : Code := { maxStack := 2, maxLocals := 4, code := prog_74_method_1_code, exceptionTable := #[], attributes := #[] }
def k21m0 : Method := { name := "<init>", desc := "(Lcom/example/lint_for_clocks/lintforclocks/model/Template;Ljava/util/Map;[I)V", sig := { parameters := [(.object "com/example/lint_for_clocks/lintforclocks/model/Template"), (.object "java/util/Map"), (.array .int)], returnType := none }, accessFlags := 0, code := some k21c0 }
def k21c1 : Code := { maxStack := 3, maxLocals := 1, code := prog_74_method_4_code, exceptionTable := #[], attributes := #[] }
def k21m1 : Method := { name := "line", desc := "()I", sig := { parameters := [], returnType := some .int }, accessFlags := 0, code := some k21c1 }
/-- com/example/lint_for_clocks/lintforclocks/rules/Loop -/
def k21 : Class := { plain "com/example/lint_for_clocks/lintforclocks/rules/Loop" (some 0) with
  accessFlags := 32
  interfaces := #[]
  cf := some (fileOf pool21 8 #[] #[{ accessFlags := 0, nameIndex := 5, descriptorIndex := 72, attributes := #[] }, { accessFlags := 0, nameIndex := 36, descriptorIndex := 37, attributes := #[] }] 32 2 #[] #[{ accessFlags := 18, nameIndex := 11, descriptorIndex := 12, attributes := #[] }, { accessFlags := 18, nameIndex := 15, descriptorIndex := 16, attributes := #[] }, { accessFlags := 18, nameIndex := 19, descriptorIndex := 20, attributes := #[] }, { accessFlags := 2, nameIndex := 40, descriptorIndex := 41, attributes := #[] }])
  fields := #[{ name := "template", type := (.object "com/example/lint_for_clocks/lintforclocks/model/Template"), accessFlags := 18, slot := 0, constantValue := 0 }, { name := "shown", type := (.object "java/util/Map"), accessFlags := 18, slot := 1, constantValue := 0 }, { name := "edges", type := (.array .int), accessFlags := 18, slot := 2, constantValue := 0 }, { name := "path", type := (.object "java/lang/String"), accessFlags := 2, slot := 3, constantValue := 0 }]
  methods := #[k21m0, k21m1]
  instanceTypes := #[(.object "com/example/lint_for_clocks/lintforclocks/model/Template"), (.object "java/util/Map"), (.array .int), (.object "java/lang/String")]
  staticTypes := #[]
  resolved := Array.replicate 83 none
  statics := none }

def pool22 : Array CpInfo := pool [(2, .class_ 4), (1, u "java/lang/Object"), (0, u "<init>"), (0, u "()V"), (35, .class_ 44), (1, u "java/util/Objects"), (60, .methodref 106 107), (0, .class_ 108), (0, .nameAndType 109 110), (0, u "jdk/internal/util/Preconditions"), (0, u "checkIndex"), (0, u "(IILjava/util/function/BiFunction;)I"), (60, u "(II)I")] 12

def k22m0 : Method := { name := "<init>", desc := "()V", sig := { parameters := [], returnType := none }, accessFlags := 2, code := none }
def k22c1 : Code := { maxStack := 3, maxLocals := 2, code := jdk_31_method_17_code, exceptionTable := #[], attributes := #[] }
def k22m1 : Method := { name := "checkIndex", desc := "(II)I", sig := { parameters := [.int, .int], returnType := some .int }, accessFlags := 9, code := some k22c1 }
/-- java/util/Objects -/
def k22 : Class := { plain "java/util/Objects" (some 0) with
  accessFlags := 49
  interfaces := #[]
  cf := some (fileOf pool22 42 #[] #[{ accessFlags := 2, nameIndex := 5, descriptorIndex := 6, attributes := #[] }, { accessFlags := 9, nameIndex := 109, descriptorIndex := 171, attributes := #[] }] 49 2 #[] #[])
  fields := #[]
  methods := #[k22m0, k22m1]
  instanceTypes := #[]
  staticTypes := #[]
  resolved := Array.replicate 184 none
  statics := none }

def pool23 : Array CpInfo := pool [(2, .class_ 4), (1, u "java/lang/Object"), (0, u "<init>"), (0, u "()V"), (17, .class_ 26), (1, u "jdk/internal/util/Preconditions"), (6, u "checkIndex"), (21, .class_ 56), (0, u "jdk/internal/util/Preconditions$4"), (57, .class_ 115), (0, u "jdk/internal/util/Preconditions$1"), (7, u "SIOOBE_FORMATTER"), (0, u "Ljava/util/function/BiFunction;"), (0, .class_ 126), (0, u "jdk/internal/util/Preconditions$2"), (3, u "AIOOBE_FORMATTER"), (0, .class_ 132), (0, u "jdk/internal/util/Preconditions$3"), (3, u "IOOBE_FORMATTER"), (41, u "(IILjava/util/function/BiFunction;)I")] 15

def k23m0 : Method := { name := "<init>", desc := "()V", sig := { parameters := [], returnType := none }, accessFlags := 1, code := none }
def k23c1 : Code := { maxStack := 3, maxLocals := 3, code := jdk_41_method_11_code, exceptionTable := #[], attributes := #[] }
def k23m1 : Method := { name := "checkIndex", desc := "(IILjava/util/function/BiFunction;)I", sig := { parameters := [.int, .int, (.object "java/util/function/BiFunction")], returnType := some .int }, accessFlags := 9, code := some k23c1 }
/-- jdk/internal/util/Preconditions -/
def k23 : Class := { plain "jdk/internal/util/Preconditions" (some 0) with
  accessFlags := 33
  interfaces := #[]
  cf := some (fileOf pool23 24 #[.nestMembers #[55, 131, 125, 114]] #[{ accessFlags := 1, nameIndex := 5, descriptorIndex := 6, attributes := #[] }, { accessFlags := 9, nameIndex := 33, descriptorIndex := 178, attributes := #[] }] 33 2 #[] #[{ accessFlags := 25, nameIndex := 123, descriptorIndex := 124, attributes := #[] }, { accessFlags := 25, nameIndex := 130, descriptorIndex := 124, attributes := #[] }, { accessFlags := 25, nameIndex := 136, descriptorIndex := 124, attributes := #[] }])
  fields := #[{ name := "SIOOBE_FORMATTER", type := (.object "java/util/function/BiFunction"), accessFlags := 25, slot := 0, constantValue := 0 }, { name := "AIOOBE_FORMATTER", type := (.object "java/util/function/BiFunction"), accessFlags := 25, slot := 1, constantValue := 0 }, { name := "IOOBE_FORMATTER", type := (.object "java/util/function/BiFunction"), accessFlags := 25, slot := 2, constantValue := 0 }]
  methods := #[k23m0, k23m1]
  instanceTypes := #[]
  staticTypes := #[(.object "java/util/function/BiFunction"), (.object "java/util/function/BiFunction"), (.object "java/util/function/BiFunction")]
  resolved := Array.replicate 194 none
  statics := none }

/-- the primitive byte -/
def k24 : Class := { plain "byte" none with kind := .primitive 'B', accessFlags := 0x411 }
/-- [B -/
def k25 : Class := { plain "[B" (some 0) with kind := .array 24 .byte, interfaces := #[9, 10], accessFlags := 1041 }

/-- the primitive int -/
def k26 : Class := { plain "int" none with kind := .primitive 'I', accessFlags := 0x411 }
/-- [I -/
def k27 : Class := { plain "[I" (some 0) with kind := .array 26 .int, interfaces := #[9, 10], accessFlags := 1041 }

/-- [Ljava/lang/Object; -/
def k28 : Class := { plain "[Ljava/lang/Object;" (some 0) with kind := .array 0 (.object "java/lang/Object"), interfaces := #[9, 10], accessFlags := 1041 }

def heap : Heap := #[{ cls := 11, slots := #[.long 0, .int 0, .ref 1, .ref 2], vm := .statics 11 },
  { cls := 28, slots := #[], vm := .none },
  { cls := 28, slots := #[], vm := .none }]
def classes : Array Class := #[k0, k1, k2, k3, k4, k5, k6, k7, k8, k9, k10, k11, k12, k13, k14, k15, k16, k17, k18, k19, k20, k21, k22, k23, k24, k25, k26, k27, k28]
def interned : List (Array UInt16 × Addr) := []
def slotsUsed : Nat := 4
def theMethod : MethodId := ⟨1, 1⟩
def args0 : Array Value := #[.int 57, .int 3, .int 2, .int 1, .int 7, .int 4]
def aboutOver (below : List Frame) : State where
  vm := { classes := classes, interned := interned.toArray }
  heap := heap
  slotsUsed := slotsUsed
  threads := #[{ frames := .invoking theMethod args0 :: below }]
def below0 : List Frame := [.native { method := ⟨0, 0⟩, args := #[] }]
def about1 : State := aboutOver below0
def p0 : Program := .bare "" "" ""
def e0 : Env := launch0.env 0 0 0
theorem w_frames : about1.frames = Frame.invoking theMethod args0 :: below0 := rfl
set_option maxRecDepth 65536 in
theorem w_args : argsFit about1.vm theMethod args0 = true := by decide +kernel
set_option maxRecDepth 65536 in
theorem w_heap : heapFits about1 = true := by decide +kernel
set_option maxRecDepth 65536 in
theorem w_runnable : about1.curStatus? = some .runnable := by decide +kernel
set_option maxRecDepth 65536 in
theorem w_alone : about1.alone = true := by decide +kernel
set_option maxRecDepth 65536 in
theorem w_named : about1.methodNamed? x = some theMethod := by decide +kernel
set_option maxRecDepth 65536 in
theorem w_hears : about1.hears theMethod below0 = true := by decide +kernel
set_option maxRecDepth 65536 in
theorem w_ripe : about1.ripe theMethod args0 below0 = true := by decide +kernel
theorem w_running : about1.status = .running := rfl
set_option maxRecDepth 65536 in
theorem w_room : about1.hasRoom e0.platform room_1 = true :=
  launch0.hasRoom_least _ room_1 (by decide +kernel) (by decide +kernel) (by decide +kernel) (by decide +kernel) (by decide +kernel) (by decide +kernel)
theorem allAtoms_all (ts : List Jvm.Cond) (a : Array Jvm.Value) (st : Jvm.State) : (allAtoms ts).before a st = ts.all (fun c => c.before a st) := by
  induction ts with
  | nil => rfl
  | cons c t ih =>
    show (Jvm.Cond.and c (allAtoms t)).before a st = _
    rw [Jvm.Cond.before_and, ih, List.all_cons]
def words1 : List Jvm.Cond := Jvm.Cond.code x code maxLocals ret :: tables_1
/-- a 'code' word, met by the world's own term for the bytes: nothing is compared byte by byte -/
theorem code_word {y : MethodName} {bytes : ByteArray} {mx : Nat} {rt : Option FieldType} {a : Array Value} {s : State} {m : MethodId} {meth : Method} {c : Code} (h1 : s.methodNamed? y = some m) (h2 : s.vm.method? m = some meth) (h3 : meth.code = some c) (h4 : c.code = bytes)
    (h5 : (c.maxLocals == mx && c.exceptionTable.isEmpty && decide (c.maxStack ≤ mostOperands) && decide (meth.sig.returnType = rt) && !meth.locks && decide (parseMethodDescriptor y.desc = some meth.sig)) = true) : (Jvm.Cond.code y bytes mx rt).before a s = true := by
  simp only [Bool.and_eq_true, beq_iff_eq, Bool.not_eq_true', decide_eq_true_eq] at h5
  obtain ⟨⟨⟨⟨⟨g1, g2⟩, g3⟩, g4⟩, g5⟩, g6⟩ := h5
  simp [Cond.before, Cond.holds, Cond.value, h1, h2, h3, h4, g1, g2, g3, g4, g5, g6]
def isCode : Jvm.Cond → Bool
  | .code _ _ _ _ => true
  | _ => false
theorem all_split {L : List Jvm.Cond} {P : Jvm.Cond → Bool} (h1 : L.all (fun c => isCode c || P c) = true) (h2 : ∀ c ∈ L.filter isCode, P c = true) : L.all P = true := by
  refine List.all_eq_true.mpr fun c hc => ?_
  have h := List.all_eq_true.mp h1 c hc
  rcases Bool.eq_false_or_eq_true (isCode c) with hi | hi
  · exact h2 c (List.mem_filter.mpr ⟨hc, hi⟩)
  · simpa [hi] using h
set_option maxRecDepth 65536 in
theorem w_c0 : (Jvm.Cond.code x code maxLocals ret).before args0 about1 = true := code_word (m := ⟨1, 1⟩) (meth := k1m1) (c := k1c1) (by decide +kernel) rfl rfl rfl (by decide +kernel)
set_option maxRecDepth 65536 in
theorem w_c1 : (Jvm.Cond.code ({ cls := "java/util/ArrayList", name := "<init>", desc := "()V" } : Jvm.MethodName) jdk_38_method_2_code (1 : Nat) (Option.none : Option Jvm.ClassFile.FieldType)).before args0 about1 = true := code_word (m := ⟨11, 0⟩) (meth := k11m0) (c := k11c0) (by decide +kernel) rfl rfl rfl (by decide +kernel)
set_option maxRecDepth 65536 in
theorem w_c2 : (Jvm.Cond.code ({ cls := "java/util/AbstractList", name := "<init>", desc := "()V" } : Jvm.MethodName) jdk_39_method_1_code (1 : Nat) (Option.none : Option Jvm.ClassFile.FieldType)).before args0 about1 = true := code_word (m := ⟨7, 0⟩) (meth := k7m0) (c := k7c0) (by decide +kernel) rfl rfl rfl (by decide +kernel)
set_option maxRecDepth 65536 in
theorem w_c3 : (Jvm.Cond.code ({ cls := "java/util/AbstractCollection", name := "<init>", desc := "()V" } : Jvm.MethodName) jdk_22_method_1_code (1 : Nat) (Option.none : Option Jvm.ClassFile.FieldType)).before args0 about1 = true := code_word (m := ⟨4, 0⟩) (meth := k4m0) (c := k4c0) (by decide +kernel) rfl rfl rfl (by decide +kernel)
set_option maxRecDepth 65536 in
theorem w_c4 : (Jvm.Cond.code ({ cls := "java/lang/Object", name := "<init>", desc := "()V" } : Jvm.MethodName) object_method_1_code (1 : Nat) (Option.none : Option Jvm.ClassFile.FieldType)).before args0 about1 = true := code_word (m := ⟨0, 0⟩) (meth := k0m0) (c := k0c0) (by decide +kernel) rfl rfl rfl (by decide +kernel)
set_option maxRecDepth 65536 in
theorem w_c5 : (Jvm.Cond.code ({ cls := "com/example/lint_for_clocks/lintforclocks/model/Edge", name := "<init>", desc := "(Ljava/lang/String;Ljava/lang/String;ILjava/util/List;Ljava/util/List;Lcom/example/lint_for_clocks/lintforclocks/model/Expr;Lcom/example/lint_for_clocks/lintforclocks/model/Synchronisation;Ljava/util/List;)V" } : Jvm.MethodName) prog_6_method_1_code (9 : Nat) (Option.none : Option Jvm.ClassFile.FieldType)).before args0 about1 = true := code_word (m := ⟨13, 0⟩) (meth := k13m0) (c := k13c0) (by decide +kernel) rfl rfl rfl (by decide +kernel)
set_option maxRecDepth 65536 in
theorem w_c6 : (Jvm.Cond.code ({ cls := "java/lang/Record", name := "<init>", desc := "()V" } : Jvm.MethodName) jdk_30_method_1_code (1 : Nat) (Option.none : Option Jvm.ClassFile.FieldType)).before args0 about1 = true := code_word (m := ⟨12, 0⟩) (meth := k12m0) (c := k12c0) (by decide +kernel) rfl rfl rfl (by decide +kernel)
set_option maxRecDepth 65536 in
theorem w_c7 : (Jvm.Cond.code ({ cls := "java/util/ArrayList", name := "add", desc := "(Ljava/lang/Object;)Z" } : Jvm.MethodName) jdk_38_method_25_code (2 : Nat) (Option.some Jvm.ClassFile.FieldType.boolean)).before args0 about1 = true := code_word (m := ⟨11, 6⟩) (meth := k11m6) (c := k11c6) (by decide +kernel) rfl rfl rfl (by decide +kernel)
set_option maxRecDepth 65536 in
theorem w_c8 : (Jvm.Cond.code ({ cls := "java/util/ArrayList", name := "add", desc := "(Ljava/lang/Object;[Ljava/lang/Object;I)V" } : Jvm.MethodName) jdk_38_method_24_code (4 : Nat) (Option.none : Option Jvm.ClassFile.FieldType)).before args0 about1 = true := code_word (m := ⟨11, 5⟩) (meth := k11m5) (c := k11c5) (by decide +kernel) rfl rfl rfl (by decide +kernel)
set_option maxRecDepth 65536 in
theorem w_c9 : (Jvm.Cond.code ({ cls := "java/util/ArrayList", name := "grow", desc := "()[Ljava/lang/Object;" } : Jvm.MethodName) jdk_38_method_7_code (1 : Nat) (Option.some (Jvm.ClassFile.FieldType.array (Jvm.ClassFile.FieldType.object "java/lang/Object")))).before args0 about1 = true := code_word (m := ⟨11, 2⟩) (meth := k11m2) (c := k11c2) (by decide +kernel) rfl rfl rfl (by decide +kernel)
set_option maxRecDepth 65536 in
theorem w_c10 : (Jvm.Cond.code ({ cls := "java/util/ArrayList", name := "grow", desc := "(I)[Ljava/lang/Object;" } : Jvm.MethodName) jdk_38_method_6_code (4 : Nat) (Option.some (Jvm.ClassFile.FieldType.array (Jvm.ClassFile.FieldType.object "java/lang/Object")))).before args0 about1 = true := code_word (m := ⟨11, 1⟩) (meth := k11m1) (c := k11c1) (by decide +kernel) rfl rfl rfl (by decide +kernel)
set_option maxRecDepth 65536 in
theorem w_c11 : (Jvm.Cond.code ({ cls := "java/lang/Math", name := "max", desc := "(II)I" } : Jvm.MethodName) jdk_29_method_65_code (2 : Nat) (Option.some Jvm.ClassFile.FieldType.int)).before args0 about1 = true := code_word (m := ⟨19, 1⟩) (meth := k19m1) (c := k19c1) (by decide +kernel) rfl rfl rfl (by decide +kernel)
set_option maxRecDepth 65536 in
theorem w_c12 : (Jvm.Cond.code ({ cls := "com/example/lint_for_clocks/lintforclocks/model/Template", name := "<init>", desc := "(Ljava/lang/String;ILjava/util/List;Ljava/util/List;Ljava/util/List;Ljava/util/List;Ljava/util/List;)V" } : Jvm.MethodName) prog_60_method_1_code (8 : Nat) (Option.none : Option Jvm.ClassFile.FieldType)).before args0 about1 = true := code_word (m := ⟨20, 0⟩) (meth := k20m0) (c := k20c0) (by decide +kernel) rfl rfl rfl (by decide +kernel)
set_option maxRecDepth 65536 in
theorem w_c13 : (Jvm.Cond.code ({ cls := "com/example/lint_for_clocks/lintforclocks/rules/Loop", name := "<init>", desc := "(Lcom/example/lint_for_clocks/lintforclocks/model/Template;Ljava/util/Map;[I)V" } : Jvm.MethodName) prog_74_method_1_code (4 : Nat) (Option.none : Option Jvm.ClassFile.FieldType)).before args0 about1 = true := code_word (m := ⟨21, 0⟩) (meth := k21m0) (c := k21c0) (by decide +kernel) rfl rfl rfl (by decide +kernel)
set_option maxRecDepth 65536 in
theorem w_c14 : (Jvm.Cond.code ({ cls := "com/example/lint_for_clocks/lintforclocks/rules/Loop", name := "line", desc := "()I" } : Jvm.MethodName) prog_74_method_4_code (1 : Nat) (Option.some Jvm.ClassFile.FieldType.int)).before args0 about1 = true := code_word (m := ⟨21, 1⟩) (meth := k21m1) (c := k21c1) (by decide +kernel) rfl rfl rfl (by decide +kernel)
set_option maxRecDepth 65536 in
theorem w_c15 : (Jvm.Cond.code ({ cls := "com/example/lint_for_clocks/lintforclocks/model/Template", name := "edges", desc := "()Ljava/util/List;" } : Jvm.MethodName) prog_60_method_11_code (1 : Nat) (Option.some (Jvm.ClassFile.FieldType.object "java/util/List"))).before args0 about1 = true := code_word (m := ⟨20, 1⟩) (meth := k20m1) (c := k20c1) (by decide +kernel) rfl rfl rfl (by decide +kernel)
set_option maxRecDepth 65536 in
theorem w_c16 : (Jvm.Cond.code ({ cls := "java/util/ArrayList", name := "get", desc := "(I)Ljava/lang/Object;" } : Jvm.MethodName) jdk_38_method_20_code (2 : Nat) (Option.some (Jvm.ClassFile.FieldType.object "java/lang/Object"))).before args0 about1 = true := code_word (m := ⟨11, 4⟩) (meth := k11m4) (c := k11c4) (by decide +kernel) rfl rfl rfl (by decide +kernel)
set_option maxRecDepth 65536 in
theorem w_c17 : (Jvm.Cond.code ({ cls := "java/util/Objects", name := "checkIndex", desc := "(II)I" } : Jvm.MethodName) jdk_31_method_17_code (2 : Nat) (Option.some Jvm.ClassFile.FieldType.int)).before args0 about1 = true := code_word (m := ⟨22, 1⟩) (meth := k22m1) (c := k22c1) (by decide +kernel) rfl rfl rfl (by decide +kernel)
set_option maxRecDepth 65536 in
theorem w_c18 : (Jvm.Cond.code ({ cls := "jdk/internal/util/Preconditions", name := "checkIndex", desc := "(IILjava/util/function/BiFunction;)I" } : Jvm.MethodName) jdk_41_method_11_code (3 : Nat) (Option.some Jvm.ClassFile.FieldType.int)).before args0 about1 = true := code_word (m := ⟨23, 1⟩) (meth := k23m1) (c := k23c1) (by decide +kernel) rfl rfl rfl (by decide +kernel)
set_option maxRecDepth 65536 in
theorem w_c19 : (Jvm.Cond.code ({ cls := "java/util/ArrayList", name := "elementData", desc := "(I)Ljava/lang/Object;" } : Jvm.MethodName) jdk_38_method_18_code (2 : Nat) (Option.some (Jvm.ClassFile.FieldType.object "java/lang/Object"))).before args0 about1 = true := code_word (m := ⟨11, 3⟩) (meth := k11m3) (c := k11c3) (by decide +kernel) rfl rfl rfl (by decide +kernel)
set_option maxRecDepth 65536 in
theorem w_c20 : (Jvm.Cond.code ({ cls := "com/example/lint_for_clocks/lintforclocks/model/Edge", name := "line", desc := "()I" } : Jvm.MethodName) prog_6_method_8_code (1 : Nat) (Option.some Jvm.ClassFile.FieldType.int)).before args0 about1 = true := code_word (m := ⟨13, 1⟩) (meth := k13m1) (c := k13c1) (by decide +kernel) rfl rfl rfl (by decide +kernel)
def codes1 : List Jvm.Cond := [Jvm.Cond.code x code maxLocals ret, Jvm.Cond.code ({ cls := "java/util/ArrayList", name := "<init>", desc := "()V" } : Jvm.MethodName) jdk_38_method_2_code (1 : Nat) (Option.none : Option Jvm.ClassFile.FieldType), Jvm.Cond.code ({ cls := "java/util/AbstractList", name := "<init>", desc := "()V" } : Jvm.MethodName) jdk_39_method_1_code (1 : Nat) (Option.none : Option Jvm.ClassFile.FieldType), Jvm.Cond.code ({ cls := "java/util/AbstractCollection", name := "<init>", desc := "()V" } : Jvm.MethodName) jdk_22_method_1_code (1 : Nat) (Option.none : Option Jvm.ClassFile.FieldType), Jvm.Cond.code ({ cls := "java/lang/Object", name := "<init>", desc := "()V" } : Jvm.MethodName) object_method_1_code (1 : Nat) (Option.none : Option Jvm.ClassFile.FieldType), Jvm.Cond.code ({ cls := "com/example/lint_for_clocks/lintforclocks/model/Edge", name := "<init>", desc := "(Ljava/lang/String;Ljava/lang/String;ILjava/util/List;Ljava/util/List;Lcom/example/lint_for_clocks/lintforclocks/model/Expr;Lcom/example/lint_for_clocks/lintforclocks/model/Synchronisation;Ljava/util/List;)V" } : Jvm.MethodName) prog_6_method_1_code (9 : Nat) (Option.none : Option Jvm.ClassFile.FieldType), Jvm.Cond.code ({ cls := "java/lang/Record", name := "<init>", desc := "()V" } : Jvm.MethodName) jdk_30_method_1_code (1 : Nat) (Option.none : Option Jvm.ClassFile.FieldType), Jvm.Cond.code ({ cls := "java/util/ArrayList", name := "add", desc := "(Ljava/lang/Object;)Z" } : Jvm.MethodName) jdk_38_method_25_code (2 : Nat) (Option.some Jvm.ClassFile.FieldType.boolean), Jvm.Cond.code ({ cls := "java/util/ArrayList", name := "add", desc := "(Ljava/lang/Object;[Ljava/lang/Object;I)V" } : Jvm.MethodName) jdk_38_method_24_code (4 : Nat) (Option.none : Option Jvm.ClassFile.FieldType), Jvm.Cond.code ({ cls := "java/util/ArrayList", name := "grow", desc := "()[Ljava/lang/Object;" } : Jvm.MethodName) jdk_38_method_7_code (1 : Nat) (Option.some (Jvm.ClassFile.FieldType.array (Jvm.ClassFile.FieldType.object "java/lang/Object"))), Jvm.Cond.code ({ cls := "java/util/ArrayList", name := "grow", desc := "(I)[Ljava/lang/Object;" } : Jvm.MethodName) jdk_38_method_6_code (4 : Nat) (Option.some (Jvm.ClassFile.FieldType.array (Jvm.ClassFile.FieldType.object "java/lang/Object"))), Jvm.Cond.code ({ cls := "java/lang/Math", name := "max", desc := "(II)I" } : Jvm.MethodName) jdk_29_method_65_code (2 : Nat) (Option.some Jvm.ClassFile.FieldType.int), Jvm.Cond.code ({ cls := "com/example/lint_for_clocks/lintforclocks/model/Template", name := "<init>", desc := "(Ljava/lang/String;ILjava/util/List;Ljava/util/List;Ljava/util/List;Ljava/util/List;Ljava/util/List;)V" } : Jvm.MethodName) prog_60_method_1_code (8 : Nat) (Option.none : Option Jvm.ClassFile.FieldType), Jvm.Cond.code ({ cls := "com/example/lint_for_clocks/lintforclocks/rules/Loop", name := "<init>", desc := "(Lcom/example/lint_for_clocks/lintforclocks/model/Template;Ljava/util/Map;[I)V" } : Jvm.MethodName) prog_74_method_1_code (4 : Nat) (Option.none : Option Jvm.ClassFile.FieldType), Jvm.Cond.code ({ cls := "com/example/lint_for_clocks/lintforclocks/rules/Loop", name := "line", desc := "()I" } : Jvm.MethodName) prog_74_method_4_code (1 : Nat) (Option.some Jvm.ClassFile.FieldType.int), Jvm.Cond.code ({ cls := "com/example/lint_for_clocks/lintforclocks/model/Template", name := "edges", desc := "()Ljava/util/List;" } : Jvm.MethodName) prog_60_method_11_code (1 : Nat) (Option.some (Jvm.ClassFile.FieldType.object "java/util/List")), Jvm.Cond.code ({ cls := "java/util/ArrayList", name := "get", desc := "(I)Ljava/lang/Object;" } : Jvm.MethodName) jdk_38_method_20_code (2 : Nat) (Option.some (Jvm.ClassFile.FieldType.object "java/lang/Object")), Jvm.Cond.code ({ cls := "java/util/Objects", name := "checkIndex", desc := "(II)I" } : Jvm.MethodName) jdk_31_method_17_code (2 : Nat) (Option.some Jvm.ClassFile.FieldType.int), Jvm.Cond.code ({ cls := "jdk/internal/util/Preconditions", name := "checkIndex", desc := "(IILjava/util/function/BiFunction;)I" } : Jvm.MethodName) jdk_41_method_11_code (3 : Nat) (Option.some Jvm.ClassFile.FieldType.int), Jvm.Cond.code ({ cls := "java/util/ArrayList", name := "elementData", desc := "(I)Ljava/lang/Object;" } : Jvm.MethodName) jdk_38_method_18_code (2 : Nat) (Option.some (Jvm.ClassFile.FieldType.object "java/lang/Object")), Jvm.Cond.code ({ cls := "com/example/lint_for_clocks/lintforclocks/model/Edge", name := "line", desc := "()I" } : Jvm.MethodName) prog_6_method_8_code (1 : Nat) (Option.some Jvm.ClassFile.FieldType.int)]
set_option maxRecDepth 65536 in
theorem codes_eq : words1.filter isCode = codes1 := rfl
theorem w_codes : ∀ c ∈ words1.filter isCode, c.before args0 about1 = true := by
  rw [codes_eq]
  intro c hc
  simp only [codes1, List.mem_cons, List.not_mem_nil, or_false] at hc
  rcases hc with rfl | rfl | rfl | rfl | rfl | rfl | rfl | rfl | rfl | rfl | rfl | rfl | rfl | rfl | rfl | rfl | rfl | rfl | rfl | rfl | rfl
  · exact w_c0
  · exact w_c1
  · exact w_c2
  · exact w_c3
  · exact w_c4
  · exact w_c5
  · exact w_c6
  · exact w_c7
  · exact w_c8
  · exact w_c9
  · exact w_c10
  · exact w_c11
  · exact w_c12
  · exact w_c13
  · exact w_c14
  · exact w_c15
  · exact w_c16
  · exact w_c17
  · exact w_c18
  · exact w_c19
  · exact w_c20
set_option maxRecDepth 65536 in
theorem w_t1 : (words1.take 24).all (fun c => isCode c || c.before args0 about1) = true := by decide +kernel
set_option maxRecDepth 65536 in
theorem w_t2 : ((words1.drop 24).take 24).all (fun c => isCode c || c.before args0 about1) = true := by decide +kernel
set_option maxRecDepth 65536 in
theorem w_t3 : (((words1.drop 24).drop 24).take 24).all (fun c => isCode c || c.before args0 about1) = true := by decide +kernel
set_option maxRecDepth 65536 in
theorem w_t4 : ((((words1.drop 24).drop 24).drop 24).take 24).all (fun c => isCode c || c.before args0 about1) = true := by decide +kernel
set_option maxRecDepth 65536 in
theorem w_t5 : (((((words1.drop 24).drop 24).drop 24).drop 24).take 24).all (fun c => isCode c || c.before args0 about1) = true := by decide +kernel
set_option maxRecDepth 65536 in
theorem w_t6 : ((((((words1.drop 24).drop 24).drop 24).drop 24).drop 24).take 24).all (fun c => isCode c || c.before args0 about1) = true := by decide +kernel
set_option maxRecDepth 65536 in
theorem w_t7 : (((((((words1.drop 24).drop 24).drop 24).drop 24).drop 24).drop 24).take 24).all (fun c => isCode c || c.before args0 about1) = true := by decide +kernel
set_option maxRecDepth 65536 in
theorem w_t8 : (((((((words1.drop 24).drop 24).drop 24).drop 24).drop 24).drop 24).drop 24).all (fun c => isCode c || c.before args0 about1) = true := by decide +kernel
theorem w_tables : (allAtoms (Jvm.Cond.code x code maxLocals ret :: tables_1)).before args0 about1 = true := by
  rw [allAtoms_all]
  show words1.all (fun c => c.before args0 about1) = true
  refine all_split ?_ w_codes
  rw [← List.take_append_drop 24 words1, List.all_append, w_t1, ← List.take_append_drop 24 (words1.drop 24), List.all_append, w_t2, ← List.take_append_drop 24 ((words1.drop 24).drop 24), List.all_append, w_t3, ← List.take_append_drop 24 (((words1.drop 24).drop 24).drop 24), List.all_append, w_t4, ← List.take_append_drop 24 ((((words1.drop 24).drop 24).drop 24).drop 24), List.all_append, w_t5, ← List.take_append_drop 24 (((((words1.drop 24).drop 24).drop 24).drop 24).drop 24), List.all_append, w_t6, ← List.take_append_drop 24 ((((((words1.drop 24).drop 24).drop 24).drop 24).drop 24).drop 24), List.all_append, w_t7, w_t8]
  rfl
set_option maxRecDepth 65536 in
theorem w_rest : rest_1_c.before args0 about1 = true := by decide +kernel
set_option maxRecDepth 65536 in
theorem w_case : (Jvm.Cond.and given_1 narrow_1).before args0 about1 = true := by decide +kernel
theorem w_applies : (headSpec (Jvm.Cond.code x code maxLocals ret :: tables_1) room_1).applies x e0.platform about1 = true :=
  (Spec.applies_iff w_frames).mpr ⟨w_running, w_runnable, w_alone, w_named, w_hears, w_ripe, w_room, w_tables⟩
theorem atStart : AtStart classFile x code maxLocals ret World_1 tables_1 room_1 Calls_1 rest_1 Pre_1 launch0 p0 e0 about1 theMethod args0 below0 :=
  ⟨lists_1, trivial, launch0.admits_env _ _ _, launch0.least_env, fairChoices_fair.cas, fairChoices_fair.clock, w_frames, w_args, w_heap, w_applies, trivial, w_rest, w_case⟩
end start1
theorem witness_1 : WitnessClaimed_1 := ⟨start1.p0, start1.e0, start1.about1, start1.theMethod, start1.args0, start1.below0, start1.atStart⟩
end Jvm.Pilot.@@N@@
