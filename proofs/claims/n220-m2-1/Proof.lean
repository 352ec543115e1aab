import JvmDerived
import JvmDerived.Pilot.@@N@@Statement
import JvmDerived.Pilot.@@N@@Code
set_option linter.unusedVariables false
set_option linter.unusedSimpArgs false
namespace Jvm.RoadKit
open Sem ClassFile Op Lib Jvm.Stand Jvm.Free Jvm.LawKit
section New
variable {p : Program} {l : Launch} {e : Env} {R : Room} {s : State} {m : MethodId} {args : Array Value} {below : List Frame} {meth : Method} {c : Code} {T : State} {locs : List Loc} {cells slots : Nat}
theorem retI (X : Stand p l e R s m args below meth c T locs cells slots) (hx : p.tables.exec = Jvm.exec) {pc : Nat} {Ls : Array Slot} {z : Int32} {rest : List Value} (hret : meth.sig.returnType = some .int) (hd : decode c.code pc = .ok (.ireturn, 1)) {fs : List Frame}
    (hl : ∀ (f : JFrame) (acts : List Action), f.method = m → f.locked = none → f.entered = [] → (doReturn e (T.setTop f) acts (some (.int z))).1 = T.setFrames fs) : Steps p.tables e below (T.setTop (mkF m pc Ls (.int z :: rest))) (T.setFrames fs) := by
  have hm' : T.vm.method? m = some meth := X.method'
  have hn : narrow .int (.int z) = .int z := rfl
  show Steps p.tables e below (T.setTop { method := m, pc := pc, locals := Ls, stack := _ :: rest, locked := none }) _
  jvm_step X.here [X.here.top, hx, hd, hm', hret, hn]
  first | (intro acts; rw [hl _ acts rfl rfl rfl]) | rw [hl _ _ rfl rfl rfl]
  exact Steps.refl _
theorem own_lrem {g : JFrame} {target : State} (X : Stand p l e R s m args below meth c T locs cells slots) (hx : p.tables.exec = Jvm.exec) (hg : g.method = m) {x y : Int64} {rest : List Value} (hd : decode c.code g.pc = .ok (.lrem, 1)) (hs : g.stack = .long y :: .long x :: rest) (hy : y ≠ 0)
    (hr : Steps p.tables e below (T.setTop { g with pc := g.pc + 1, stack := .long (x % y) :: rest }) target) : Steps p.tables e below (T.setTop g) target :=
  XS.lrem X.here hx hg hd hs hy (by first | exact hr | (rw [lrem_mod]; exact hr))
end New
end Jvm.RoadKit
namespace Jvm.Pilot.@@N@@
open Jvm Jvm.ClassFile Sem Op Lib Jvm.Free Jvm.Stand Jvm.LawKit Jvm.RoadKit Bundle Jvm.Pilot.@@N@@.Jvm.D
/-- from the state A the body returns with QQ -/
def own_Go (p : Program) (e : Env) (below : List Frame) (s : State) (QQ : Option Value → Heap → List Loc → Prop) (k n : Nat) (A : State) : Prop :=
  ∃ U o, Steps p.tables e below A U ∧ U.status = .running ∧ Ended U below o ∧ ∃ v L, o = .returned v ∧ QQ v U.heap L ∧ FrameEnd s o U L k n
theorem own_go {p : Program} {e : Env} {below : List Frame} {s : State} {QQ : Option Value → Heap → List Loc → Prop} {k n : Nat} {A B : State} (h : ∀ t, Steps p.tables e below B t → Steps p.tables e below A t) (g : own_Go p e below s QQ k n B) : own_Go p e below s QQ k n A := by
  obtain ⟨U, o, h1, r⟩ := g
  exact ⟨U, o, h U h1, r⟩
theorem own_ret {p : Program} {l : Launch} {e : Env} {R : Room} {s : State} {m : MethodId} {args : Array Value} {below : List Frame} {meth : Method} {c : Code} {T : State} {locs : List Loc} {cells slots : Nat} {QQ : Option Value → Heap → List Loc → Prop} {k n : Nat} {A : State}
    (X : Stand p l e R s m args below meth c T locs cells slots) {v : Option Value} (hv : meth.sig.returnType = none → v = none) (hlk : meth.locks = false) (hQ : QQ v T.heap locs) (hk : cells ≤ k) (hn : slots ≤ n)
    (st : ∀ fs, (∀ (f : JFrame) (acts : List Action), f.method = m → f.locked = none → f.entered = [] → (doReturn e (T.setTop f) acts v).1 = T.setFrames fs) → Steps p.tables e below A (T.setFrames fs)) : own_Go p e below s QQ k n A := by
  obtain ⟨fs, hr, hrun, hended, hW, hsame⟩ := X.leave hv hlk
  exact ⟨_, _, st fs hr, hrun, hended, _, _, rfl, hQ, ⟨_, rfl⟩, hW, hsame.mono hk hn⟩
def own_GoW (p : Program) (e : Env) (below : List Frame) (s : State) (QQ : Option Value → Heap → List Loc → Prop) (k n : Nat) (A : State) : Prop :=
  ∃ U o, Steps p.tables e below A U ∧ U.status = .running ∧ Ended U below o ∧ ∃ v L, o = .returned v ∧ QQ v U.heap L ∧ ReturnedEndW s o U L k n
theorem own_goW {p : Program} {e : Env} {below : List Frame} {s : State} {QQ : Option Value → Heap → List Loc → Prop} {k n : Nat} {A B : State} (h : ∀ t, Steps p.tables e below B t → Steps p.tables e below A t) (g : own_GoW p e below s QQ k n B) : own_GoW p e below s QQ k n A := by
  obtain ⟨U, o, h1, r⟩ := g
  exact ⟨U, o, h U h1, r⟩
theorem own_retW {p : Program} {l : Launch} {e : Env} {R : Room} {s : State} {vm₁ : Vm} {m : MethodId} {args : Array Value} {below : List Frame} {meth : Method} {c : Code} {T : State} {locs : List Loc} {cells slots : Nat} {QQ : Option Value → Heap → List Loc → Prop} {k n : Nat} {A : State}
    (X : Stand p l e R (s.setVm vm₁) m args below meth c T locs cells slots) {n1 : Nat} (hS : s.Since vm₁ n1) (hn1 : n1 ≤ T.heap.size) {v : Option Value} (hv : meth.sig.returnType = none → v = none) (hlk : meth.locks = false) (hQ : QQ v T.heap locs) (hk : cells ≤ k) (hn : slots ≤ n)
    (st : ∀ fs, (∀ (f : JFrame) (acts : List Action), f.method = m → f.locked = none → f.entered = [] → (doReturn e (T.setTop f) acts v).1 = T.setFrames fs) → Steps p.tables e below A (T.setFrames fs)) : own_GoW p e below s QQ k n A := by
  obtain ⟨fs, hr, hrun, hended, hq⟩ := X.leaveW hS hn1 hv hlk
  exact ⟨_, _, st fs hr, hrun, hended, _, _, rfl, hQ, hq.1, hq.2.1, hq.2.2.1, hq.2.2.2.mono hk hn⟩
/-- an array by what its places hold -/
def own_Ary (Z : State) (h : Heap) (a : Addr) (ty : FieldType) (n : Nat) (f : Nat → Value) : Prop := ∃ c : Cell, Arr Z h a c ty ∧ c.slots.size = n ∧ ∀ j, j < n → c.slots[j]? = some (f j)
def own_set (f : Nat → Value) (i : Nat) (v : Value) : Nat → Value := fun j => if j = i then v else f j
section
variable {Z : State} {h h' : Heap} {a b : Addr} {ty : FieldType} {n : Nat} {f : Nat → Value}
theorem own_Ary.lt (F : own_Ary Z h a ty n f) : a < h.size := by obtain ⟨c, A, -⟩ := F; exact A.lt
theorem own_Ary.ext (F : own_Ary Z h a ty n f) (E : Ext h h') : own_Ary Z h' a ty n f := by obtain ⟨c, A, r⟩ := F; exact ⟨c, A.ext E, r⟩
theorem own_Ary.other {sl : Nat} {v : Value} (F : own_Ary Z h b ty n f) (W : Wr h h' a sl v) (q : b ≠ a) : own_Ary Z h' b ty n f := by obtain ⟨c, A, r⟩ := F; exact ⟨c, A.other W q, r⟩
theorem own_Ary.keep {ws : List Addr} (F : own_Ary Z h a ty n f) (K : Keep h h' ws) (q : a ∉ ws) : own_Ary Z h' a ty n f := by obtain ⟨c, A, r⟩ := F; exact ⟨c, ⟨K.2.1 a c A.1 q, A.2⟩, r⟩
theorem own_Ary.new {k : ClassId} {z : Int32} (A : Arr Z h a (newA k ty z) ty) (hz : z.toNatClampNeg = n) : own_Ary Z h a ty n (fun _ => defaultValue ty) :=
  ⟨_, A, by rw [sz_new]; exact hz, fun j hj => by simp [newA, hz, hj]⟩
theorem own_Ary.set {c : Cell} {i : Nat} {v : Value} (A : Arr Z h a c ty) (S : c.slots.size = n) (G : ∀ j, j < n → c.slots[j]? = some (f j)) (W : Wr h h' a i v) : own_Ary Z h' a ty n (own_set f i v) := by
  refine ⟨_, A.same W, by rw [sz_set]; exact S, fun j hj => ?_⟩
  simp only [Cell.setSlot, Array.getElem?_setIfInBounds, own_set]
  by_cases q : j = i
  · subst q; simp [S, hj]
  · have q' : ¬ i = j := fun z => q z.symm
    simp [q, q', G j hj]
theorem own_Ary.congr {g : Nat → Value} (F : own_Ary Z h a ty n f) (q : ∀ j, j < n → f j = g j) : own_Ary Z h a ty n g := by
  obtain ⟨c, A, S, G⟩ := F; exact ⟨c, A, S, fun j hj => by rw [G j hj, q j hj]⟩
theorem own_sta_keep {C m d : String} {v : Value} (F : Sta Z h C m d v) (K : Keep h h' []) : Sta Z h' C m d v := by
  obtain ⟨cf, i, k, g, st, cell, h1, h2, h3, h4, h5, r⟩ := F
  exact ⟨cf, i, k, g, st, cell, h1, h2, h3, h4, K.2.1 _ _ h5 nin0, r⟩
theorem own_cl {j : Int32} {i : Nat} (q : j.toInt = (i : Int)) : j.toNatClampNeg = i := by
  show j.toInt.toNat = i
  rw [q]; rfl
theorem own_in {c : Cell} {j : Int32} {i : Nat} (S : c.slots.size = n) (q : j.toInt = (i : Int)) (hi : i < n) : ¬ (j < 0 ∨ c.slots.size ≤ j.toNatClampNeg) := by
  rw [own_cl q, S]
  have h0 : (0 : Int32).toInt = 0 := by decide
  intro z
  rcases z with z | z
  · have := Int32.lt_iff_toInt_lt.mp z; omega
  · omega
end
theorem own_eqR {Z : State} {args : Array Value} {X F : Term} {idx : List Nat} {a : Addr} (hF : F.eval args Z none idx Z = some (.ref a)) (h : (Jvm.Cond.eq X F).value args Z none Z idx = some true) : X.eval args Z none idx Z = some (.ref a) := by
  obtain ⟨x, y, e1, e2, k1, k2⟩ := cmp_v (Or.inl h)
  cases hF.symm.trans e2
  have hx : x.isRef = true := k2.2
  exact e1.trans (congrArg some (gotT (eq_R e1 e2 hx rfl) h))
theorem own_size {Z : State} {args : Array Value} {t : Term} {a : Addr} {c : Cell} {ty : FieldType} {z : Int32} {n : Nat} (es : t.eval args Z none [] Z = some (.ref a)) (A : Arr Z Z.heap a c ty) (h : (Jvm.Cond.eq (.length t) (.int z)).value args Z none Z [] = some true) (hz : z.toInt = (n : Int)) : c.slots.size = n := by
  have q := eqv_i (Term.int_eval z) h
  have hA := A.fin (Vm.Alike.refl _)
  simp only [Term.eval, es, hA, Option.bind_eq_bind, Option.bind_some] at q
  split at q
  · rename_i hl
    have q' : c.slots.size.toInt32 = z := by simpa using q
    have q2 : (c.slots.size.toInt32).toInt = (c.slots.size : Int) := by
      show (Int32.ofNat c.slots.size).toInt = _
      exact Int32.toInt_ofNat_of_lt hl
    rw [q', hz] at q2
    omega
  · cases q
theorem own_elem {Z : State} {args : Array Value} {t : Term} {a : Addr} {c : Cell} {ty : FieldType} {j : Int32} {i : Nat} {x : Value} (es : t.eval args Z none [] Z = some (.ref a)) (A : Arr Z Z.heap a c ty) (hj : j.toInt = (i : Int)) (h : (Term.elem t (.int j)).eval args Z none [] Z = some x) : c.slots[i]? = some x := by
  have h0 : (0 : Int32).toInt = 0 := by decide
  have hn : ¬ j < 0 := fun q => by have := Int32.lt_iff_toInt_lt.mp q; omega
  rw [elem_f es (Term.int_eval j) (A.fin (Vm.Alike.refl _)) hn, own_cl hj] at h
  exact h
def own_hf (c a m : Addr) (nul : Bool) : Int32 := if c = a then 1 else if (nul = true) = (c = m) then 1 else 0
theorem own_boxes {Z : State} {args : Array Value} {t : Term} {a : Addr} {c : Cell} {ty : FieldType} {K : String} {D : Jvm.Cond} {n : Nat} (es : ∀ idx, t.eval args Z none idx Z = some (.ref a)) (A : Arr Z Z.heap a c ty) (S : c.slots.size = n) (hn : n < 2147483648)
    (h : ∀ i, i < c.slots.size → (Jvm.Cond.and (.exactly (.elem t (.index 0)) K) D).value args Z none Z [i] = some true) : ∃ bx : Nat → Addr, ∀ j, j < n → c.slots[j]? = some (.ref (bx j)) := by
  refine ⟨fun j => match c.slots[j]? with | some (.ref x) => x | _ => 0, fun j hj => ?_⟩
  obtain ⟨u1, -⟩ := and_e (h j (by omega))
  obtain ⟨x, ex⟩ := exa_v u1
  have e1 : (Int32.ofNat j).toInt = (j : Int) := Int32.toInt_ofNat_of_lt (by omega)
  have e2 : (Int32.ofNat j).toNatClampNeg = j := own_cl e1
  have h0 : (0 : Int32).toInt = 0 := by decide
  have nn : ¬ (Int32.ofNat j) < 0 := fun q => by have := Int32.lt_iff_toInt_lt.mp q; omega
  have e3 := idx_at (args := args) (first := Z) (s := Z) (o := none) nn
  rw [e2] at e3
  have e4 := elem_f (es [j]) e3 (A.fin (Vm.Alike.refl _)) nn
  rw [e2] at e4
  have e5 : c.slots[j]? = some (.ref x) := e4.symm.trans ex
  show c.slots[j]? = some (.ref (match c.slots[j]? with | some (.ref x) => x | _ => 0))
  rw [e5]
theorem pn_0 : plainName "com/example/evenkeel/evenkeel/Write$Condition" = true := by first | (simp [plainName, overriddenIn]; done) | decide +kernel
theorem d1_0 : decode prog_191_method_4_code 0 = .ok (.aload_n 0, 1) := by decide +kernel
theorem d1_1 : decode prog_191_method_4_code 1 = .ok (.getstatic 3, 3) := by decide +kernel
theorem d1_4 : decode prog_191_method_4_code 4 = .ok (.if_acmp .eq 27, 3) := by decide +kernel
theorem d1_31 : decode prog_191_method_4_code 31 = .ok (.iconst 1, 1) := by decide +kernel
theorem d1_32 : decode prog_191_method_4_code 32 = .ok (.goto 4, 3) := by decide +kernel
theorem d1_36 : decode prog_191_method_4_code 36 = .ok (.ireturn, 1) := by decide +kernel
theorem d1_7 : decode prog_191_method_4_code 7 = .ok (.aload_n 1, 1) := by decide +kernel
theorem d1_8 : decode prog_191_method_4_code 8 = .ok (.ifnonnull 7, 3) := by decide +kernel
theorem d1_11 : decode prog_191_method_4_code 11 = .ok (.iconst 1, 1) := by decide +kernel
theorem d1_12 : decode prog_191_method_4_code 12 = .ok (.goto 4, 3) := by decide +kernel
theorem d1_16 : decode prog_191_method_4_code 16 = .ok (.aload_n 0, 1) := by decide +kernel
theorem d1_17 : decode prog_191_method_4_code 17 = .ok (.getstatic 7, 3) := by decide +kernel
theorem d1_20 : decode prog_191_method_4_code 20 = .ok (.if_acmp .ne 7, 3) := by decide +kernel
theorem d1_23 : decode prog_191_method_4_code 23 = .ok (.iconst 1, 1) := by decide +kernel
theorem d1_24 : decode prog_191_method_4_code 24 = .ok (.goto 4, 3) := by decide +kernel
theorem d1_28 : decode prog_191_method_4_code 28 = .ok (.if_icmp .ne 7, 3) := by decide +kernel
theorem d1_27 : decode prog_191_method_4_code 27 = .ok (.iconst 0, 1) := by decide +kernel
theorem d1_35 : decode prog_191_method_4_code 35 = .ok (.iconst 0, 1) := by decide +kernel
theorem ef_1n (m : MethodId) (r0 : Addr) : entryFrame m #[(.ref r0), .null] 2 = mkF m 0 #[.val (.ref r0), .val .null] [] := by first | (simp [entryFrame, mkF, argsToLocals, Value.category]; done) | rfl
def Q1n (Z : State) (r0 : Addr) (aA : Addr) (aM : Addr) (h0 : Heap) (n0 : Nat) (v : Option Value) (h : Heap) (L : List Loc) : Prop := v = some (.int (own_hf r0 aA aM true)) ∧ Fr n0 L ∧ h = h0
set_option maxRecDepth 65536 in
set_option maxHeartbeats 40000000 in
theorem rm1n (l : Launch) (Z : State) (a0 : Array Value) (hw : ∀ d ∈ tables_1, d.before a0 Z = true) (ws : List Jvm.Cond) (r0 : Addr) (aA : Addr) (aM : Addr) (h0 : Heap) (n0 : Nat) (Z0 : n0 ≤ h0.size) (S_A : Sta Z h0 "com/example/evenkeel/evenkeel/Write$Condition" "ALWAYS" "Lcom/example/evenkeel/evenkeel/Write$Condition;" (.ref aA)) (S_M : Sta Z h0 "com/example/evenkeel/evenkeel/Write$Condition" "MISSING" "Lcom/example/evenkeel/evenkeel/Write$Condition;" (.ref aM)) :
    MetFree l (⟨"com/example/evenkeel/evenkeel/Write$Condition", "holdsFor", "(Ljava/lang/Object;)Z"⟩ : MethodName) (head1 (Jvm.Cond.code (⟨"com/example/evenkeel/evenkeel/Write$Condition", "holdsFor", "(Ljava/lang/Object;)Z"⟩ : MethodName) prog_191_method_4_code 2 (some .boolean) :: ws) ({ frames := 0, cells := 0, slots := 0, locals := 0 } : Room)) (fun a U => a = #[(.ref r0), .null] ∧ Z.Warmed39 U.vm ∧ U.heap = h0) (fun _ _ _ _ _ => True) (fun _ U o U' => ∃ v L, o = .returned v ∧ Q1n Z r0 aA aM h0 n0 v U'.heap L ∧ FrameEnd U o U' L (({ frames := 0, cells := 0, slots := 0, locals := 0 } : Room)).cells (({ frames := 0, cells := 0, slots := 0, locals := 0 } : Room)).slots) := by
  refine MetFree.of_bodySF (plainFor_of_name pn_0) hisR ?_
  intro p e s m args below meth c s₁ Bd hml0 hP hK
  obtain ⟨rfl, hZ, hh⟩ := hP
  have hx := Bd.exec
  have hby := Bd.bytes
  have hml : c.maxLocals = 2 := hml0
  have hown : s.vm.findClass "com/example/evenkeel/evenkeel/Write$Condition" = some m.cls := findClass_of_methodNamed Bd.named
  have hnm := (name_of_methodNamed Bd.named Bd.method).1
  have hlk : meth.locks = false := Bd.notSynchronized
  have X0 : Stand p l e ({ frames := 0, cells := 0, slots := 0, locals := 0 } : Room) s m #[(.ref r0), .null] below meth c s₁ [] 0 0 := Stand.of_body Bd
  have e0 : s₁.heap = h0 := by rw [← hh, Bd.state]; rfl
  have N0 := Fr.nil n0
  have hret := Bd.returns
  show own_Go p e below s (Q1n Z r0 aA aM h0 n0) _ _ (s₁.setTop (entryFrame m #[(.ref r0), .null] 2))
  refine own_go (fun t k => castTop (ef_1n m r0) k) ?_
  show own_Go p e below s _ _ _ (s₁.setTop (mkF m 0 #[.val (.ref r0), .val .null] []))
  refine own_go (fun t_ kt_ => XS.aloadN X0.here hx rfl (hb hby d1_0) rfl rfl kt_) ?_
  show own_Go p e below s _ _ _ (s₁.setTop (mkF m 1 #[.val (.ref r0), .val .null] [(.ref r0)]))
  obtain ⟨T1, X1, e1, st1⟩ := getS2 X0 hx hZ hown (host := "") (Or.inl (hw _ (List.mem_of_getElem? (i := 9) rfl))) Via.refl e0 S_A (g := (mkF m 1 #[.val (.ref r0), .val .null] [(.ref r0)])) rfl (hb hby d1_1)
  refine own_go (fun t_ kt_ => st1 _ kt_) ?_
  show own_Go p e below s _ _ _ (T1.setTop (mkF m 4 #[.val (.ref r0), .val .null] [(.ref aA), (.ref r0)]))
  by_cases ha4 : ((.ref r0) : Value) = (.ref aA)
  · skip
    refine own_go (fun t_ kt_ => Jvm.RoadKit.acmp (g := (mkF m 4 #[.val (.ref r0), .val .null] [(.ref aA), (.ref r0)])) X1 hx rfl rfl rfl (pc0 := 4) (pc' := 31) (same := true) rfl (hb hby d1_4) rfl (decide_eq_true ha4) (by decide) (by decide) kt_) ?_
    show own_Go p e below s _ _ _ (T1.setTop (mkF m 31 #[.val (.ref r0), .val .null] []))
    refine own_go (fun t_ kt_ => XS.iconst X1.here hx rfl (hb hby d1_31) kt_) ?_
    show own_Go p e below s _ _ _ (T1.setTop (mkF m 32 #[.val (.ref r0), .val .null] [(.int (1 : Int32))]))
    refine own_go (fun t_ kt_ => XS.goto X1.here hx rfl (pc0 := 32) (pc' := 36) rfl (hb hby d1_32) (by decide) (by decide) kt_) ?_
    show own_Go p e below s _ _ _ (T1.setTop (mkF m 36 #[.val (.ref r0), .val .null] [(.int (1 : Int32))]))
    refine own_ret X1 (v := some (.int (1 : Int32))) (fun h => by rw [hret] at h; cases h) hlk ?_ (by decide) (by decide) (fun fs hr => retN X1 hx (t := .boolean) hret (by simp) (hb hby d1_36) hr)
    show Q1n Z r0 aA aM h0 n0 (some (.int (1 : Int32))) T1.heap _
    rw [e1]
    exact ⟨congrArg (fun z => some (Value.int z)) (by unfold own_hf; simp_all), N0, rfl⟩
  · skip
    refine own_go (fun t_ kt_ => Jvm.RoadKit.acmp (g := (mkF m 4 #[.val (.ref r0), .val .null] [(.ref aA), (.ref r0)])) X1 hx rfl rfl rfl (pc0 := 4) (pc' := 7) (same := false) rfl (hb hby d1_4) rfl (decide_eq_false ha4) (by decide) (by decide) kt_) ?_
    show own_Go p e below s _ _ _ (T1.setTop (mkF m 7 #[.val (.ref r0), .val .null] []))
    refine own_go (fun t_ kt_ => XS.aloadN X1.here hx rfl (hb hby d1_7) rfl rfl kt_) ?_
    show own_Go p e below s _ _ _ (T1.setTop (mkF m 8 #[.val (.ref r0), .val .null] [.null]))
    refine own_go (fun t_ kt_ => XS.ifnonnullNo X1.here hx rfl (hb hby d1_8) rfl kt_) ?_
    show own_Go p e below s _ _ _ (T1.setTop (mkF m 11 #[.val (.ref r0), .val .null] []))
    refine own_go (fun t_ kt_ => XS.iconst X1.here hx rfl (hb hby d1_11) kt_) ?_
    show own_Go p e below s _ _ _ (T1.setTop (mkF m 12 #[.val (.ref r0), .val .null] [(.int (1 : Int32))]))
    refine own_go (fun t_ kt_ => XS.goto X1.here hx rfl (pc0 := 12) (pc' := 16) rfl (hb hby d1_12) (by decide) (by decide) kt_) ?_
    show own_Go p e below s _ _ _ (T1.setTop (mkF m 16 #[.val (.ref r0), .val .null] [(.int (1 : Int32))]))
    refine own_go (fun t_ kt_ => XS.aloadN X1.here hx rfl (hb hby d1_16) rfl rfl kt_) ?_
    show own_Go p e below s _ _ _ (T1.setTop (mkF m 17 #[.val (.ref r0), .val .null] [(.ref r0), (.int (1 : Int32))]))
    obtain ⟨T2, X2, e2, st2⟩ := getS2 X1 hx hZ hown (host := "") (Or.inl (hw _ (List.mem_of_getElem? (i := 12) rfl))) Via.refl e1 S_M (g := (mkF m 17 #[.val (.ref r0), .val .null] [(.ref r0), (.int (1 : Int32))])) rfl (hb hby d1_17)
    refine own_go (fun t_ kt_ => st2 _ kt_) ?_
    show own_Go p e below s _ _ _ (T2.setTop (mkF m 20 #[.val (.ref r0), .val .null] [(.ref aM), (.ref r0), (.int (1 : Int32))]))
    by_cases ha20 : ((.ref r0) : Value) = (.ref aM)
    · skip
      refine own_go (fun t_ kt_ => Jvm.RoadKit.acmp (g := (mkF m 20 #[.val (.ref r0), .val .null] [(.ref aM), (.ref r0), (.int (1 : Int32))])) X2 hx rfl rfl rfl (pc0 := 20) (pc' := 23) (same := true) rfl (hb hby d1_20) rfl (decide_eq_true ha20) (by decide) (by decide) kt_) ?_
      show own_Go p e below s _ _ _ (T2.setTop (mkF m 23 #[.val (.ref r0), .val .null] [(.int (1 : Int32))]))
      refine own_go (fun t_ kt_ => XS.iconst X2.here hx rfl (hb hby d1_23) kt_) ?_
      show own_Go p e below s _ _ _ (T2.setTop (mkF m 24 #[.val (.ref r0), .val .null] [(.int (1 : Int32)), (.int (1 : Int32))]))
      refine own_go (fun t_ kt_ => XS.goto X2.here hx rfl (pc0 := 24) (pc' := 28) rfl (hb hby d1_24) (by decide) (by decide) kt_) ?_
      show own_Go p e below s _ _ _ (T2.setTop (mkF m 28 #[.val (.ref r0), .val .null] [(.int (1 : Int32)), (.int (1 : Int32))]))
      refine own_go (fun t_ kt_ => XS.icmpNo X2.here hx rfl (hb hby d1_28) rfl (teq (by decide)).2 kt_) ?_
      show own_Go p e below s _ _ _ (T2.setTop (mkF m 31 #[.val (.ref r0), .val .null] []))
      refine own_go (fun t_ kt_ => XS.iconst X2.here hx rfl (hb hby d1_31) kt_) ?_
      show own_Go p e below s _ _ _ (T2.setTop (mkF m 32 #[.val (.ref r0), .val .null] [(.int (1 : Int32))]))
      refine own_go (fun t_ kt_ => XS.goto X2.here hx rfl (pc0 := 32) (pc' := 36) rfl (hb hby d1_32) (by decide) (by decide) kt_) ?_
      show own_Go p e below s _ _ _ (T2.setTop (mkF m 36 #[.val (.ref r0), .val .null] [(.int (1 : Int32))]))
      refine own_ret X2 (v := some (.int (1 : Int32))) (fun h => by rw [hret] at h; cases h) hlk ?_ (by decide) (by decide) (fun fs hr => retN X2 hx (t := .boolean) hret (by simp) (hb hby d1_36) hr)
      show Q1n Z r0 aA aM h0 n0 (some (.int (1 : Int32))) T2.heap _
      rw [e2]
      exact ⟨congrArg (fun z => some (Value.int z)) (by unfold own_hf; simp_all), N0, rfl⟩
    · skip
      refine own_go (fun t_ kt_ => Jvm.RoadKit.acmp (g := (mkF m 20 #[.val (.ref r0), .val .null] [(.ref aM), (.ref r0), (.int (1 : Int32))])) X2 hx rfl rfl rfl (pc0 := 20) (pc' := 27) (same := false) rfl (hb hby d1_20) rfl (decide_eq_false ha20) (by decide) (by decide) kt_) ?_
      show own_Go p e below s _ _ _ (T2.setTop (mkF m 27 #[.val (.ref r0), .val .null] [(.int (1 : Int32))]))
      refine own_go (fun t_ kt_ => XS.iconst X2.here hx rfl (hb hby d1_27) kt_) ?_
      show own_Go p e below s _ _ _ (T2.setTop (mkF m 28 #[.val (.ref r0), .val .null] [(.int (0 : Int32)), (.int (1 : Int32))]))
      refine own_go (fun t_ kt_ => XS.icmpYes X2.here hx rfl (pc0 := 28) (pc' := 35) rfl (hb hby d1_28) rfl (feq (by decide)).2 (by decide) (by decide) kt_) ?_
      show own_Go p e below s _ _ _ (T2.setTop (mkF m 35 #[.val (.ref r0), .val .null] []))
      refine own_go (fun t_ kt_ => XS.iconst X2.here hx rfl (hb hby d1_35) kt_) ?_
      show own_Go p e below s _ _ _ (T2.setTop (mkF m 36 #[.val (.ref r0), .val .null] [(.int (0 : Int32))]))
      refine own_ret X2 (v := some (.int (0 : Int32))) (fun h => by rw [hret] at h; cases h) hlk ?_ (by decide) (by decide) (fun fs hr => retN X2 hx (t := .boolean) hret (by simp) (hb hby d1_36) hr)
      show Q1n Z r0 aA aM h0 n0 (some (.int (0 : Int32))) T2.heap _
      rw [e2]
      exact ⟨congrArg (fun z => some (Value.int z)) (by unfold own_hf; simp_all), N0, rfl⟩
theorem d1_15 : decode prog_191_method_4_code 15 = .ok (.iconst 0, 1) := by decide +kernel
theorem ef_1r (m : MethodId) (r0 : Addr) (r1 : Addr) : entryFrame m #[(.ref r0), (.ref r1)] 2 = mkF m 0 #[.val (.ref r0), .val (.ref r1)] [] := by first | (simp [entryFrame, mkF, argsToLocals, Value.category]; done) | rfl
def Q1r (Z : State) (r0 : Addr) (r1 : Addr) (aA : Addr) (aM : Addr) (h0 : Heap) (n0 : Nat) (v : Option Value) (h : Heap) (L : List Loc) : Prop := v = some (.int (own_hf r0 aA aM false)) ∧ Fr n0 L ∧ h = h0
set_option maxRecDepth 65536 in
set_option maxHeartbeats 40000000 in
theorem rm1r (l : Launch) (Z : State) (a0 : Array Value) (hw : ∀ d ∈ tables_1, d.before a0 Z = true) (ws : List Jvm.Cond) (r0 : Addr) (r1 : Addr) (aA : Addr) (aM : Addr) (h0 : Heap) (n0 : Nat) (Z0 : n0 ≤ h0.size) (S_A : Sta Z h0 "com/example/evenkeel/evenkeel/Write$Condition" "ALWAYS" "Lcom/example/evenkeel/evenkeel/Write$Condition;" (.ref aA)) (S_M : Sta Z h0 "com/example/evenkeel/evenkeel/Write$Condition" "MISSING" "Lcom/example/evenkeel/evenkeel/Write$Condition;" (.ref aM)) :
    MetFree l (⟨"com/example/evenkeel/evenkeel/Write$Condition", "holdsFor", "(Ljava/lang/Object;)Z"⟩ : MethodName) (head1 (Jvm.Cond.code (⟨"com/example/evenkeel/evenkeel/Write$Condition", "holdsFor", "(Ljava/lang/Object;)Z"⟩ : MethodName) prog_191_method_4_code 2 (some .boolean) :: ws) ({ frames := 0, cells := 0, slots := 0, locals := 0 } : Room)) (fun a U => a = #[(.ref r0), (.ref r1)] ∧ Z.Warmed39 U.vm ∧ U.heap = h0) (fun _ _ _ _ _ => True) (fun _ U o U' => ∃ v L, o = .returned v ∧ Q1r Z r0 r1 aA aM h0 n0 v U'.heap L ∧ FrameEnd U o U' L (({ frames := 0, cells := 0, slots := 0, locals := 0 } : Room)).cells (({ frames := 0, cells := 0, slots := 0, locals := 0 } : Room)).slots) := by
  refine MetFree.of_bodySF (plainFor_of_name pn_0) hisR ?_
  intro p e s m args below meth c s₁ Bd hml0 hP hK
  obtain ⟨rfl, hZ, hh⟩ := hP
  have hx := Bd.exec
  have hby := Bd.bytes
  have hml : c.maxLocals = 2 := hml0
  have hown : s.vm.findClass "com/example/evenkeel/evenkeel/Write$Condition" = some m.cls := findClass_of_methodNamed Bd.named
  have hnm := (name_of_methodNamed Bd.named Bd.method).1
  have hlk : meth.locks = false := Bd.notSynchronized
  have X0 : Stand p l e ({ frames := 0, cells := 0, slots := 0, locals := 0 } : Room) s m #[(.ref r0), (.ref r1)] below meth c s₁ [] 0 0 := Stand.of_body Bd
  have e0 : s₁.heap = h0 := by rw [← hh, Bd.state]; rfl
  have N0 := Fr.nil n0
  have hret := Bd.returns
  show own_Go p e below s (Q1r Z r0 r1 aA aM h0 n0) _ _ (s₁.setTop (entryFrame m #[(.ref r0), (.ref r1)] 2))
  refine own_go (fun t k => castTop (ef_1r m r0 r1) k) ?_
  show own_Go p e below s _ _ _ (s₁.setTop (mkF m 0 #[.val (.ref r0), .val (.ref r1)] []))
  refine own_go (fun t_ kt_ => XS.aloadN X0.here hx rfl (hb hby d1_0) rfl rfl kt_) ?_
  show own_Go p e below s _ _ _ (s₁.setTop (mkF m 1 #[.val (.ref r0), .val (.ref r1)] [(.ref r0)]))
  obtain ⟨T1, X1, e1, st1⟩ := getS2 X0 hx hZ hown (host := "") (Or.inl (hw _ (List.mem_of_getElem? (i := 9) rfl))) Via.refl e0 S_A (g := (mkF m 1 #[.val (.ref r0), .val (.ref r1)] [(.ref r0)])) rfl (hb hby d1_1)
  refine own_go (fun t_ kt_ => st1 _ kt_) ?_
  show own_Go p e below s _ _ _ (T1.setTop (mkF m 4 #[.val (.ref r0), .val (.ref r1)] [(.ref aA), (.ref r0)]))
  by_cases ha4 : ((.ref r0) : Value) = (.ref aA)
  · skip
    refine own_go (fun t_ kt_ => Jvm.RoadKit.acmp (g := (mkF m 4 #[.val (.ref r0), .val (.ref r1)] [(.ref aA), (.ref r0)])) X1 hx rfl rfl rfl (pc0 := 4) (pc' := 31) (same := true) rfl (hb hby d1_4) rfl (decide_eq_true ha4) (by decide) (by decide) kt_) ?_
    show own_Go p e below s _ _ _ (T1.setTop (mkF m 31 #[.val (.ref r0), .val (.ref r1)] []))
    refine own_go (fun t_ kt_ => XS.iconst X1.here hx rfl (hb hby d1_31) kt_) ?_
    show own_Go p e below s _ _ _ (T1.setTop (mkF m 32 #[.val (.ref r0), .val (.ref r1)] [(.int (1 : Int32))]))
    refine own_go (fun t_ kt_ => XS.goto X1.here hx rfl (pc0 := 32) (pc' := 36) rfl (hb hby d1_32) (by decide) (by decide) kt_) ?_
    show own_Go p e below s _ _ _ (T1.setTop (mkF m 36 #[.val (.ref r0), .val (.ref r1)] [(.int (1 : Int32))]))
    refine own_ret X1 (v := some (.int (1 : Int32))) (fun h => by rw [hret] at h; cases h) hlk ?_ (by decide) (by decide) (fun fs hr => retN X1 hx (t := .boolean) hret (by simp) (hb hby d1_36) hr)
    show Q1r Z r0 r1 aA aM h0 n0 (some (.int (1 : Int32))) T1.heap _
    rw [e1]
    exact ⟨congrArg (fun z => some (Value.int z)) (by unfold own_hf; simp_all), N0, rfl⟩
  · skip
    refine own_go (fun t_ kt_ => Jvm.RoadKit.acmp (g := (mkF m 4 #[.val (.ref r0), .val (.ref r1)] [(.ref aA), (.ref r0)])) X1 hx rfl rfl rfl (pc0 := 4) (pc' := 7) (same := false) rfl (hb hby d1_4) rfl (decide_eq_false ha4) (by decide) (by decide) kt_) ?_
    show own_Go p e below s _ _ _ (T1.setTop (mkF m 7 #[.val (.ref r0), .val (.ref r1)] []))
    refine own_go (fun t_ kt_ => XS.aloadN X1.here hx rfl (hb hby d1_7) rfl rfl kt_) ?_
    show own_Go p e below s _ _ _ (T1.setTop (mkF m 8 #[.val (.ref r0), .val (.ref r1)] [(.ref r1)]))
    refine own_go (fun t_ kt_ => XS.ifnonnullYes X1.here hx rfl (pc0 := 8) (pc' := 15) rfl (hb hby d1_8) rfl (by decide) (by decide) kt_) ?_
    show own_Go p e below s _ _ _ (T1.setTop (mkF m 15 #[.val (.ref r0), .val (.ref r1)] []))
    refine own_go (fun t_ kt_ => XS.iconst X1.here hx rfl (hb hby d1_15) kt_) ?_
    show own_Go p e below s _ _ _ (T1.setTop (mkF m 16 #[.val (.ref r0), .val (.ref r1)] [(.int (0 : Int32))]))
    refine own_go (fun t_ kt_ => XS.aloadN X1.here hx rfl (hb hby d1_16) rfl rfl kt_) ?_
    show own_Go p e below s _ _ _ (T1.setTop (mkF m 17 #[.val (.ref r0), .val (.ref r1)] [(.ref r0), (.int (0 : Int32))]))
    obtain ⟨T2, X2, e2, st2⟩ := getS2 X1 hx hZ hown (host := "") (Or.inl (hw _ (List.mem_of_getElem? (i := 12) rfl))) Via.refl e1 S_M (g := (mkF m 17 #[.val (.ref r0), .val (.ref r1)] [(.ref r0), (.int (0 : Int32))])) rfl (hb hby d1_17)
    refine own_go (fun t_ kt_ => st2 _ kt_) ?_
    show own_Go p e below s _ _ _ (T2.setTop (mkF m 20 #[.val (.ref r0), .val (.ref r1)] [(.ref aM), (.ref r0), (.int (0 : Int32))]))
    by_cases ha20 : ((.ref r0) : Value) = (.ref aM)
    · skip
      refine own_go (fun t_ kt_ => Jvm.RoadKit.acmp (g := (mkF m 20 #[.val (.ref r0), .val (.ref r1)] [(.ref aM), (.ref r0), (.int (0 : Int32))])) X2 hx rfl rfl rfl (pc0 := 20) (pc' := 23) (same := true) rfl (hb hby d1_20) rfl (decide_eq_true ha20) (by decide) (by decide) kt_) ?_
      show own_Go p e below s _ _ _ (T2.setTop (mkF m 23 #[.val (.ref r0), .val (.ref r1)] [(.int (0 : Int32))]))
      refine own_go (fun t_ kt_ => XS.iconst X2.here hx rfl (hb hby d1_23) kt_) ?_
      show own_Go p e below s _ _ _ (T2.setTop (mkF m 24 #[.val (.ref r0), .val (.ref r1)] [(.int (1 : Int32)), (.int (0 : Int32))]))
      refine own_go (fun t_ kt_ => XS.goto X2.here hx rfl (pc0 := 24) (pc' := 28) rfl (hb hby d1_24) (by decide) (by decide) kt_) ?_
      show own_Go p e below s _ _ _ (T2.setTop (mkF m 28 #[.val (.ref r0), .val (.ref r1)] [(.int (1 : Int32)), (.int (0 : Int32))]))
      refine own_go (fun t_ kt_ => XS.icmpYes X2.here hx rfl (pc0 := 28) (pc' := 35) rfl (hb hby d1_28) rfl (feq (by decide)).2 (by decide) (by decide) kt_) ?_
      show own_Go p e below s _ _ _ (T2.setTop (mkF m 35 #[.val (.ref r0), .val (.ref r1)] []))
      refine own_go (fun t_ kt_ => XS.iconst X2.here hx rfl (hb hby d1_35) kt_) ?_
      show own_Go p e below s _ _ _ (T2.setTop (mkF m 36 #[.val (.ref r0), .val (.ref r1)] [(.int (0 : Int32))]))
      refine own_ret X2 (v := some (.int (0 : Int32))) (fun h => by rw [hret] at h; cases h) hlk ?_ (by decide) (by decide) (fun fs hr => retN X2 hx (t := .boolean) hret (by simp) (hb hby d1_36) hr)
      show Q1r Z r0 r1 aA aM h0 n0 (some (.int (0 : Int32))) T2.heap _
      rw [e2]
      exact ⟨congrArg (fun z => some (Value.int z)) (by unfold own_hf; simp_all), N0, rfl⟩
    · skip
      refine own_go (fun t_ kt_ => Jvm.RoadKit.acmp (g := (mkF m 20 #[.val (.ref r0), .val (.ref r1)] [(.ref aM), (.ref r0), (.int (0 : Int32))])) X2 hx rfl rfl rfl (pc0 := 20) (pc' := 27) (same := false) rfl (hb hby d1_20) rfl (decide_eq_false ha20) (by decide) (by decide) kt_) ?_
      show own_Go p e below s _ _ _ (T2.setTop (mkF m 27 #[.val (.ref r0), .val (.ref r1)] [(.int (0 : Int32))]))
      refine own_go (fun t_ kt_ => XS.iconst X2.here hx rfl (hb hby d1_27) kt_) ?_
      show own_Go p e below s _ _ _ (T2.setTop (mkF m 28 #[.val (.ref r0), .val (.ref r1)] [(.int (0 : Int32)), (.int (0 : Int32))]))
      refine own_go (fun t_ kt_ => XS.icmpNo X2.here hx rfl (hb hby d1_28) rfl (teq (by decide)).2 kt_) ?_
      show own_Go p e below s _ _ _ (T2.setTop (mkF m 31 #[.val (.ref r0), .val (.ref r1)] []))
      refine own_go (fun t_ kt_ => XS.iconst X2.here hx rfl (hb hby d1_31) kt_) ?_
      show own_Go p e below s _ _ _ (T2.setTop (mkF m 32 #[.val (.ref r0), .val (.ref r1)] [(.int (1 : Int32))]))
      refine own_go (fun t_ kt_ => XS.goto X2.here hx rfl (pc0 := 32) (pc' := 36) rfl (hb hby d1_32) (by decide) (by decide) kt_) ?_
      show own_Go p e below s _ _ _ (T2.setTop (mkF m 36 #[.val (.ref r0), .val (.ref r1)] [(.int (1 : Int32))]))
      refine own_ret X2 (v := some (.int (1 : Int32))) (fun h => by rw [hret] at h; cases h) hlk ?_ (by decide) (by decide) (fun fs hr => retN X2 hx (t := .boolean) hret (by simp) (hb hby d1_36) hr)
      show Q1r Z r0 r1 aA aM h0 n0 (some (.int (1 : Int32))) T2.heap _
      rw [e2]
      exact ⟨congrArg (fun z => some (Value.int z)) (by unfold own_hf; simp_all), N0, rfl⟩
theorem pn_1 : plainName "java/lang/Number" = true := by first | (simp [plainName, overriddenIn]; done) | decide +kernel
theorem d4_0 : decode jdk_18_method_1_code 0 = .ok (.aload_n 0, 1) := by decide +kernel
theorem d4_1 : decode jdk_18_method_1_code 1 = .ok (.invokespecial 1, 3) := by decide +kernel
theorem d4_4 : decode jdk_18_method_1_code 4 = .ok (.return_, 1) := by decide +kernel
theorem ef_4 (m : MethodId) (r0 : Addr) : entryFrame m #[(.ref r0)] 1 = mkF m 0 #[.val (.ref r0)] [] := by first | (simp [entryFrame, mkF, argsToLocals, Value.category]; done) | rfl
def Q4 (Z : State) (r0 : Addr) (h0 : Heap) (n0 : Nat) (v : Option Value) (h : Heap) (L : List Loc) : Prop := v = none ∧ Fr n0 L ∧ h = h0
set_option maxRecDepth 65536 in
set_option maxHeartbeats 40000000 in
theorem rm4 (l : Launch) (Z : State) (a0 : Array Value) (hw : ∀ d ∈ tables_1, d.before a0 Z = true) (ws : List Jvm.Cond) (r0 : Addr) (h0 : Heap) (n0 : Nat) (Z0 : n0 ≤ h0.size) :
    MetFree l (⟨"java/lang/Number", "<init>", "()V"⟩ : MethodName) (head1 (Jvm.Cond.code (⟨"java/lang/Number", "<init>", "()V"⟩ : MethodName) jdk_18_method_1_code 1 none :: ws) ({ frames := 1, cells := 0, slots := 0, locals := 12 } : Room)) (fun a U => a = #[(.ref r0)] ∧ Z.Warmed39 U.vm ∧ U.heap = h0) (fun _ _ _ _ _ => True) (fun _ U o U' => ∃ v L, o = .returned v ∧ Q4 Z r0 h0 n0 v U'.heap L ∧ FrameEnd U o U' L (({ frames := 1, cells := 0, slots := 0, locals := 12 } : Room)).cells (({ frames := 1, cells := 0, slots := 0, locals := 12 } : Room)).slots) := by
  refine MetFree.of_bodySF (plainFor_of_name pn_1) hisR ?_
  intro p e s m args below meth c s₁ Bd hml0 hP hK
  obtain ⟨rfl, hZ, hh⟩ := hP
  have hx := Bd.exec
  have hby := Bd.bytes
  have hml : c.maxLocals = 1 := hml0
  have hown : s.vm.findClass "java/lang/Number" = some m.cls := findClass_of_methodNamed Bd.named
  have hnm := (name_of_methodNamed Bd.named Bd.method).1
  have hlk : meth.locks = false := Bd.notSynchronized
  have X0 : Stand p l e ({ frames := 1, cells := 0, slots := 0, locals := 12 } : Room) s m #[(.ref r0)] below meth c s₁ [] 0 0 := Stand.of_body Bd
  have e0 : s₁.heap = h0 := by rw [← hh, Bd.state]; rfl
  have N0 := Fr.nil n0
  have hret := Bd.returns
  show own_Go p e below s (Q4 Z r0 h0 n0) _ _ (s₁.setTop (entryFrame m #[(.ref r0)] 1))
  refine own_go (fun t k => castTop (ef_4 m r0) k) ?_
  show own_Go p e below s _ _ _ (s₁.setTop (mkF m 0 #[.val (.ref r0)] []))
  refine own_go (fun t_ kt_ => XS.aloadN X0.here hx rfl (hb hby d4_0) rfl rfl kt_) ?_
  show own_Go p e below s _ _ _ (s₁.setTop (mkF m 1 #[.val (.ref r0)] [(.ref r0)]))
  obtain ⟨T1, X1, e1, st1⟩ := initO X0 hx hZ hown (hw _ (List.mem_of_getElem? (i := 35) rfl)) (hw _ (List.mem_of_getElem? (i := 36) rfl)) (hw _ (List.mem_of_getElem? (i := 37) rfl)) e0 (g := (mkF m 1 #[.val (.ref r0)] [(.ref r0)])) rfl (by rw [hml]; rfl) rfl (hb hby d4_1) (by decide) (W := 0) (by show 2 * 0 + _ ≤ _; exact Nat.le_of_eq rfl) (by decide)
  refine own_go (fun t_ kt_ => st1 _ kt_) ?_
  show own_Go p e below s _ _ _ (T1.setTop (mkF m 4 #[.val (.ref r0)] []))
  refine own_ret X1 (v := none) (fun _ => rfl) hlk ?_ (by decide) (by decide) (fun fs hr => X1.returnOut hx hret (hb hby d4_4) hr)
  show Q4 Z r0 h0 n0 (none) T1.heap _
  rw [e1]
  exact ⟨rfl, N0, rfl⟩
theorem pn_2 : plainName "java/lang/Integer" = true := by first | (simp [plainName, overriddenIn]; done) | decide +kernel
theorem d3_0 : decode jdk_33_method_23_code 0 = .ok (.aload_n 0, 1) := by decide +kernel
theorem d3_1 : decode jdk_33_method_23_code 1 = .ok (.invokespecial 202, 3) := by decide +kernel
theorem pd_0 : parseMethodDescriptor "()V" = some ⟨[], none⟩ := by decide +kernel
theorem d3_4 : decode jdk_33_method_23_code 4 = .ok (.aload_n 0, 1) := by decide +kernel
theorem d3_5 : decode jdk_33_method_23_code 5 = .ok (.iload_n 1, 1) := by decide +kernel
theorem d3_6 : decode jdk_33_method_23_code 6 = .ok (.putfield 205, 3) := by decide +kernel
theorem d3_9 : decode jdk_33_method_23_code 9 = .ok (.return_, 1) := by decide +kernel
theorem ef_3 (m : MethodId) (r0 : Addr) (p1 : Int32) : entryFrame m #[(.ref r0), (.int p1)] 2 = mkF m 0 #[.val (.ref r0), .val (.int p1)] [] := by first | (simp [entryFrame, mkF, argsToLocals, Value.category]; done) | rfl
def Q3 (Z : State) (r0 : Addr) (p1 : Int32) (h0 : Heap) (n0 : Nat) (v : Option Value) (h : Heap) (L : List Loc) : Prop := v = none ∧ Fr n0 L ∧ Keep h0 h [r0]
set_option maxRecDepth 65536 in
set_option maxHeartbeats 40000000 in
theorem rm3 (l : Launch) (Z : State) (a0 : Array Value) (hw : ∀ d ∈ tables_1, d.before a0 Z = true) (ws : List Jvm.Cond) (r0 : Addr) (p1 : Int32) (h0 : Heap) (n0 : Nat) (Z0 : n0 ≤ h0.size) (F0 : Fld Z h0 r0 "java/lang/Integer" "value" "I" (.int (0 : Int32))) (E0 : Exa Z h0 r0 "java/lang/Integer") (g0 : n0 ≤ r0) :
    MetFree l (⟨"java/lang/Integer", "<init>", "(I)V"⟩ : MethodName) (head1 (Jvm.Cond.code (⟨"java/lang/Integer", "<init>", "(I)V"⟩ : MethodName) jdk_33_method_23_code 2 none :: ws) ({ frames := 2, cells := 0, slots := 0, locals := 24 } : Room)) (fun a U => a = #[(.ref r0), (.int p1)] ∧ Z.Warmed39 U.vm ∧ U.heap = h0) (fun _ _ _ _ _ => True) (fun _ U o U' => ∃ v L, o = .returned v ∧ Q3 Z r0 p1 h0 n0 v U'.heap L ∧ FrameEnd U o U' L (({ frames := 2, cells := 0, slots := 0, locals := 24 } : Room)).cells (({ frames := 2, cells := 0, slots := 0, locals := 24 } : Room)).slots) := by
  refine MetFree.of_bodySF (plainFor_of_name pn_2) hisR ?_
  intro p e s m args below meth c s₁ Bd hml0 hP hK
  obtain ⟨rfl, hZ, hh⟩ := hP
  have hx := Bd.exec
  have hby := Bd.bytes
  have hml : c.maxLocals = 2 := hml0
  have hown : s.vm.findClass "java/lang/Integer" = some m.cls := findClass_of_methodNamed Bd.named
  have hnm := (name_of_methodNamed Bd.named Bd.method).1
  have hlk : meth.locks = false := Bd.notSynchronized
  have X0 : Stand p l e ({ frames := 2, cells := 0, slots := 0, locals := 24 } : Room) s m #[(.ref r0), (.int p1)] below meth c s₁ [] 0 0 := Stand.of_body Bd
  have e0 : s₁.heap = h0 := by rw [← hh, Bd.state]; rfl
  have N0 := Fr.nil n0
  have hret := Bd.returns
  show own_Go p e below s (Q3 Z r0 p1 h0 n0) _ _ (s₁.setTop (entryFrame m #[(.ref r0), (.int p1)] 2))
  refine own_go (fun t k => castTop (ef_3 m r0 p1) k) ?_
  show own_Go p e below s _ _ _ (s₁.setTop (mkF m 0 #[.val (.ref r0), .val (.int p1)] []))
  refine own_go (fun t_ kt_ => XS.aloadN X0.here hx rfl (hb hby d3_0) rfl rfl kt_) ?_
  show own_Go p e below s _ _ _ (s₁.setTop (mkF m 1 #[.val (.ref r0), .val (.int p1)] [(.ref r0)]))
  obtain ⟨_, _, ⟨T1, L1, k1, n1⟩, -, X1, ⟨Lc1, hQ1, l1, y1, z1⟩, st1⟩ := X0.specialBack hx (y := (⟨"java/lang/Number", "<init>", "()V"⟩ : MethodName)) rfl hown (mvT hZ (hw _ (List.mem_of_getElem? (i := 29) rfl))) (mvT hZ (hw _ (List.mem_of_getElem? (i := 30) rfl))) (mvT hZ (hw _ (List.mem_of_getElem? (i := 34) rfl))) (by decide) (backOf (W := 0) (rm4 l Z a0 hw [] (r0) h0 n0 Z0 ) hZ (hw _ (List.mem_of_getElem? (i := 34) rfl)) (hw _ (List.mem_of_getElem? (i := 33) rfl)) (by decide) (by decide)) (g := (mkF m 1 #[.val (.ref r0), .val (.int p1)] [(.ref r0)])) rfl (by rw [hml]; rfl) (Steps.refl _) (a := r0) (argsL := []) (rest := []) (lenOf pd_0 rfl) rfl (by show 2 * 0 + _ ≤ _; exact Nat.le_of_eq rfl) (hb hby d3_1) (fun _ _ => ⟨rfl, e0, (by decide : 0 + 0 ≤ _), (by decide : 0 + 0 ≤ _)⟩)
  dsimp only [Pt.U, Pt.locs, Pt.cells, Pt.slots] at X1 l1 y1 z1 st1 hQ1
  subst l1 y1 z1
  obtain ⟨rfl, Nq1, eh1⟩ := hQ1
  have N1 := Fr.app N0 Nq1
  refine own_go (fun t_ kt_ => st1.trans kt_) ?_
  obtain ⟨lo1, X1g, N1g⟩ : ∃ lo, Stand p l e ({ frames := 2, cells := 0, slots := 0, locals := 24 } : Room) s m #[(.ref r0), (.int p1)] below meth c T1 lo 0 0 ∧ Fr n0 lo := ⟨_, X1, N1⟩
  have e1 : T1.heap = h0 := eh1
  show own_Go p e below s _ _ _ (T1.setTop (mkF m 4 #[.val (.ref r0), .val (.int p1)] []))
  refine own_go (fun t_ kt_ => XS.aloadN X1g.here hx rfl (hb hby d3_4) rfl rfl kt_) ?_
  show own_Go p e below s _ _ _ (T1.setTop (mkF m 5 #[.val (.ref r0), .val (.int p1)] [(.ref r0)]))
  refine own_go (fun t_ kt_ => XS.iloadN X1g.here hx rfl (hb hby d3_5) rfl kt_) ?_
  show own_Go p e below s _ _ _ (T1.setTop (mkF m 6 #[.val (.ref r0), .val (.int p1)] [(.int p1), (.ref r0)]))
  obtain ⟨T2, h2, X2, e2, W2, st2⟩ := putF X1g hx hZ hown (host := "") (Or.inl (hw _ (List.mem_of_getElem? (i := 38) rfl))) Via.refl e1 F0 E0 (Or.inr ⟨(hw _ (List.mem_of_getElem? (i := 39) rfl)), rfl, hnm⟩) (hw _ (List.mem_of_getElem? (i := 24) rfl)) (ty := .int) (by decide) rfl rfl (g := (mkF m 6 #[.val (.ref r0), .val (.int p1)] [(.int p1), (.ref r0)])) rfl rfl (hb hby d3_6)
  refine own_go (fun t_ kt_ => st2 _ kt_) ?_
  have N2 := Fr.snoc X2 N1g g0
  obtain ⟨lo2, X2g, N2g⟩ : ∃ lo, Stand p l e ({ frames := 2, cells := 0, slots := 0, locals := 24 } : Room) s m #[(.ref r0), (.int p1)] below meth c T2 lo 0 0 ∧ Fr n0 lo := ⟨_, X2, N2⟩
  have ZZ_2 : n0 ≤ h2.size := Nat.le_trans Z0 (Nat.le_of_eq W2.size.symm)
  have EE_2 : Exa Z h2 r0 "java/lang/Integer" := E0.wr W2
  have FF_2 : Fld Z h2 r0 "java/lang/Integer" "value" "I" (.int p1) := F0.same W2
  have K2 : Keep h0 h2 [r0] := (Keep.refl h0 [r0]).wr W2 (Or.inl (by simp))
  show own_Go p e below s _ _ _ (T2.setTop (mkF m 9 #[.val (.ref r0), .val (.int p1)] []))
  refine own_ret X2g (v := none) (fun _ => rfl) hlk ?_ (by decide) (by decide) (fun fs hr => X2g.returnOut hx hret (hb hby d3_9) hr)
  show Q3 Z r0 p1 h0 n0 (none) T2.heap _
  rw [e2]
  exact ⟨rfl, N2g, K2⟩
theorem d2_0 : decode jdk_33_method_22_code 0 = .ok (.iload_n 0, 1) := by decide +kernel
theorem d2_1 : decode jdk_33_method_22_code 1 = .ok (.bipush (-128), 2) := by decide +kernel
theorem d2_3 : decode jdk_33_method_22_code 3 = .ok (.if_icmp .lt 20, 3) := by decide +kernel
theorem d2_23 : decode jdk_33_method_22_code 23 = .ok (.new 1, 3) := by decide +kernel
theorem d2_26 : decode jdk_33_method_22_code 26 = .ok (.dup, 1) := by decide +kernel
theorem d2_27 : decode jdk_33_method_22_code 27 = .ok (.iload_n 0, 1) := by decide +kernel
theorem d2_28 : decode jdk_33_method_22_code 28 = .ok (.invokespecial 199, 3) := by decide +kernel
theorem pd_1 : parseMethodDescriptor "(I)V" = some ⟨[.int], none⟩ := by decide +kernel
theorem d2_31 : decode jdk_33_method_22_code 31 = .ok (.areturn, 1) := by decide +kernel
theorem d2_6 : decode jdk_33_method_22_code 6 = .ok (.iload_n 0, 1) := by decide +kernel
theorem d2_7 : decode jdk_33_method_22_code 7 = .ok (.getstatic 191, 3) := by decide +kernel
theorem d2_10 : decode jdk_33_method_22_code 10 = .ok (.if_icmp .gt 13, 3) := by decide +kernel
theorem d2_13 : decode jdk_33_method_22_code 13 = .ok (.getstatic 195, 3) := by decide +kernel
theorem d2_16 : decode jdk_33_method_22_code 16 = .ok (.iload_n 0, 1) := by decide +kernel
theorem d2_17 : decode jdk_33_method_22_code 17 = .ok (.sipush 128, 3) := by decide +kernel
theorem d2_20 : decode jdk_33_method_22_code 20 = .ok (.iadd, 1) := by decide +kernel
theorem d2_21 : decode jdk_33_method_22_code 21 = .ok (.aaload, 1) := by decide +kernel
theorem d2_22 : decode jdk_33_method_22_code 22 = .ok (.areturn, 1) := by decide +kernel
theorem ef_2 (m : MethodId) (p0 : Int32) : entryFrame m #[(.int p0)] 1 = mkF m 0 #[.val (.int p0)] [] := by first | (simp [entryFrame, mkF, argsToLocals, Value.category]; done) | rfl
def Q2 (Z : State) (p0 : Int32) (ca : Addr) (bx : Nat → Addr) (h0 : Heap) (n0 : Nat) (v : Option Value) (h : Heap) (L : List Loc) : Prop := ∃ b : Addr, v = some (.ref b) ∧ Fr n0 L ∧ Keep h0 h []
set_option maxRecDepth 65536 in
set_option maxHeartbeats 40000000 in
theorem rm2 (l : Launch) (Z : State) (a0 : Array Value) (hw : ∀ d ∈ tables_1, d.before a0 Z = true) (ws : List Jvm.Cond) (p0 : Int32) (ca : Addr) (bx : Nat → Addr) (h0 : Heap) (n0 : Nat) (Z0 : n0 ≤ h0.size) (S_H : Sta Z h0 "java/lang/Integer$IntegerCache" "high" "I" (.int (127 : Int32))) (S_C : Sta Z h0 "java/lang/Integer$IntegerCache" "cache" "[Ljava/lang/Integer;" (.ref ca)) (AC : own_Ary Z h0 ca (.object "java/lang/Integer") 256 (fun j => .ref (bx j))) :
    MetFree l (⟨"java/lang/Integer", "valueOf", "(I)Ljava/lang/Integer;"⟩ : MethodName) (head1 (Jvm.Cond.code (⟨"java/lang/Integer", "valueOf", "(I)Ljava/lang/Integer;"⟩ : MethodName) jdk_33_method_22_code 1 (some (.object "java/lang/Integer")) :: ws) ({ frames := 3, cells := 1, slots := 1, locals := 38 } : Room)) (fun a U => a = #[(.int p0)] ∧ Z.Warmed39 U.vm ∧ U.heap = h0) (fun _ _ _ _ _ => True) (fun _ U o U' => ∃ v L, o = .returned v ∧ Q2 Z p0 ca bx h0 n0 v U'.heap L ∧ FrameEnd U o U' L (({ frames := 3, cells := 1, slots := 1, locals := 38 } : Room)).cells (({ frames := 3, cells := 1, slots := 1, locals := 38 } : Room)).slots) := by
  refine MetFree.of_bodySF (plainFor_of_name pn_2) hisR ?_
  intro p e s m args below meth c s₁ Bd hml0 hP hK
  obtain ⟨rfl, hZ, hh⟩ := hP
  have hx := Bd.exec
  have hby := Bd.bytes
  have hml : c.maxLocals = 1 := hml0
  have hown : s.vm.findClass "java/lang/Integer" = some m.cls := findClass_of_methodNamed Bd.named
  have hnm := (name_of_methodNamed Bd.named Bd.method).1
  have hlk : meth.locks = false := Bd.notSynchronized
  have X0 : Stand p l e ({ frames := 3, cells := 1, slots := 1, locals := 38 } : Room) s m #[(.int p0)] below meth c s₁ [] 0 0 := Stand.of_body Bd
  have e0 : s₁.heap = h0 := by rw [← hh, Bd.state]; rfl
  have N0 := Fr.nil n0
  have hret := Bd.returns
  show own_Go p e below s (Q2 Z p0 ca bx h0 n0) _ _ (s₁.setTop (entryFrame m #[(.int p0)] 1))
  refine own_go (fun t k => castTop (ef_2 m p0) k) ?_
  show own_Go p e below s _ _ _ (s₁.setTop (mkF m 0 #[.val (.int p0)] []))
  refine own_go (fun t_ kt_ => XS.iloadN X0.here hx rfl (hb hby d2_0) rfl kt_) ?_
  show own_Go p e below s _ _ _ (s₁.setTop (mkF m 1 #[.val (.int p0)] [(.int p0)]))
  refine own_go (fun t_ kt_ => XS.bipush X0.here hx rfl (hb hby d2_1) kt_) ?_
  show own_Go p e below s _ _ _ (s₁.setTop (mkF m 3 #[.val (.int p0)] [(.int (-128 : Int32)), (.int p0)]))
  by_cases hc3 : p0 < (-128 : Int32)
  · skip
    have hi3 : p0.toInt < (-128) := Int32.lt_iff_toInt_lt.mp hc3
    refine own_go (fun t_ kt_ => XS.icmpYes X0.here hx rfl (pc0 := 3) (pc' := 23) rfl (hb hby d2_3) rfl (tlt hc3).1 (by decide) (by decide) kt_) ?_
    show own_Go p e below s _ _ _ (s₁.setTop (mkF m 23 #[.val (.int p0)] []))
    obtain ⟨T1, h1, X1, e1, E1, A1, D1, U1, st1⟩ := newO X0 hx hZ hown (hw _ (List.mem_of_getElem? (i := 23) rfl)) (hw _ (List.mem_of_getElem? (i := 24) rfl)) (hw _ (List.mem_of_getElem? (i := 17) rfl)) e0 (g := (mkF m 23 #[.val (.int p0)] [])) rfl (hb hby d2_23) (by decide) (by decide)
    obtain ⟨b1, g1⟩ : ∃ z, z = h0.size := ⟨_, rfl⟩
    rw [← g1] at A1 D1 U1 st1
    refine own_go (fun t_ kt_ => st1 _ kt_) ?_
    have gt_b1 : n0 ≤ b1 := Nat.le_trans Z0 (Nat.le_of_eq g1.symm)
    have sz_b1 : h0.size ≤ b1 := Nat.le_trans (Keep.refl h0 []).1 (Nat.le_of_eq g1.symm)
    have ZZ_1 : n0 ≤ h1.size := Nat.le_trans Z0 E1.1
    have K1 : Keep h0 h1 [] := (Keep.refl h0 []).ext E1
    have F_value_b1 : Fld Z h1 b1 "java/lang/Integer" "value" "I" (.int (0 : Int32)) := D1 (Or.inr (hw _ (List.mem_of_getElem? (i := 39) rfl))) (ty := .int) (by decide)
    show own_Go p e below s _ _ _ (T1.setTop (mkF m 26 #[.val (.int p0)] [(.ref b1)]))
    refine own_go (fun t_ kt_ => XS.dup X1.here hx rfl (hb hby d2_26) rfl rfl kt_) ?_
    show own_Go p e below s _ _ _ (T1.setTop (mkF m 27 #[.val (.int p0)] [(.ref b1), (.ref b1)]))
    refine own_go (fun t_ kt_ => XS.iloadN X1.here hx rfl (hb hby d2_27) rfl kt_) ?_
    show own_Go p e below s _ _ _ (T1.setTop (mkF m 28 #[.val (.int p0)] [(.int p0), (.ref b1), (.ref b1)]))
    obtain ⟨_, _, ⟨T2, L2, k2, n2⟩, -, X2, ⟨Lc2, hQ2, l2, y2, z2⟩, st2⟩ := X1.specialBack hx (y := (⟨"java/lang/Integer", "<init>", "(I)V"⟩ : MethodName)) rfl hown (mvT hZ (hw _ (List.mem_of_getElem? (i := 25) rfl))) (mvT hZ (hw _ (List.mem_of_getElem? (i := 26) rfl))) (mvT hZ (hw _ (List.mem_of_getElem? (i := 28) rfl))) (by decide) (backOf (W := 1) (rm3 l Z a0 hw [] (b1) (p0) h1 n0 ZZ_1 F_value_b1 A1 gt_b1) hZ (hw _ (List.mem_of_getElem? (i := 28) rfl)) (hw _ (List.mem_of_getElem? (i := 17) rfl)) (by decide) (by decide)) (g := (mkF m 28 #[.val (.int p0)] [(.int p0), (.ref b1), (.ref b1)])) rfl (by rw [hml]; rfl) (Steps.refl _) (a := b1) (argsL := [(.int p0)]) (rest := [(.ref b1)]) (lenOf pd_1 rfl) rfl (by show 2 * 0 + _ ≤ _; exact Nat.le_of_eq rfl) (hb hby d2_28) (fun _ _ => ⟨rfl, e1, (by decide : 1 + 0 ≤ _), (by decide : 1 + 0 ≤ _)⟩)
    dsimp only [Pt.U, Pt.locs, Pt.cells, Pt.slots] at X2 l2 y2 z2 st2 hQ2
    subst l2 y2 z2
    obtain ⟨rfl, Nq2, Kq2⟩ := hQ2
    have N2 := Fr.app N0 Nq2
    refine own_go (fun t_ kt_ => st2.trans kt_) ?_
    obtain ⟨lo2, X2g, N2g⟩ : ∃ lo, Stand p l e ({ frames := 3, cells := 1, slots := 1, locals := 38 } : Room) s m #[(.int p0)] below meth c T2 lo 1 1 ∧ Fr n0 lo := ⟨_, X2, N2⟩
    obtain ⟨h2, e2⟩ : ∃ z, T2.heap = z := ⟨_, rfl⟩
    rw [e2] at Kq2
    have ZZ_2 : n0 ≤ h2.size := Nat.le_trans ZZ_1 Kq2.1
    have E_b1_2 : Exa Z h2 b1 "java/lang/Integer" := A1.keep Kq2
    have K2 : Keep h0 h2 [] := K1.trans Kq2 (allS (Or.inr sz_b1) all0)
    show own_Go p e below s _ _ _ (T2.setTop (mkF m 31 #[.val (.int p0)] [(.ref b1)]))
    refine own_ret X2g (v := some (.ref b1)) (fun h => by rw [hret] at h; cases h) hlk ?_ (by decide) (by decide) (fun fs hr => X2g.areturnOut hx rfl hret rfl (hb hby d2_31) hr)
    show Q2 Z p0 ca bx h0 n0 (some (.ref b1)) T2.heap _
    rw [e2]
    exact ⟨_, rfl, N2g, K2⟩
  · skip
    have hi3 : ¬ p0.toInt < (-128) := fun q => hc3 (Int32.lt_iff_toInt_lt.mpr q)
    refine own_go (fun t_ kt_ => XS.icmpNo X0.here hx rfl (hb hby d2_3) rfl (flt hc3).1 kt_) ?_
    show own_Go p e below s _ _ _ (s₁.setTop (mkF m 6 #[.val (.int p0)] []))
    refine own_go (fun t_ kt_ => XS.iloadN X0.here hx rfl (hb hby d2_6) rfl kt_) ?_
    show own_Go p e below s _ _ _ (s₁.setTop (mkF m 7 #[.val (.int p0)] [(.int p0)]))
    obtain ⟨T3, X3, e3, st3⟩ := getS2 X0 hx hZ hown (host := "") (Or.inl (hw _ (List.mem_of_getElem? (i := 19) rfl))) Via.refl e0 S_H (g := (mkF m 7 #[.val (.int p0)] [(.int p0)])) rfl (hb hby d2_7)
    refine own_go (fun t_ kt_ => st3 _ kt_) ?_
    show own_Go p e below s _ _ _ (T3.setTop (mkF m 10 #[.val (.int p0)] [(.int (127 : Int32)), (.int p0)]))
    by_cases hc10 : (127 : Int32) < p0
    · skip
      have hi10 : 127 < p0.toInt := Int32.lt_iff_toInt_lt.mp hc10
      refine own_go (fun t_ kt_ => XS.icmpYes X3.here hx rfl (pc0 := 10) (pc' := 23) rfl (hb hby d2_10) rfl (tlt hc10).2.2.1 (by decide) (by decide) kt_) ?_
      show own_Go p e below s _ _ _ (T3.setTop (mkF m 23 #[.val (.int p0)] []))
      obtain ⟨T4, h4, X4, e4, E4, A4, D4, U4, st4⟩ := newO X3 hx hZ hown (hw _ (List.mem_of_getElem? (i := 23) rfl)) (hw _ (List.mem_of_getElem? (i := 24) rfl)) (hw _ (List.mem_of_getElem? (i := 17) rfl)) e3 (g := (mkF m 23 #[.val (.int p0)] [])) rfl (hb hby d2_23) (by decide) (by decide)
      obtain ⟨b4, g4⟩ : ∃ z, z = h0.size := ⟨_, rfl⟩
      rw [← g4] at A4 D4 U4 st4
      refine own_go (fun t_ kt_ => st4 _ kt_) ?_
      have gt_b4 : n0 ≤ b4 := Nat.le_trans Z0 (Nat.le_of_eq g4.symm)
      have sz_b4 : h0.size ≤ b4 := Nat.le_trans (Keep.refl h0 []).1 (Nat.le_of_eq g4.symm)
      have ZZ_4 : n0 ≤ h4.size := Nat.le_trans Z0 E4.1
      have K4 : Keep h0 h4 [] := (Keep.refl h0 []).ext E4
      have F_value_b4 : Fld Z h4 b4 "java/lang/Integer" "value" "I" (.int (0 : Int32)) := D4 (Or.inr (hw _ (List.mem_of_getElem? (i := 39) rfl))) (ty := .int) (by decide)
      show own_Go p e below s _ _ _ (T4.setTop (mkF m 26 #[.val (.int p0)] [(.ref b4)]))
      refine own_go (fun t_ kt_ => XS.dup X4.here hx rfl (hb hby d2_26) rfl rfl kt_) ?_
      show own_Go p e below s _ _ _ (T4.setTop (mkF m 27 #[.val (.int p0)] [(.ref b4), (.ref b4)]))
      refine own_go (fun t_ kt_ => XS.iloadN X4.here hx rfl (hb hby d2_27) rfl kt_) ?_
      show own_Go p e below s _ _ _ (T4.setTop (mkF m 28 #[.val (.int p0)] [(.int p0), (.ref b4), (.ref b4)]))
      obtain ⟨_, _, ⟨T5, L5, k5, n5⟩, -, X5, ⟨Lc5, hQ5, l5, y5, z5⟩, st5⟩ := X4.specialBack hx (y := (⟨"java/lang/Integer", "<init>", "(I)V"⟩ : MethodName)) rfl hown (mvT hZ (hw _ (List.mem_of_getElem? (i := 25) rfl))) (mvT hZ (hw _ (List.mem_of_getElem? (i := 26) rfl))) (mvT hZ (hw _ (List.mem_of_getElem? (i := 28) rfl))) (by decide) (backOf (W := 1) (rm3 l Z a0 hw [] (b4) (p0) h4 n0 ZZ_4 F_value_b4 A4 gt_b4) hZ (hw _ (List.mem_of_getElem? (i := 28) rfl)) (hw _ (List.mem_of_getElem? (i := 17) rfl)) (by decide) (by decide)) (g := (mkF m 28 #[.val (.int p0)] [(.int p0), (.ref b4), (.ref b4)])) rfl (by rw [hml]; rfl) (Steps.refl _) (a := b4) (argsL := [(.int p0)]) (rest := [(.ref b4)]) (lenOf pd_1 rfl) rfl (by show 2 * 0 + _ ≤ _; exact Nat.le_of_eq rfl) (hb hby d2_28) (fun _ _ => ⟨rfl, e4, (by decide : 1 + 0 ≤ _), (by decide : 1 + 0 ≤ _)⟩)
      dsimp only [Pt.U, Pt.locs, Pt.cells, Pt.slots] at X5 l5 y5 z5 st5 hQ5
      subst l5 y5 z5
      obtain ⟨rfl, Nq5, Kq5⟩ := hQ5
      have N5 := Fr.app N0 Nq5
      refine own_go (fun t_ kt_ => st5.trans kt_) ?_
      obtain ⟨lo5, X5g, N5g⟩ : ∃ lo, Stand p l e ({ frames := 3, cells := 1, slots := 1, locals := 38 } : Room) s m #[(.int p0)] below meth c T5 lo 1 1 ∧ Fr n0 lo := ⟨_, X5, N5⟩
      obtain ⟨h5, e5⟩ : ∃ z, T5.heap = z := ⟨_, rfl⟩
      rw [e5] at Kq5
      have ZZ_5 : n0 ≤ h5.size := Nat.le_trans ZZ_4 Kq5.1
      have E_b4_5 : Exa Z h5 b4 "java/lang/Integer" := A4.keep Kq5
      have K5 : Keep h0 h5 [] := K4.trans Kq5 (allS (Or.inr sz_b4) all0)
      show own_Go p e below s _ _ _ (T5.setTop (mkF m 31 #[.val (.int p0)] [(.ref b4)]))
      refine own_ret X5g (v := some (.ref b4)) (fun h => by rw [hret] at h; cases h) hlk ?_ (by decide) (by decide) (fun fs hr => X5g.areturnOut hx rfl hret rfl (hb hby d2_31) hr)
      show Q2 Z p0 ca bx h0 n0 (some (.ref b4)) T5.heap _
      rw [e5]
      exact ⟨_, rfl, N5g, K5⟩
    · skip
      have hi10 : ¬ 127 < p0.toInt := fun q => hc10 (Int32.lt_iff_toInt_lt.mpr q)
      refine own_go (fun t_ kt_ => XS.icmpNo X3.here hx rfl (hb hby d2_10) rfl (flt hc10).2.2.1 kt_) ?_
      show own_Go p e below s _ _ _ (T3.setTop (mkF m 13 #[.val (.int p0)] []))
      obtain ⟨T6, X6, e6, st6⟩ := getS2 X3 hx hZ hown (host := "") (Or.inl (hw _ (List.mem_of_getElem? (i := 21) rfl))) Via.refl e3 S_C (g := (mkF m 13 #[.val (.int p0)] [])) rfl (hb hby d2_13)
      refine own_go (fun t_ kt_ => st6 _ kt_) ?_
      show own_Go p e below s _ _ _ (T6.setTop (mkF m 16 #[.val (.int p0)] [(.ref ca)]))
      refine own_go (fun t_ kt_ => XS.iloadN X6.here hx rfl (hb hby d2_16) rfl kt_) ?_
      show own_Go p e below s _ _ _ (T6.setTop (mkF m 17 #[.val (.int p0)] [(.int p0), (.ref ca)]))
      refine own_go (fun t_ kt_ => XS.sipush X6.here hx rfl (hb hby d2_17) kt_) ?_
      show own_Go p e below s _ _ _ (T6.setTop (mkF m 20 #[.val (.int p0)] [(.int (128 : Int32)), (.int p0), (.ref ca)]))
      refine own_go (fun t_ kt_ => XS.iadd X6.here hx rfl (hb hby d2_20) rfl kt_) ?_
      show own_Go p e below s _ _ _ (T6.setTop (mkF m 21 #[.val (.int p0)] [(.int (p0 + (128 : Int32))), (.ref ca)]))
      have hix : (p0 + (128 : Int32)).toInt = (((p0.toInt + 128).toNat : Nat) : Int) := by
        have h1 := c_iadd p0 128
        have h2 : (128 : Int32).toInt = 128 := by decide
        have h3 := rng32 (p0 + 128)
        rw [h2] at h1
        omega
      obtain ⟨ce7, Ar7, S7, G7⟩ := id AC
      have q7 : ce7.slots[((p0 + (128 : Int32))).toNatClampNeg]? = some (.ref (bx ((p0.toInt + 128).toNat))) := by rw [own_cl (j := (p0 + (128 : Int32))) (i := ((p0.toInt + 128).toNat)) hix]; exact (G7 _ (by omega)).trans (congrArg some (rfl))
      refine own_go (fun t_ kt_ => X6.aaload hx (j := (p0 + (128 : Int32))) (v := (.ref (bx ((p0.toInt + 128).toNat)))) (by rw [e6]; exact Ar7.1) (State.isArrayOf_alike hZ.alike Ar7.2.1) rfl Ar7.2.2 (own_in (i := ((p0.toInt + 128).toNat)) S7 hix (by omega)) q7 (g := (mkF m 21 #[.val (.int p0)] [(.int (p0 + (128 : Int32))), (.ref ca)])) rfl rfl (hb hby d2_21) _ kt_) ?_
      show own_Go p e below s _ _ _ (T6.setTop (mkF m 22 #[.val (.int p0)] [(.ref (bx ((p0.toInt + 128).toNat)))]))
      refine own_ret X6 (v := some (.ref (bx ((p0.toInt + 128).toNat)))) (fun h => by rw [hret] at h; cases h) hlk ?_ (by decide) (by decide) (fun fs hr => X6.areturnOut hx rfl hret rfl (hb hby d2_22) hr)
      show Q2 Z p0 ca bx h0 n0 (some (.ref (bx ((p0.toInt + 128).toNat)))) T6.heap _
      rw [e6]
      exact ⟨_, rfl, N0, Keep.refl _ _⟩
theorem own_7 (x : Int32) : ¬ (x &&& (7 : Int32)) < 0 ∧ (x &&& (7 : Int32)).toNatClampNeg ≤ 7 := by
  have h1 := c_mask x 7 3 (by decide) (by decide)
  have h0 : (0 : Int32).toInt = 0 := by decide
  refine ⟨fun q => ?_, ?_⟩
  · have := Int32.lt_iff_toInt_lt.mp q; omega
  · show (x &&& (7 : Int32)).toInt.toNat ≤ 7; omega
theorem pn_3 : plainName "com/example/evenkeel/evenkeel/ConditionHoldsForPinLaw" = true := by first | (simp [plainName, overriddenIn]; done) | decide +kernel
theorem pd_2 : parseMethodDescriptor "(Ljava/lang/Object;)Z" = some ⟨[(.object "java/lang/Object")], some .boolean⟩ := by decide +kernel
theorem pd_3 : parseMethodDescriptor "(I)Ljava/lang/Integer;" = some ⟨[.int], some (.object "java/lang/Integer")⟩ := by decide +kernel
theorem ef_0 (m : MethodId) (p0 : Int32) (p1 : Int32) (p2 : Int32) : entryFrame m #[(.int p0), (.int p1), (.int p2)] maxLocals = mkF m 0 #[.val (.int p0), .val (.int p1), .val (.int p2), .unset, .unset, .unset, .unset, .unset] [] := by first | (simp [entryFrame, mkF, argsToLocals, Value.category, maxLocals]; done) | rfl
def Q0 (Z : State) (p0 : Int32) (p1 : Int32) (p2 : Int32) (ad_ALWAYS : Addr) (ad_MISSING : Addr) (ad_PRESENT : Addr) (ca : Addr) (bx : Nat → Addr) (h0 : Heap) (n0 : Nat) (v : Option Value) (h : Heap) (L : List Loc) : Prop := v = some (.int 1) ∧ Fr n0 L
set_option maxRecDepth 65536 in
set_option maxHeartbeats 40000000 in
theorem rm0 (l : Launch) (Z : State) (a0 : Array Value) (hw : ∀ d ∈ tables_1, d.before a0 Z = true) (ws : List Jvm.Cond) (p0 : Int32) (p1 : Int32) (p2 : Int32) (ad_ALWAYS : Addr) (ad_MISSING : Addr) (ad_PRESENT : Addr) (ca : Addr) (bx : Nat → Addr) (h0 : Heap) (n0 : Nat) (Z0 : n0 ≤ h0.size) (S_ALWAYS : Sta Z h0 "com/example/evenkeel/evenkeel/Write$Condition" "ALWAYS" "Lcom/example/evenkeel/evenkeel/Write$Condition;" (.ref ad_ALWAYS)) (E_ALWAYS : Exa Z h0 ad_ALWAYS "com/example/evenkeel/evenkeel/Write$Condition") (S_MISSING : Sta Z h0 "com/example/evenkeel/evenkeel/Write$Condition" "MISSING" "Lcom/example/evenkeel/evenkeel/Write$Condition;" (.ref ad_MISSING)) (E_MISSING : Exa Z h0 ad_MISSING "com/example/evenkeel/evenkeel/Write$Condition") (S_PRESENT : Sta Z h0 "com/example/evenkeel/evenkeel/Write$Condition" "PRESENT" "Lcom/example/evenkeel/evenkeel/Write$Condition;" (.ref ad_PRESENT)) (E_PRESENT : Exa Z h0 ad_PRESENT "com/example/evenkeel/evenkeel/Write$Condition") (ne_MA : ad_MISSING ≠ ad_ALWAYS) (ne_PA : ad_PRESENT ≠ ad_ALWAYS) (ne_PM : ad_PRESENT ≠ ad_MISSING) (S_H : Sta Z h0 "java/lang/Integer$IntegerCache" "high" "I" (.int (127 : Int32))) (S_C : Sta Z h0 "java/lang/Integer$IntegerCache" "cache" "[Ljava/lang/Integer;" (.ref ca)) (AC : own_Ary Z h0 ca (.object "java/lang/Integer") 256 (fun j => .ref (bx j))) :
    MetFree l x (head1 (Jvm.Cond.code x code maxLocals ret :: ws) room_1) (fun a U => a = #[(.int p0), (.int p1), (.int p2)] ∧ Z.Warmed39 U.vm ∧ U.heap = h0) (fun _ _ _ _ _ => True) (fun _ U o U' => ∃ v L, o = .returned v ∧ Q0 Z p0 p1 p2 ad_ALWAYS ad_MISSING ad_PRESENT ca bx h0 n0 v U'.heap L ∧ FrameEnd U o U' L (room_1).cells (room_1).slots) := by
  refine MetFree.of_bodySF (plainFor_of_name pn_3) hisR ?_
  intro p e s m args below meth c s₁ Bd hml0 hP hK
  obtain ⟨rfl, hZ, hh⟩ := hP
  have hx := Bd.exec
  have hby := Bd.bytes
  have hml : c.maxLocals = 8 := hml0
  have hown : s.vm.findClass "com/example/evenkeel/evenkeel/ConditionHoldsForPinLaw" = some m.cls := findClass_of_methodNamed Bd.named
  have hnm := (name_of_methodNamed Bd.named Bd.method).1
  have hlk : meth.locks = false := Bd.notSynchronized
  have X0 : Stand p l e room_1 s m #[(.int p0), (.int p1), (.int p2)] below meth c s₁ [] 0 0 := Stand.of_body Bd
  have e0 : s₁.heap = h0 := by rw [← hh, Bd.state]; rfl
  have N0 := Fr.nil n0
  have hret := Bd.returns
  show own_Go p e below s (Q0 Z p0 p1 p2 ad_ALWAYS ad_MISSING ad_PRESENT ca bx h0 n0) _ _ (s₁.setTop (entryFrame m #[(.int p0), (.int p1), (.int p2)] maxLocals))
  refine own_go (fun t k => castTop (ef_0 m p0 p1 p2) k) ?_
  show own_Go p e below s _ _ _ (s₁.setTop (mkF m 0 #[.val (.int p0), .val (.int p1), .val (.int p2), .unset, .unset, .unset, .unset, .unset] []))
  refine own_go (fun t_ kt_ => XS.iloadN X0.here hx rfl (hb hby at_0) rfl kt_) ?_
  show own_Go p e below s _ _ _ (s₁.setTop (mkF m 1 #[.val (.int p0), .val (.int p1), .val (.int p2), .unset, .unset, .unset, .unset, .unset] [(.int p0)]))
  refine own_go (fun t_ kt_ => X0.ldcInt hx hown (mvT hZ (hw _ (List.mem_of_getElem? (i := 0) rfl))) (g := (mkF m 1 #[.val (.int p0), .val (.int p1), .val (.int p2), .unset, .unset, .unset, .unset, .unset] [(.int p0)])) rfl (hb hby at_1) _ kt_) ?_
  show own_Go p e below s _ _ _ (s₁.setTop (mkF m 3 #[.val (.int p0), .val (.int p1), .val (.int p2), .unset, .unset, .unset, .unset, .unset] [(.int (2147483647 : Int32)), (.int p0)]))
  refine own_go (fun t_ kt_ => XS.iand X0.here hx rfl (hb hby at_3) rfl kt_) ?_
  show own_Go p e below s _ _ _ (s₁.setTop (mkF m 4 #[.val (.int p0), .val (.int p1), .val (.int p2), .unset, .unset, .unset, .unset, .unset] [(.int (p0 &&& (2147483647 : Int32)))]))
  refine own_go (fun t_ kt_ => XS.iconst X0.here hx rfl (hb hby at_4) kt_) ?_
  show own_Go p e below s _ _ _ (s₁.setTop (mkF m 5 #[.val (.int p0), .val (.int p1), .val (.int p2), .unset, .unset, .unset, .unset, .unset] [(.int (3 : Int32)), (.int (p0 &&& (2147483647 : Int32)))]))
  refine own_go (fun t_ kt_ => iremM X0 hx rfl (hb hby at_5) rfl (by decide) kt_) ?_
  show own_Go p e below s _ _ _ (s₁.setTop (mkF m 6 #[.val (.int p0), .val (.int p1), .val (.int p2), .unset, .unset, .unset, .unset, .unset] [(.int ((p0 &&& (2147483647 : Int32)) % (3 : Int32)))]))
  refine own_go (fun t_ kt_ => XS.istoreN X0.here hx rfl (hb hby at_6) rfl (l' := #[.val (.int p0), .val (.int p1), .val (.int p2), .val (.int ((p0 &&& (2147483647 : Int32)) % (3 : Int32))), .unset, .unset, .unset, .unset]) rfl kt_) ?_
  show own_Go p e below s _ _ _ (s₁.setTop (mkF m 7 #[.val (.int p0), .val (.int p1), .val (.int p2), .val (.int ((p0 &&& (2147483647 : Int32)) % (3 : Int32))), .unset, .unset, .unset, .unset] []))
  obtain ⟨wv, hwv⟩ : ∃ z, z = ((p0 &&& (2147483647 : Int32)) % (3 : Int32)) := ⟨_, rfl⟩
  rw [← hwv]
  show own_Go p e below s _ _ _ (s₁.setTop (mkF m 7 #[.val (.int p0), .val (.int p1), .val (.int p2), .val (.int wv), .unset, .unset, .unset, .unset] []))
  refine own_go (fun t_ kt_ => XS.iloadN X0.here hx rfl (hb hby at_7) rfl kt_) ?_
  show own_Go p e below s _ _ _ (s₁.setTop (mkF m 8 #[.val (.int p0), .val (.int p1), .val (.int p2), .val (.int wv), .unset, .unset, .unset, .unset] [(.int wv)]))
  by_cases hc8 : wv = (0 : Int32)
  · skip
    have hi8 : wv.toInt = 0 := congrArg Int32.toInt hc8
    refine own_go (fun t_ kt_ => XS.ifNo X0.here hx rfl (hb hby at_8) rfl ((if0 _ _).trans (teq hc8).2) kt_) ?_
    show own_Go p e below s _ _ _ (s₁.setTop (mkF m 11 #[.val (.int p0), .val (.int p1), .val (.int p2), .val (.int wv), .unset, .unset, .unset, .unset] []))
    obtain ⟨T1, X1, e1, st1⟩ := getS2 X0 hx hZ hown (host := "") (Or.inl (hw _ (List.mem_of_getElem? (i := 1) rfl))) Via.refl e0 S_ALWAYS (g := (mkF m 11 #[.val (.int p0), .val (.int p1), .val (.int p2), .val (.int wv), .unset, .unset, .unset, .unset] [])) rfl (hb hby at_11)
    refine own_go (fun t_ kt_ => st1 _ kt_) ?_
    show own_Go p e below s _ _ _ (T1.setTop (mkF m 14 #[.val (.int p0), .val (.int p1), .val (.int p2), .val (.int wv), .unset, .unset, .unset, .unset] [(.ref ad_ALWAYS)]))
    refine own_go (fun t_ kt_ => XS.astore X1.here hx rfl (hb hby at_14) rfl rfl (l' := #[.val (.int p0), .val (.int p1), .val (.int p2), .val (.int wv), .val (.ref ad_ALWAYS), .unset, .unset, .unset]) rfl kt_) ?_
    show own_Go p e below s _ _ _ (T1.setTop (mkF m 16 #[.val (.int p0), .val (.int p1), .val (.int p2), .val (.int wv), .val (.ref ad_ALWAYS), .unset, .unset, .unset] []))
    refine own_go (fun t_ kt_ => XS.goto X1.here hx rfl (pc0 := 16) (pc' := 37) rfl (hb hby at_16) (by decide) (by decide) kt_) ?_
    show own_Go p e below s _ _ _ (T1.setTop (mkF m 37 #[.val (.int p0), .val (.int p1), .val (.int p2), .val (.int wv), .val (.ref ad_ALWAYS), .unset, .unset, .unset] []))
    refine own_go (fun t_ kt_ => XS.iloadN X1.here hx rfl (hb hby at_37) rfl kt_) ?_
    show own_Go p e below s _ _ _ (T1.setTop (mkF m 38 #[.val (.int p0), .val (.int p1), .val (.int p2), .val (.int wv), .val (.ref ad_ALWAYS), .unset, .unset, .unset] [(.int p1)]))
    refine own_go (fun t_ kt_ => X1.ldcInt hx hown (mvT hZ (hw _ (List.mem_of_getElem? (i := 0) rfl))) (g := (mkF m 38 #[.val (.int p0), .val (.int p1), .val (.int p2), .val (.int wv), .val (.ref ad_ALWAYS), .unset, .unset, .unset] [(.int p1)])) rfl (hb hby at_38) _ kt_) ?_
    show own_Go p e below s _ _ _ (T1.setTop (mkF m 40 #[.val (.int p0), .val (.int p1), .val (.int p2), .val (.int wv), .val (.ref ad_ALWAYS), .unset, .unset, .unset] [(.int (2147483647 : Int32)), (.int p1)]))
    refine own_go (fun t_ kt_ => XS.iand X1.here hx rfl (hb hby at_40) rfl kt_) ?_
    show own_Go p e below s _ _ _ (T1.setTop (mkF m 41 #[.val (.int p0), .val (.int p1), .val (.int p2), .val (.int wv), .val (.ref ad_ALWAYS), .unset, .unset, .unset] [(.int (p1 &&& (2147483647 : Int32)))]))
    refine own_go (fun t_ kt_ => XS.iconst X1.here hx rfl (hb hby at_41) kt_) ?_
    show own_Go p e below s _ _ _ (T1.setTop (mkF m 42 #[.val (.int p0), .val (.int p1), .val (.int p2), .val (.int wv), .val (.ref ad_ALWAYS), .unset, .unset, .unset] [(.int (3 : Int32)), (.int (p1 &&& (2147483647 : Int32)))]))
    refine own_go (fun t_ kt_ => iremM X1 hx rfl (hb hby at_42) rfl (by decide) kt_) ?_
    show own_Go p e below s _ _ _ (T1.setTop (mkF m 43 #[.val (.int p0), .val (.int p1), .val (.int p2), .val (.int wv), .val (.ref ad_ALWAYS), .unset, .unset, .unset] [(.int ((p1 &&& (2147483647 : Int32)) % (3 : Int32)))]))
    refine own_go (fun t_ kt_ => XS.istore X1.here hx rfl (hb hby at_43) rfl (l' := #[.val (.int p0), .val (.int p1), .val (.int p2), .val (.int wv), .val (.ref ad_ALWAYS), .val (.int ((p1 &&& (2147483647 : Int32)) % (3 : Int32))), .unset, .unset]) rfl kt_) ?_
    show own_Go p e below s _ _ _ (T1.setTop (mkF m 45 #[.val (.int p0), .val (.int p1), .val (.int p2), .val (.int wv), .val (.ref ad_ALWAYS), .val (.int ((p1 &&& (2147483647 : Int32)) % (3 : Int32))), .unset, .unset] []))
    obtain ⟨kv, hkv⟩ : ∃ z, z = ((p1 &&& (2147483647 : Int32)) % (3 : Int32)) := ⟨_, rfl⟩
    rw [← hkv]
    show own_Go p e below s _ _ _ (T1.setTop (mkF m 45 #[.val (.int p0), .val (.int p1), .val (.int p2), .val (.int wv), .val (.ref ad_ALWAYS), .val (.int kv), .unset, .unset] []))
    refine own_go (fun t_ kt_ => XS.iload X1.here hx rfl (hb hby at_45) rfl kt_) ?_
    show own_Go p e below s _ _ _ (T1.setTop (mkF m 47 #[.val (.int p0), .val (.int p1), .val (.int p2), .val (.int wv), .val (.ref ad_ALWAYS), .val (.int kv), .unset, .unset] [(.int kv)]))
    by_cases hc47 : kv = (0 : Int32)
    · skip
      have hi47 : kv.toInt = 0 := congrArg Int32.toInt hc47
      refine own_go (fun t_ kt_ => XS.ifNo X1.here hx rfl (hb hby at_47) rfl ((if0 _ _).trans (teq hc47).2) kt_) ?_
      show own_Go p e below s _ _ _ (T1.setTop (mkF m 50 #[.val (.int p0), .val (.int p1), .val (.int p2), .val (.int wv), .val (.ref ad_ALWAYS), .val (.int kv), .unset, .unset] []))
      refine own_go (fun t_ kt_ => XS.aconstNull X1.here hx rfl (hb hby at_50) kt_) ?_
      show own_Go p e below s _ _ _ (T1.setTop (mkF m 51 #[.val (.int p0), .val (.int p1), .val (.int p2), .val (.int wv), .val (.ref ad_ALWAYS), .val (.int kv), .unset, .unset] [.null]))
      refine own_go (fun t_ kt_ => XS.astore X1.here hx rfl (hb hby at_51) rfl rfl (l' := #[.val (.int p0), .val (.int p1), .val (.int p2), .val (.int wv), .val (.ref ad_ALWAYS), .val (.int kv), .val .null, .unset]) rfl kt_) ?_
      show own_Go p e below s _ _ _ (T1.setTop (mkF m 53 #[.val (.int p0), .val (.int p1), .val (.int p2), .val (.int wv), .val (.ref ad_ALWAYS), .val (.int kv), .val .null, .unset] []))
      refine own_go (fun t_ kt_ => XS.goto X1.here hx rfl (pc0 := 53) (pc' := 79) rfl (hb hby at_53) (by decide) (by decide) kt_) ?_
      show own_Go p e below s _ _ _ (T1.setTop (mkF m 79 #[.val (.int p0), .val (.int p1), .val (.int p2), .val (.int wv), .val (.ref ad_ALWAYS), .val (.int kv), .val .null, .unset] []))
      refine own_go (fun t_ kt_ => XS.iloadN X1.here hx rfl (hb hby at_79) rfl kt_) ?_
      show own_Go p e below s _ _ _ (T1.setTop (mkF m 80 #[.val (.int p0), .val (.int p1), .val (.int p2), .val (.int wv), .val (.ref ad_ALWAYS), .val (.int kv), .val .null, .unset] [(.int wv)]))
      refine own_go (fun t_ kt_ => XS.ifNo X1.here hx rfl (hb hby at_80) rfl ((if0 _ _).trans (teq hc8).2) kt_) ?_
      show own_Go p e below s _ _ _ (T1.setTop (mkF m 83 #[.val (.int p0), .val (.int p1), .val (.int p2), .val (.int wv), .val (.ref ad_ALWAYS), .val (.int kv), .val .null, .unset] []))
      refine own_go (fun t_ kt_ => XS.iconst X1.here hx rfl (hb hby at_83) kt_) ?_
      show own_Go p e below s _ _ _ (T1.setTop (mkF m 84 #[.val (.int p0), .val (.int p1), .val (.int p2), .val (.int wv), .val (.ref ad_ALWAYS), .val (.int kv), .val .null, .unset] [(.int (1 : Int32))]))
      refine own_go (fun t_ kt_ => XS.istore X1.here hx rfl (hb hby at_84) rfl (l' := #[.val (.int p0), .val (.int p1), .val (.int p2), .val (.int wv), .val (.ref ad_ALWAYS), .val (.int kv), .val .null, .val (.int (1 : Int32))]) rfl kt_) ?_
      show own_Go p e below s _ _ _ (T1.setTop (mkF m 86 #[.val (.int p0), .val (.int p1), .val (.int p2), .val (.int wv), .val (.ref ad_ALWAYS), .val (.int kv), .val .null, .val (.int (1 : Int32))] []))
      refine own_go (fun t_ kt_ => XS.goto X1.here hx rfl (pc0 := 86) (pc' := 121) rfl (hb hby at_86) (by decide) (by decide) kt_) ?_
      show own_Go p e below s _ _ _ (T1.setTop (mkF m 121 #[.val (.int p0), .val (.int p1), .val (.int p2), .val (.int wv), .val (.ref ad_ALWAYS), .val (.int kv), .val .null, .val (.int (1 : Int32))] []))
      refine own_go (fun t_ kt_ => XS.aload X1.here hx rfl (hb hby at_121) rfl rfl kt_) ?_
      show own_Go p e below s _ _ _ (T1.setTop (mkF m 123 #[.val (.int p0), .val (.int p1), .val (.int p2), .val (.int wv), .val (.ref ad_ALWAYS), .val (.int kv), .val .null, .val (.int (1 : Int32))] [(.ref ad_ALWAYS)]))
      refine own_go (fun t_ kt_ => XS.aload X1.here hx rfl (hb hby at_123) rfl rfl kt_) ?_
      show own_Go p e below s _ _ _ (T1.setTop (mkF m 125 #[.val (.int p0), .val (.int p1), .val (.int p2), .val (.int wv), .val (.ref ad_ALWAYS), .val (.int kv), .val .null, .val (.int (1 : Int32))] [.null, (.ref ad_ALWAYS)]))
      obtain ⟨cq2, kq2, q2a, q2b, q2c⟩ := isOf hZ e1 E_ALWAYS
      obtain ⟨_, _, ⟨T2, L2, k2, n2⟩, -, X2, ⟨Lc2, hQ2, l2, y2, z2⟩, st2⟩ := X1.virtualBack hx (y := (⟨"com/example/evenkeel/evenkeel/Write$Condition", "holdsFor", "(Ljava/lang/Object;)Z"⟩ : MethodName)) (z := (⟨"com/example/evenkeel/evenkeel/Write$Condition", "holdsFor", "(Ljava/lang/Object;)Z"⟩ : MethodName)) hown (mvT hZ (hw _ (List.mem_of_getElem? (i := 4) rfl))) (mvT hZ (hw _ (List.mem_of_getElem? (i := 5) rfl))) (notFace_of_selects (args := #[]) (mvT hZ (hw _ (List.mem_of_getElem? (i := 7) rfl)))) (mvT hZ (hw _ (List.mem_of_getElem? (i := 7) rfl))) (mvT hZ (hw _ (List.mem_of_getElem? (i := 6) rfl))) (by decide) (backOf (W := 0) (rm1n l Z a0 hw [] (ad_ALWAYS) (ad_ALWAYS) (ad_MISSING) h0 n0 Z0 S_ALWAYS S_MISSING) hZ (hw _ (List.mem_of_getElem? (i := 8) rfl)) (hw _ (List.mem_of_getElem? (i := 2) rfl)) (by decide) (by decide)) q2a q2c (g := (mkF m 125 #[.val (.int p0), .val (.int p1), .val (.int p2), .val (.int wv), .val (.ref ad_ALWAYS), .val (.int kv), .val .null, .val (.int (1 : Int32))] [.null, (.ref ad_ALWAYS)])) rfl (by rw [hml]; rfl) (Steps.refl _) (argsL := [.null]) (rest := []) (lenOf pd_2 rfl) rfl (by show 2 * 0 + _ ≤ _; exact Nat.le_of_eq rfl) (hb hby at_125) (fun _ _ => ⟨rfl, e1, (by decide : 0 + 0 ≤ _), (by decide : 0 + 0 ≤ _)⟩)
      dsimp only [Pt.U, Pt.locs, Pt.cells, Pt.slots] at X2 l2 y2 z2 st2 hQ2
      subst l2 y2 z2
      obtain ⟨hv2, Nq2, eh2⟩ := hQ2
      rw [show (own_hf ad_ALWAYS ad_ALWAYS ad_MISSING true) = (1 : Int32) from by unfold own_hf; simp [ne_MA, ne_PA, ne_PM]] at hv2
      subst hv2
      have N2 := Fr.app N0 Nq2
      refine own_go (fun t_ kt_ => st2.trans kt_) ?_
      obtain ⟨lo2, X2g, N2g⟩ : ∃ lo, Stand p l e room_1 s m #[(.int p0), (.int p1), (.int p2)] below meth c T2 lo 0 0 ∧ Fr n0 lo := ⟨_, X2, N2⟩
      have e2 : T2.heap = h0 := eh2
      show own_Go p e below s _ _ _ (T2.setTop (mkF m 128 #[.val (.int p0), .val (.int p1), .val (.int p2), .val (.int wv), .val (.ref ad_ALWAYS), .val (.int kv), .val .null, .val (.int (1 : Int32))] [(.int (1 : Int32))]))
      refine own_go (fun t_ kt_ => XS.iload X2g.here hx rfl (hb hby at_128) rfl kt_) ?_
      show own_Go p e below s _ _ _ (T2.setTop (mkF m 130 #[.val (.int p0), .val (.int p1), .val (.int p2), .val (.int wv), .val (.ref ad_ALWAYS), .val (.int kv), .val .null, .val (.int (1 : Int32))] [(.int (1 : Int32)), (.int (1 : Int32))]))
      refine own_go (fun t_ kt_ => XS.icmpNo X2g.here hx rfl (hb hby at_130) rfl (teq (by decide)).2 kt_) ?_
      show own_Go p e below s _ _ _ (T2.setTop (mkF m 133 #[.val (.int p0), .val (.int p1), .val (.int p2), .val (.int wv), .val (.ref ad_ALWAYS), .val (.int kv), .val .null, .val (.int (1 : Int32))] []))
      refine own_go (fun t_ kt_ => XS.iconst X2g.here hx rfl (hb hby at_133) kt_) ?_
      show own_Go p e below s _ _ _ (T2.setTop (mkF m 134 #[.val (.int p0), .val (.int p1), .val (.int p2), .val (.int wv), .val (.ref ad_ALWAYS), .val (.int kv), .val .null, .val (.int (1 : Int32))] [(.int (1 : Int32))]))
      refine own_go (fun t_ kt_ => XS.goto X2g.here hx rfl (pc0 := 134) (pc' := 138) rfl (hb hby at_134) (by decide) (by decide) kt_) ?_
      show own_Go p e below s _ _ _ (T2.setTop (mkF m 138 #[.val (.int p0), .val (.int p1), .val (.int p2), .val (.int wv), .val (.ref ad_ALWAYS), .val (.int kv), .val .null, .val (.int (1 : Int32))] [(.int (1 : Int32))]))
      refine own_ret X2g (v := some (.int (1 : Int32))) (fun h => by rw [hret] at h; cases h) hlk ?_ (by decide) (by decide) (fun fs hr => retN X2g hx (t := .boolean) hret (by simp) (hb hby at_138) hr)
      show Q0 Z p0 p1 p2 ad_ALWAYS ad_MISSING ad_PRESENT ca bx h0 n0 (some (.int (1 : Int32))) T2.heap _
      rw [e2]
      exact ⟨rfl, N2g⟩
    · skip
      have hi47 : ¬ kv.toInt = 0 := fun q => hc47 (Int32.toInt_inj.mp q)
      refine own_go (fun t_ kt_ => XS.ifYes X1.here hx rfl (pc0 := 47) (pc' := 56) rfl (hb hby at_47) rfl ((if0 _ _).trans (feq hc47).2) (by decide) (by decide) kt_) ?_
      show own_Go p e below s _ _ _ (T1.setTop (mkF m 56 #[.val (.int p0), .val (.int p1), .val (.int p2), .val (.int wv), .val (.ref ad_ALWAYS), .val (.int kv), .unset, .unset] []))
      refine own_go (fun t_ kt_ => XS.iload X1.here hx rfl (hb hby at_56) rfl kt_) ?_
      show own_Go p e below s _ _ _ (T1.setTop (mkF m 58 #[.val (.int p0), .val (.int p1), .val (.int p2), .val (.int wv), .val (.ref ad_ALWAYS), .val (.int kv), .unset, .unset] [(.int kv)]))
      refine own_go (fun t_ kt_ => XS.iconst X1.here hx rfl (hb hby at_58) kt_) ?_
      show own_Go p e below s _ _ _ (T1.setTop (mkF m 59 #[.val (.int p0), .val (.int p1), .val (.int p2), .val (.int wv), .val (.ref ad_ALWAYS), .val (.int kv), .unset, .unset] [(.int (1 : Int32)), (.int kv)]))
      by_cases hc59 : kv = (1 : Int32)
      · skip
        have hi59 : kv.toInt = 1 := congrArg Int32.toInt hc59
        refine own_go (fun t_ kt_ => XS.icmpNo X1.here hx rfl (hb hby at_59) rfl (teq hc59).2 kt_) ?_
        show own_Go p e below s _ _ _ (T1.setTop (mkF m 62 #[.val (.int p0), .val (.int p1), .val (.int p2), .val (.int wv), .val (.ref ad_ALWAYS), .val (.int kv), .unset, .unset] []))
        refine own_go (fun t_ kt_ => XS.iloadN X1.here hx rfl (hb hby at_62) rfl kt_) ?_
        show own_Go p e below s _ _ _ (T1.setTop (mkF m 63 #[.val (.int p0), .val (.int p1), .val (.int p2), .val (.int wv), .val (.ref ad_ALWAYS), .val (.int kv), .unset, .unset] [(.int p2)]))
        refine own_go (fun t_ kt_ => XS.bipush X1.here hx rfl (hb hby at_63) kt_) ?_
        show own_Go p e below s _ _ _ (T1.setTop (mkF m 65 #[.val (.int p0), .val (.int p1), .val (.int p2), .val (.int wv), .val (.ref ad_ALWAYS), .val (.int kv), .unset, .unset] [(.int (7 : Int32)), (.int p2)]))
        refine own_go (fun t_ kt_ => XS.iand X1.here hx rfl (hb hby at_65) rfl kt_) ?_
        show own_Go p e below s _ _ _ (T1.setTop (mkF m 66 #[.val (.int p0), .val (.int p1), .val (.int p2), .val (.int wv), .val (.ref ad_ALWAYS), .val (.int kv), .unset, .unset] [(.int (p2 &&& (7 : Int32)))]))
        obtain ⟨T3, h3, k3, X3, e3, E3, A3, st3⟩ := newP X1 hx hZ (hw _ (List.mem_of_getElem? (i := 22) rfl)) e1 (g := (mkF m 66 #[.val (.int p0), .val (.int p1), .val (.int p2), .val (.int wv), .val (.ref ad_ALWAYS), .val (.int kv), .unset, .unset] [(.int (p2 &&& (7 : Int32)))])) rfl (hb hby at_66) rfl (own_7 p2).1 (cap := 7) (own_7 p2).2 (by decide) (by decide) (by decide)
        obtain ⟨b3, g3⟩ : ∃ z, z = h0.size := ⟨_, rfl⟩
        rw [← g3] at A3 st3
        refine own_go (fun t_ kt_ => st3 _ kt_) ?_
        have gt_b3 : n0 ≤ b3 := Nat.le_trans Z0 (Nat.le_of_eq g3.symm)
        have ne_ad_ALWAYS_b3 : ad_ALWAYS ≠ b3 := Nat.ne_of_lt (Nat.lt_of_lt_of_le E_ALWAYS.lt (Nat.le_of_eq g3.symm))
        have ne_ad_MISSING_b3 : ad_MISSING ≠ b3 := Nat.ne_of_lt (Nat.lt_of_lt_of_le E_MISSING.lt (Nat.le_of_eq g3.symm))
        have ne_ad_PRESENT_b3 : ad_PRESENT ≠ b3 := Nat.ne_of_lt (Nat.lt_of_lt_of_le E_PRESENT.lt (Nat.le_of_eq g3.symm))
        have ne_ca_b3 : ca ≠ b3 := Nat.ne_of_lt (Nat.lt_of_lt_of_le AC.lt (Nat.le_of_eq g3.symm))
        have ZZ_3 : n0 ≤ h3.size := Nat.le_trans Z0 E3.1
        have S_ALWAYS_3 : Sta Z h3 "com/example/evenkeel/evenkeel/Write$Condition" "ALWAYS" "Lcom/example/evenkeel/evenkeel/Write$Condition;" (.ref ad_ALWAYS) := S_ALWAYS.ext E3
        have EX_ALWAYS_3 : Exa Z h3 ad_ALWAYS "com/example/evenkeel/evenkeel/Write$Condition" := E_ALWAYS.ext E3
        have S_MISSING_3 : Sta Z h3 "com/example/evenkeel/evenkeel/Write$Condition" "MISSING" "Lcom/example/evenkeel/evenkeel/Write$Condition;" (.ref ad_MISSING) := S_MISSING.ext E3
        have EX_MISSING_3 : Exa Z h3 ad_MISSING "com/example/evenkeel/evenkeel/Write$Condition" := E_MISSING.ext E3
        have S_PRESENT_3 : Sta Z h3 "com/example/evenkeel/evenkeel/Write$Condition" "PRESENT" "Lcom/example/evenkeel/evenkeel/Write$Condition;" (.ref ad_PRESENT) := S_PRESENT.ext E3
        have EX_PRESENT_3 : Exa Z h3 ad_PRESENT "com/example/evenkeel/evenkeel/Write$Condition" := E_PRESENT.ext E3
        have S_high_3 : Sta Z h3 "java/lang/Integer$IntegerCache" "high" "I" (.int (127 : Int32)) := S_H.ext E3
        have S_cache_3 : Sta Z h3 "java/lang/Integer$IntegerCache" "cache" "[Ljava/lang/Integer;" (.ref ca) := S_C.ext E3
        have VC_3 : own_Ary Z h3 ca (.object "java/lang/Integer") 256 (fun j => .ref (bx j)) := AC.ext E3
        have V_b3 : own_Ary Z h3 b3 .byte (p2 &&& (7 : Int32)).toNatClampNeg (fun _ => (.int (0 : Int32))) := own_Ary.new A3 rfl
        show own_Go p e below s _ _ _ (T3.setTop (mkF m 68 #[.val (.int p0), .val (.int p1), .val (.int p2), .val (.int wv), .val (.ref ad_ALWAYS), .val (.int kv), .unset, .unset] [(.ref b3)]))
        refine own_go (fun t_ kt_ => XS.astore X3.here hx rfl (hb hby at_68) rfl rfl (l' := #[.val (.int p0), .val (.int p1), .val (.int p2), .val (.int wv), .val (.ref ad_ALWAYS), .val (.int kv), .val (.ref b3), .unset]) rfl kt_) ?_
        show own_Go p e below s _ _ _ (T3.setTop (mkF m 70 #[.val (.int p0), .val (.int p1), .val (.int p2), .val (.int wv), .val (.ref ad_ALWAYS), .val (.int kv), .val (.ref b3), .unset] []))
        refine own_go (fun t_ kt_ => XS.goto X3.here hx rfl (pc0 := 70) (pc' := 79) rfl (hb hby at_70) (by decide) (by decide) kt_) ?_
        show own_Go p e below s _ _ _ (T3.setTop (mkF m 79 #[.val (.int p0), .val (.int p1), .val (.int p2), .val (.int wv), .val (.ref ad_ALWAYS), .val (.int kv), .val (.ref b3), .unset] []))
        refine own_go (fun t_ kt_ => XS.iloadN X3.here hx rfl (hb hby at_79) rfl kt_) ?_
        show own_Go p e below s _ _ _ (T3.setTop (mkF m 80 #[.val (.int p0), .val (.int p1), .val (.int p2), .val (.int wv), .val (.ref ad_ALWAYS), .val (.int kv), .val (.ref b3), .unset] [(.int wv)]))
        refine own_go (fun t_ kt_ => XS.ifNo X3.here hx rfl (hb hby at_80) rfl ((if0 _ _).trans (teq hc8).2) kt_) ?_
        show own_Go p e below s _ _ _ (T3.setTop (mkF m 83 #[.val (.int p0), .val (.int p1), .val (.int p2), .val (.int wv), .val (.ref ad_ALWAYS), .val (.int kv), .val (.ref b3), .unset] []))
        refine own_go (fun t_ kt_ => XS.iconst X3.here hx rfl (hb hby at_83) kt_) ?_
        show own_Go p e below s _ _ _ (T3.setTop (mkF m 84 #[.val (.int p0), .val (.int p1), .val (.int p2), .val (.int wv), .val (.ref ad_ALWAYS), .val (.int kv), .val (.ref b3), .unset] [(.int (1 : Int32))]))
        refine own_go (fun t_ kt_ => XS.istore X3.here hx rfl (hb hby at_84) rfl (l' := #[.val (.int p0), .val (.int p1), .val (.int p2), .val (.int wv), .val (.ref ad_ALWAYS), .val (.int kv), .val (.ref b3), .val (.int (1 : Int32))]) rfl kt_) ?_
        show own_Go p e below s _ _ _ (T3.setTop (mkF m 86 #[.val (.int p0), .val (.int p1), .val (.int p2), .val (.int wv), .val (.ref ad_ALWAYS), .val (.int kv), .val (.ref b3), .val (.int (1 : Int32))] []))
        refine own_go (fun t_ kt_ => XS.goto X3.here hx rfl (pc0 := 86) (pc' := 121) rfl (hb hby at_86) (by decide) (by decide) kt_) ?_
        show own_Go p e below s _ _ _ (T3.setTop (mkF m 121 #[.val (.int p0), .val (.int p1), .val (.int p2), .val (.int wv), .val (.ref ad_ALWAYS), .val (.int kv), .val (.ref b3), .val (.int (1 : Int32))] []))
        refine own_go (fun t_ kt_ => XS.aload X3.here hx rfl (hb hby at_121) rfl rfl kt_) ?_
        show own_Go p e below s _ _ _ (T3.setTop (mkF m 123 #[.val (.int p0), .val (.int p1), .val (.int p2), .val (.int wv), .val (.ref ad_ALWAYS), .val (.int kv), .val (.ref b3), .val (.int (1 : Int32))] [(.ref ad_ALWAYS)]))
        refine own_go (fun t_ kt_ => XS.aload X3.here hx rfl (hb hby at_123) rfl rfl kt_) ?_
        show own_Go p e below s _ _ _ (T3.setTop (mkF m 125 #[.val (.int p0), .val (.int p1), .val (.int p2), .val (.int wv), .val (.ref ad_ALWAYS), .val (.int kv), .val (.ref b3), .val (.int (1 : Int32))] [(.ref b3), (.ref ad_ALWAYS)]))
        obtain ⟨cq4, kq4, q4a, q4b, q4c⟩ := isOf hZ e3 EX_ALWAYS_3
        obtain ⟨_, _, ⟨T4, L4, k4, n4⟩, -, X4, ⟨Lc4, hQ4, l4, y4, z4⟩, st4⟩ := X3.virtualBack hx (y := (⟨"com/example/evenkeel/evenkeel/Write$Condition", "holdsFor", "(Ljava/lang/Object;)Z"⟩ : MethodName)) (z := (⟨"com/example/evenkeel/evenkeel/Write$Condition", "holdsFor", "(Ljava/lang/Object;)Z"⟩ : MethodName)) hown (mvT hZ (hw _ (List.mem_of_getElem? (i := 4) rfl))) (mvT hZ (hw _ (List.mem_of_getElem? (i := 5) rfl))) (notFace_of_selects (args := #[]) (mvT hZ (hw _ (List.mem_of_getElem? (i := 7) rfl)))) (mvT hZ (hw _ (List.mem_of_getElem? (i := 7) rfl))) (mvT hZ (hw _ (List.mem_of_getElem? (i := 6) rfl))) (by decide) (backOf (W := 0) (rm1r l Z a0 hw [] (ad_ALWAYS) (b3) (ad_ALWAYS) (ad_MISSING) h3 n0 ZZ_3 S_ALWAYS_3 S_MISSING_3) hZ (hw _ (List.mem_of_getElem? (i := 8) rfl)) (hw _ (List.mem_of_getElem? (i := 2) rfl)) (by decide) (by decide)) q4a q4c (g := (mkF m 125 #[.val (.int p0), .val (.int p1), .val (.int p2), .val (.int wv), .val (.ref ad_ALWAYS), .val (.int kv), .val (.ref b3), .val (.int (1 : Int32))] [(.ref b3), (.ref ad_ALWAYS)])) rfl (by rw [hml]; rfl) (Steps.refl _) (argsL := [(.ref b3)]) (rest := []) (lenOf pd_2 rfl) rfl (by show 2 * 0 + _ ≤ _; exact Nat.le_of_eq rfl) (hb hby at_125) (fun _ _ => ⟨rfl, e3, (by decide : 1 + 0 ≤ _), (by decide : 7 + 0 ≤ _)⟩)
        dsimp only [Pt.U, Pt.locs, Pt.cells, Pt.slots] at X4 l4 y4 z4 st4 hQ4
        subst l4 y4 z4
        obtain ⟨hv4, Nq4, eh4⟩ := hQ4
        rw [show (own_hf ad_ALWAYS ad_ALWAYS ad_MISSING false) = (1 : Int32) from by unfold own_hf; simp [ne_MA, ne_PA, ne_PM]] at hv4
        subst hv4
        have N4 := Fr.app N0 Nq4
        refine own_go (fun t_ kt_ => st4.trans kt_) ?_
        obtain ⟨lo4, X4g, N4g⟩ : ∃ lo, Stand p l e room_1 s m #[(.int p0), (.int p1), (.int p2)] below meth c T4 lo 1 7 ∧ Fr n0 lo := ⟨_, X4, N4⟩
        have e4 : T4.heap = h3 := eh4
        show own_Go p e below s _ _ _ (T4.setTop (mkF m 128 #[.val (.int p0), .val (.int p1), .val (.int p2), .val (.int wv), .val (.ref ad_ALWAYS), .val (.int kv), .val (.ref b3), .val (.int (1 : Int32))] [(.int (1 : Int32))]))
        refine own_go (fun t_ kt_ => XS.iload X4g.here hx rfl (hb hby at_128) rfl kt_) ?_
        show own_Go p e below s _ _ _ (T4.setTop (mkF m 130 #[.val (.int p0), .val (.int p1), .val (.int p2), .val (.int wv), .val (.ref ad_ALWAYS), .val (.int kv), .val (.ref b3), .val (.int (1 : Int32))] [(.int (1 : Int32)), (.int (1 : Int32))]))
        refine own_go (fun t_ kt_ => XS.icmpNo X4g.here hx rfl (hb hby at_130) rfl (teq (by decide)).2 kt_) ?_
        show own_Go p e below s _ _ _ (T4.setTop (mkF m 133 #[.val (.int p0), .val (.int p1), .val (.int p2), .val (.int wv), .val (.ref ad_ALWAYS), .val (.int kv), .val (.ref b3), .val (.int (1 : Int32))] []))
        refine own_go (fun t_ kt_ => XS.iconst X4g.here hx rfl (hb hby at_133) kt_) ?_
        show own_Go p e below s _ _ _ (T4.setTop (mkF m 134 #[.val (.int p0), .val (.int p1), .val (.int p2), .val (.int wv), .val (.ref ad_ALWAYS), .val (.int kv), .val (.ref b3), .val (.int (1 : Int32))] [(.int (1 : Int32))]))
        refine own_go (fun t_ kt_ => XS.goto X4g.here hx rfl (pc0 := 134) (pc' := 138) rfl (hb hby at_134) (by decide) (by decide) kt_) ?_
        show own_Go p e below s _ _ _ (T4.setTop (mkF m 138 #[.val (.int p0), .val (.int p1), .val (.int p2), .val (.int wv), .val (.ref ad_ALWAYS), .val (.int kv), .val (.ref b3), .val (.int (1 : Int32))] [(.int (1 : Int32))]))
        refine own_ret X4g (v := some (.int (1 : Int32))) (fun h => by rw [hret] at h; cases h) hlk ?_ (by decide) (by decide) (fun fs hr => retN X4g hx (t := .boolean) hret (by simp) (hb hby at_138) hr)
        show Q0 Z p0 p1 p2 ad_ALWAYS ad_MISSING ad_PRESENT ca bx h0 n0 (some (.int (1 : Int32))) T4.heap _
        rw [e4]
        exact ⟨rfl, N4g⟩
      · skip
        have hi59 : ¬ kv.toInt = 1 := fun q => hc59 (Int32.toInt_inj.mp q)
        refine own_go (fun t_ kt_ => XS.icmpYes X1.here hx rfl (pc0 := 59) (pc' := 73) rfl (hb hby at_59) rfl (feq hc59).2 (by decide) (by decide) kt_) ?_
        show own_Go p e below s _ _ _ (T1.setTop (mkF m 73 #[.val (.int p0), .val (.int p1), .val (.int p2), .val (.int wv), .val (.ref ad_ALWAYS), .val (.int kv), .unset, .unset] []))
        refine own_go (fun t_ kt_ => XS.iloadN X1.here hx rfl (hb hby at_73) rfl kt_) ?_
        show own_Go p e below s _ _ _ (T1.setTop (mkF m 74 #[.val (.int p0), .val (.int p1), .val (.int p2), .val (.int wv), .val (.ref ad_ALWAYS), .val (.int kv), .unset, .unset] [(.int p2)]))
        obtain ⟨_, _, ⟨T5, L5, k5, n5⟩, -, X5, ⟨Lc5, hQ5, l5, y5, z5⟩, st5⟩ := Jvm.LawKit.callS X1 hx (y := (⟨"java/lang/Integer", "valueOf", "(I)Ljava/lang/Integer;"⟩ : MethodName)) hown (mvT hZ (hw _ (List.mem_of_getElem? (i := 15) rfl))) (mvT hZ (hw _ (List.mem_of_getElem? (i := 16) rfl))) (mvT hZ (hw _ (List.mem_of_getElem? (i := 17) rfl))) (mvT hZ (hw _ (List.mem_of_getElem? (i := 18) rfl))) (by decide) (backOf (W := 0) (rm2 l Z a0 hw [] (p2) (ca) (bx) h0 n0 Z0 S_H S_C AC) hZ (hw _ (List.mem_of_getElem? (i := 18) rfl)) (hw _ (List.mem_of_getElem? (i := 17) rfl)) (by decide) (by decide)) (g := (mkF m 74 #[.val (.int p0), .val (.int p1), .val (.int p2), .val (.int wv), .val (.ref ad_ALWAYS), .val (.int kv), .unset, .unset] [(.int p2)])) rfl (by rw [hml]; rfl) (argsL := [(.int p2)]) (rest := []) (lenOf pd_3 rfl) rfl (by show 2 * 0 + _ ≤ _; exact Nat.le_of_eq rfl) (hb hby at_74) (fun _ _ => ⟨rfl, e1, (by decide : 0 + 1 ≤ _), (by decide : 0 + 1 ≤ _)⟩)
        dsimp only [Pt.U, Pt.locs, Pt.cells, Pt.slots] at X5 l5 y5 z5 st5 hQ5
        subst l5 y5 z5
        obtain ⟨bi, rfl, Nq5, Kq5⟩ := hQ5
        have N5 := Fr.app N0 Nq5
        refine own_go (fun t_ kt_ => st5 _ kt_) ?_
        obtain ⟨lo5, X5g, N5g⟩ : ∃ lo, Stand p l e room_1 s m #[(.int p0), (.int p1), (.int p2)] below meth c T5 lo 1 1 ∧ Fr n0 lo := ⟨_, X5, N5⟩
        obtain ⟨h5, e5⟩ : ∃ z, T5.heap = z := ⟨_, rfl⟩
        rw [e5] at Kq5
        have ZZ_5 : n0 ≤ h5.size := Nat.le_trans Z0 Kq5.1
        have S_ALWAYS_5 : Sta Z h5 "com/example/evenkeel/evenkeel/Write$Condition" "ALWAYS" "Lcom/example/evenkeel/evenkeel/Write$Condition;" (.ref ad_ALWAYS) := own_sta_keep S_ALWAYS Kq5
        have EX_ALWAYS_5 : Exa Z h5 ad_ALWAYS "com/example/evenkeel/evenkeel/Write$Condition" := E_ALWAYS.keep Kq5
        have S_MISSING_5 : Sta Z h5 "com/example/evenkeel/evenkeel/Write$Condition" "MISSING" "Lcom/example/evenkeel/evenkeel/Write$Condition;" (.ref ad_MISSING) := own_sta_keep S_MISSING Kq5
        have EX_MISSING_5 : Exa Z h5 ad_MISSING "com/example/evenkeel/evenkeel/Write$Condition" := E_MISSING.keep Kq5
        have S_PRESENT_5 : Sta Z h5 "com/example/evenkeel/evenkeel/Write$Condition" "PRESENT" "Lcom/example/evenkeel/evenkeel/Write$Condition;" (.ref ad_PRESENT) := own_sta_keep S_PRESENT Kq5
        have EX_PRESENT_5 : Exa Z h5 ad_PRESENT "com/example/evenkeel/evenkeel/Write$Condition" := E_PRESENT.keep Kq5
        have S_high_5 : Sta Z h5 "java/lang/Integer$IntegerCache" "high" "I" (.int (127 : Int32)) := own_sta_keep S_H Kq5
        have S_cache_5 : Sta Z h5 "java/lang/Integer$IntegerCache" "cache" "[Ljava/lang/Integer;" (.ref ca) := own_sta_keep S_C Kq5
        have VC_5 : own_Ary Z h5 ca (.object "java/lang/Integer") 256 (fun j => .ref (bx j)) := AC.keep Kq5 nin0
        show own_Go p e below s _ _ _ (T5.setTop (mkF m 77 #[.val (.int p0), .val (.int p1), .val (.int p2), .val (.int wv), .val (.ref ad_ALWAYS), .val (.int kv), .unset, .unset] [(.ref bi)]))
        refine own_go (fun t_ kt_ => XS.astore X5g.here hx rfl (hb hby at_77) rfl rfl (l' := #[.val (.int p0), .val (.int p1), .val (.int p2), .val (.int wv), .val (.ref ad_ALWAYS), .val (.int kv), .val (.ref bi), .unset]) rfl kt_) ?_
        show own_Go p e below s _ _ _ (T5.setTop (mkF m 79 #[.val (.int p0), .val (.int p1), .val (.int p2), .val (.int wv), .val (.ref ad_ALWAYS), .val (.int kv), .val (.ref bi), .unset] []))
        refine own_go (fun t_ kt_ => XS.iloadN X5g.here hx rfl (hb hby at_79) rfl kt_) ?_
        show own_Go p e below s _ _ _ (T5.setTop (mkF m 80 #[.val (.int p0), .val (.int p1), .val (.int p2), .val (.int wv), .val (.ref ad_ALWAYS), .val (.int kv), .val (.ref bi), .unset] [(.int wv)]))
        refine own_go (fun t_ kt_ => XS.ifNo X5g.here hx rfl (hb hby at_80) rfl ((if0 _ _).trans (teq hc8).2) kt_) ?_
        show own_Go p e below s _ _ _ (T5.setTop (mkF m 83 #[.val (.int p0), .val (.int p1), .val (.int p2), .val (.int wv), .val (.ref ad_ALWAYS), .val (.int kv), .val (.ref bi), .unset] []))
        refine own_go (fun t_ kt_ => XS.iconst X5g.here hx rfl (hb hby at_83) kt_) ?_
        show own_Go p e below s _ _ _ (T5.setTop (mkF m 84 #[.val (.int p0), .val (.int p1), .val (.int p2), .val (.int wv), .val (.ref ad_ALWAYS), .val (.int kv), .val (.ref bi), .unset] [(.int (1 : Int32))]))
        refine own_go (fun t_ kt_ => XS.istore X5g.here hx rfl (hb hby at_84) rfl (l' := #[.val (.int p0), .val (.int p1), .val (.int p2), .val (.int wv), .val (.ref ad_ALWAYS), .val (.int kv), .val (.ref bi), .val (.int (1 : Int32))]) rfl kt_) ?_
        show own_Go p e below s _ _ _ (T5.setTop (mkF m 86 #[.val (.int p0), .val (.int p1), .val (.int p2), .val (.int wv), .val (.ref ad_ALWAYS), .val (.int kv), .val (.ref bi), .val (.int (1 : Int32))] []))
        refine own_go (fun t_ kt_ => XS.goto X5g.here hx rfl (pc0 := 86) (pc' := 121) rfl (hb hby at_86) (by decide) (by decide) kt_) ?_
        show own_Go p e below s _ _ _ (T5.setTop (mkF m 121 #[.val (.int p0), .val (.int p1), .val (.int p2), .val (.int wv), .val (.ref ad_ALWAYS), .val (.int kv), .val (.ref bi), .val (.int (1 : Int32))] []))
        refine own_go (fun t_ kt_ => XS.aload X5g.here hx rfl (hb hby at_121) rfl rfl kt_) ?_
        show own_Go p e below s _ _ _ (T5.setTop (mkF m 123 #[.val (.int p0), .val (.int p1), .val (.int p2), .val (.int wv), .val (.ref ad_ALWAYS), .val (.int kv), .val (.ref bi), .val (.int (1 : Int32))] [(.ref ad_ALWAYS)]))
        refine own_go (fun t_ kt_ => XS.aload X5g.here hx rfl (hb hby at_123) rfl rfl kt_) ?_
        show own_Go p e below s _ _ _ (T5.setTop (mkF m 125 #[.val (.int p0), .val (.int p1), .val (.int p2), .val (.int wv), .val (.ref ad_ALWAYS), .val (.int kv), .val (.ref bi), .val (.int (1 : Int32))] [(.ref bi), (.ref ad_ALWAYS)]))
        obtain ⟨cq6, kq6, q6a, q6b, q6c⟩ := isOf hZ e5 EX_ALWAYS_5
        obtain ⟨_, _, ⟨T6, L6, k6, n6⟩, -, X6, ⟨Lc6, hQ6, l6, y6, z6⟩, st6⟩ := X5g.virtualBack hx (y := (⟨"com/example/evenkeel/evenkeel/Write$Condition", "holdsFor", "(Ljava/lang/Object;)Z"⟩ : MethodName)) (z := (⟨"com/example/evenkeel/evenkeel/Write$Condition", "holdsFor", "(Ljava/lang/Object;)Z"⟩ : MethodName)) hown (mvT hZ (hw _ (List.mem_of_getElem? (i := 4) rfl))) (mvT hZ (hw _ (List.mem_of_getElem? (i := 5) rfl))) (notFace_of_selects (args := #[]) (mvT hZ (hw _ (List.mem_of_getElem? (i := 7) rfl)))) (mvT hZ (hw _ (List.mem_of_getElem? (i := 7) rfl))) (mvT hZ (hw _ (List.mem_of_getElem? (i := 6) rfl))) (by decide) (backOf (W := 0) (rm1r l Z a0 hw [] (ad_ALWAYS) (bi) (ad_ALWAYS) (ad_MISSING) h5 n0 ZZ_5 S_ALWAYS_5 S_MISSING_5) hZ (hw _ (List.mem_of_getElem? (i := 8) rfl)) (hw _ (List.mem_of_getElem? (i := 2) rfl)) (by decide) (by decide)) q6a q6c (g := (mkF m 125 #[.val (.int p0), .val (.int p1), .val (.int p2), .val (.int wv), .val (.ref ad_ALWAYS), .val (.int kv), .val (.ref bi), .val (.int (1 : Int32))] [(.ref bi), (.ref ad_ALWAYS)])) rfl (by rw [hml]; rfl) (Steps.refl _) (argsL := [(.ref bi)]) (rest := []) (lenOf pd_2 rfl) rfl (by show 2 * 0 + _ ≤ _; exact Nat.le_of_eq rfl) (hb hby at_125) (fun _ _ => ⟨rfl, e5, (by decide : 1 + 0 ≤ _), (by decide : 1 + 0 ≤ _)⟩)
        dsimp only [Pt.U, Pt.locs, Pt.cells, Pt.slots] at X6 l6 y6 z6 st6 hQ6
        subst l6 y6 z6
        obtain ⟨hv6, Nq6, eh6⟩ := hQ6
        rw [show (own_hf ad_ALWAYS ad_ALWAYS ad_MISSING false) = (1 : Int32) from by unfold own_hf; simp [ne_MA, ne_PA, ne_PM]] at hv6
        subst hv6
        have N6 := Fr.app N5g Nq6
        refine own_go (fun t_ kt_ => st6.trans kt_) ?_
        obtain ⟨lo6, X6g, N6g⟩ : ∃ lo, Stand p l e room_1 s m #[(.int p0), (.int p1), (.int p2)] below meth c T6 lo 1 1 ∧ Fr n0 lo := ⟨_, X6, N6⟩
        have e6 : T6.heap = h5 := eh6
        show own_Go p e below s _ _ _ (T6.setTop (mkF m 128 #[.val (.int p0), .val (.int p1), .val (.int p2), .val (.int wv), .val (.ref ad_ALWAYS), .val (.int kv), .val (.ref bi), .val (.int (1 : Int32))] [(.int (1 : Int32))]))
        refine own_go (fun t_ kt_ => XS.iload X6g.here hx rfl (hb hby at_128) rfl kt_) ?_
        show own_Go p e below s _ _ _ (T6.setTop (mkF m 130 #[.val (.int p0), .val (.int p1), .val (.int p2), .val (.int wv), .val (.ref ad_ALWAYS), .val (.int kv), .val (.ref bi), .val (.int (1 : Int32))] [(.int (1 : Int32)), (.int (1 : Int32))]))
        refine own_go (fun t_ kt_ => XS.icmpNo X6g.here hx rfl (hb hby at_130) rfl (teq (by decide)).2 kt_) ?_
        show own_Go p e below s _ _ _ (T6.setTop (mkF m 133 #[.val (.int p0), .val (.int p1), .val (.int p2), .val (.int wv), .val (.ref ad_ALWAYS), .val (.int kv), .val (.ref bi), .val (.int (1 : Int32))] []))
        refine own_go (fun t_ kt_ => XS.iconst X6g.here hx rfl (hb hby at_133) kt_) ?_
        show own_Go p e below s _ _ _ (T6.setTop (mkF m 134 #[.val (.int p0), .val (.int p1), .val (.int p2), .val (.int wv), .val (.ref ad_ALWAYS), .val (.int kv), .val (.ref bi), .val (.int (1 : Int32))] [(.int (1 : Int32))]))
        refine own_go (fun t_ kt_ => XS.goto X6g.here hx rfl (pc0 := 134) (pc' := 138) rfl (hb hby at_134) (by decide) (by decide) kt_) ?_
        show own_Go p e below s _ _ _ (T6.setTop (mkF m 138 #[.val (.int p0), .val (.int p1), .val (.int p2), .val (.int wv), .val (.ref ad_ALWAYS), .val (.int kv), .val (.ref bi), .val (.int (1 : Int32))] [(.int (1 : Int32))]))
        refine own_ret X6g (v := some (.int (1 : Int32))) (fun h => by rw [hret] at h; cases h) hlk ?_ (by decide) (by decide) (fun fs hr => retN X6g hx (t := .boolean) hret (by simp) (hb hby at_138) hr)
        show Q0 Z p0 p1 p2 ad_ALWAYS ad_MISSING ad_PRESENT ca bx h0 n0 (some (.int (1 : Int32))) T6.heap _
        rw [e6]
        exact ⟨rfl, N6g⟩
  · skip
    have hi8 : ¬ wv.toInt = 0 := fun q => hc8 (Int32.toInt_inj.mp q)
    refine own_go (fun t_ kt_ => XS.ifYes X0.here hx rfl (pc0 := 8) (pc' := 19) rfl (hb hby at_8) rfl ((if0 _ _).trans (feq hc8).2) (by decide) (by decide) kt_) ?_
    show own_Go p e below s _ _ _ (s₁.setTop (mkF m 19 #[.val (.int p0), .val (.int p1), .val (.int p2), .val (.int wv), .unset, .unset, .unset, .unset] []))
    refine own_go (fun t_ kt_ => XS.iloadN X0.here hx rfl (hb hby at_19) rfl kt_) ?_
    show own_Go p e below s _ _ _ (s₁.setTop (mkF m 20 #[.val (.int p0), .val (.int p1), .val (.int p2), .val (.int wv), .unset, .unset, .unset, .unset] [(.int wv)]))
    refine own_go (fun t_ kt_ => XS.iconst X0.here hx rfl (hb hby at_20) kt_) ?_
    show own_Go p e below s _ _ _ (s₁.setTop (mkF m 21 #[.val (.int p0), .val (.int p1), .val (.int p2), .val (.int wv), .unset, .unset, .unset, .unset] [(.int (1 : Int32)), (.int wv)]))
    by_cases hc21 : wv = (1 : Int32)
    · skip
      have hi21 : wv.toInt = 1 := congrArg Int32.toInt hc21
      refine own_go (fun t_ kt_ => XS.icmpNo X0.here hx rfl (hb hby at_21) rfl (teq hc21).2 kt_) ?_
      show own_Go p e below s _ _ _ (s₁.setTop (mkF m 24 #[.val (.int p0), .val (.int p1), .val (.int p2), .val (.int wv), .unset, .unset, .unset, .unset] []))
      obtain ⟨T7, X7, e7, st7⟩ := getS2 X0 hx hZ hown (host := "") (Or.inl (hw _ (List.mem_of_getElem? (i := 10) rfl))) Via.refl e0 S_MISSING (g := (mkF m 24 #[.val (.int p0), .val (.int p1), .val (.int p2), .val (.int wv), .unset, .unset, .unset, .unset] [])) rfl (hb hby at_24)
      refine own_go (fun t_ kt_ => st7 _ kt_) ?_
      show own_Go p e below s _ _ _ (T7.setTop (mkF m 27 #[.val (.int p0), .val (.int p1), .val (.int p2), .val (.int wv), .unset, .unset, .unset, .unset] [(.ref ad_MISSING)]))
      refine own_go (fun t_ kt_ => XS.astore X7.here hx rfl (hb hby at_27) rfl rfl (l' := #[.val (.int p0), .val (.int p1), .val (.int p2), .val (.int wv), .val (.ref ad_MISSING), .unset, .unset, .unset]) rfl kt_) ?_
      show own_Go p e below s _ _ _ (T7.setTop (mkF m 29 #[.val (.int p0), .val (.int p1), .val (.int p2), .val (.int wv), .val (.ref ad_MISSING), .unset, .unset, .unset] []))
      refine own_go (fun t_ kt_ => XS.goto X7.here hx rfl (pc0 := 29) (pc' := 37) rfl (hb hby at_29) (by decide) (by decide) kt_) ?_
      show own_Go p e below s _ _ _ (T7.setTop (mkF m 37 #[.val (.int p0), .val (.int p1), .val (.int p2), .val (.int wv), .val (.ref ad_MISSING), .unset, .unset, .unset] []))
      refine own_go (fun t_ kt_ => XS.iloadN X7.here hx rfl (hb hby at_37) rfl kt_) ?_
      show own_Go p e below s _ _ _ (T7.setTop (mkF m 38 #[.val (.int p0), .val (.int p1), .val (.int p2), .val (.int wv), .val (.ref ad_MISSING), .unset, .unset, .unset] [(.int p1)]))
      refine own_go (fun t_ kt_ => X7.ldcInt hx hown (mvT hZ (hw _ (List.mem_of_getElem? (i := 0) rfl))) (g := (mkF m 38 #[.val (.int p0), .val (.int p1), .val (.int p2), .val (.int wv), .val (.ref ad_MISSING), .unset, .unset, .unset] [(.int p1)])) rfl (hb hby at_38) _ kt_) ?_
      show own_Go p e below s _ _ _ (T7.setTop (mkF m 40 #[.val (.int p0), .val (.int p1), .val (.int p2), .val (.int wv), .val (.ref ad_MISSING), .unset, .unset, .unset] [(.int (2147483647 : Int32)), (.int p1)]))
      refine own_go (fun t_ kt_ => XS.iand X7.here hx rfl (hb hby at_40) rfl kt_) ?_
      show own_Go p e below s _ _ _ (T7.setTop (mkF m 41 #[.val (.int p0), .val (.int p1), .val (.int p2), .val (.int wv), .val (.ref ad_MISSING), .unset, .unset, .unset] [(.int (p1 &&& (2147483647 : Int32)))]))
      refine own_go (fun t_ kt_ => XS.iconst X7.here hx rfl (hb hby at_41) kt_) ?_
      show own_Go p e below s _ _ _ (T7.setTop (mkF m 42 #[.val (.int p0), .val (.int p1), .val (.int p2), .val (.int wv), .val (.ref ad_MISSING), .unset, .unset, .unset] [(.int (3 : Int32)), (.int (p1 &&& (2147483647 : Int32)))]))
      refine own_go (fun t_ kt_ => iremM X7 hx rfl (hb hby at_42) rfl (by decide) kt_) ?_
      show own_Go p e below s _ _ _ (T7.setTop (mkF m 43 #[.val (.int p0), .val (.int p1), .val (.int p2), .val (.int wv), .val (.ref ad_MISSING), .unset, .unset, .unset] [(.int ((p1 &&& (2147483647 : Int32)) % (3 : Int32)))]))
      refine own_go (fun t_ kt_ => XS.istore X7.here hx rfl (hb hby at_43) rfl (l' := #[.val (.int p0), .val (.int p1), .val (.int p2), .val (.int wv), .val (.ref ad_MISSING), .val (.int ((p1 &&& (2147483647 : Int32)) % (3 : Int32))), .unset, .unset]) rfl kt_) ?_
      show own_Go p e below s _ _ _ (T7.setTop (mkF m 45 #[.val (.int p0), .val (.int p1), .val (.int p2), .val (.int wv), .val (.ref ad_MISSING), .val (.int ((p1 &&& (2147483647 : Int32)) % (3 : Int32))), .unset, .unset] []))
      obtain ⟨kv, hkv⟩ : ∃ z, z = ((p1 &&& (2147483647 : Int32)) % (3 : Int32)) := ⟨_, rfl⟩
      rw [← hkv]
      show own_Go p e below s _ _ _ (T7.setTop (mkF m 45 #[.val (.int p0), .val (.int p1), .val (.int p2), .val (.int wv), .val (.ref ad_MISSING), .val (.int kv), .unset, .unset] []))
      refine own_go (fun t_ kt_ => XS.iload X7.here hx rfl (hb hby at_45) rfl kt_) ?_
      show own_Go p e below s _ _ _ (T7.setTop (mkF m 47 #[.val (.int p0), .val (.int p1), .val (.int p2), .val (.int wv), .val (.ref ad_MISSING), .val (.int kv), .unset, .unset] [(.int kv)]))
      by_cases hc47 : kv = (0 : Int32)
      · skip
        have hi47 : kv.toInt = 0 := congrArg Int32.toInt hc47
        refine own_go (fun t_ kt_ => XS.ifNo X7.here hx rfl (hb hby at_47) rfl ((if0 _ _).trans (teq hc47).2) kt_) ?_
        show own_Go p e below s _ _ _ (T7.setTop (mkF m 50 #[.val (.int p0), .val (.int p1), .val (.int p2), .val (.int wv), .val (.ref ad_MISSING), .val (.int kv), .unset, .unset] []))
        refine own_go (fun t_ kt_ => XS.aconstNull X7.here hx rfl (hb hby at_50) kt_) ?_
        show own_Go p e below s _ _ _ (T7.setTop (mkF m 51 #[.val (.int p0), .val (.int p1), .val (.int p2), .val (.int wv), .val (.ref ad_MISSING), .val (.int kv), .unset, .unset] [.null]))
        refine own_go (fun t_ kt_ => XS.astore X7.here hx rfl (hb hby at_51) rfl rfl (l' := #[.val (.int p0), .val (.int p1), .val (.int p2), .val (.int wv), .val (.ref ad_MISSING), .val (.int kv), .val .null, .unset]) rfl kt_) ?_
        show own_Go p e below s _ _ _ (T7.setTop (mkF m 53 #[.val (.int p0), .val (.int p1), .val (.int p2), .val (.int wv), .val (.ref ad_MISSING), .val (.int kv), .val .null, .unset] []))
        refine own_go (fun t_ kt_ => XS.goto X7.here hx rfl (pc0 := 53) (pc' := 79) rfl (hb hby at_53) (by decide) (by decide) kt_) ?_
        show own_Go p e below s _ _ _ (T7.setTop (mkF m 79 #[.val (.int p0), .val (.int p1), .val (.int p2), .val (.int wv), .val (.ref ad_MISSING), .val (.int kv), .val .null, .unset] []))
        refine own_go (fun t_ kt_ => XS.iloadN X7.here hx rfl (hb hby at_79) rfl kt_) ?_
        show own_Go p e below s _ _ _ (T7.setTop (mkF m 80 #[.val (.int p0), .val (.int p1), .val (.int p2), .val (.int wv), .val (.ref ad_MISSING), .val (.int kv), .val .null, .unset] [(.int wv)]))
        refine own_go (fun t_ kt_ => XS.ifYes X7.here hx rfl (pc0 := 80) (pc' := 89) rfl (hb hby at_80) rfl ((if0 _ _).trans (feq hc8).2) (by decide) (by decide) kt_) ?_
        show own_Go p e below s _ _ _ (T7.setTop (mkF m 89 #[.val (.int p0), .val (.int p1), .val (.int p2), .val (.int wv), .val (.ref ad_MISSING), .val (.int kv), .val .null, .unset] []))
        refine own_go (fun t_ kt_ => XS.iloadN X7.here hx rfl (hb hby at_89) rfl kt_) ?_
        show own_Go p e below s _ _ _ (T7.setTop (mkF m 90 #[.val (.int p0), .val (.int p1), .val (.int p2), .val (.int wv), .val (.ref ad_MISSING), .val (.int kv), .val .null, .unset] [(.int wv)]))
        refine own_go (fun t_ kt_ => XS.iconst X7.here hx rfl (hb hby at_90) kt_) ?_
        show own_Go p e below s _ _ _ (T7.setTop (mkF m 91 #[.val (.int p0), .val (.int p1), .val (.int p2), .val (.int wv), .val (.ref ad_MISSING), .val (.int kv), .val .null, .unset] [(.int (1 : Int32)), (.int wv)]))
        refine own_go (fun t_ kt_ => XS.icmpNo X7.here hx rfl (hb hby at_91) rfl (teq hc21).2 kt_) ?_
        show own_Go p e below s _ _ _ (T7.setTop (mkF m 94 #[.val (.int p0), .val (.int p1), .val (.int p2), .val (.int wv), .val (.ref ad_MISSING), .val (.int kv), .val .null, .unset] []))
        refine own_go (fun t_ kt_ => XS.iload X7.here hx rfl (hb hby at_94) rfl kt_) ?_
        show own_Go p e below s _ _ _ (T7.setTop (mkF m 96 #[.val (.int p0), .val (.int p1), .val (.int p2), .val (.int wv), .val (.ref ad_MISSING), .val (.int kv), .val .null, .unset] [(.int kv)]))
        refine own_go (fun t_ kt_ => XS.ifNo X7.here hx rfl (hb hby at_96) rfl ((if0 _ _).trans (teq hc47).2) kt_) ?_
        show own_Go p e below s _ _ _ (T7.setTop (mkF m 99 #[.val (.int p0), .val (.int p1), .val (.int p2), .val (.int wv), .val (.ref ad_MISSING), .val (.int kv), .val .null, .unset] []))
        refine own_go (fun t_ kt_ => XS.iconst X7.here hx rfl (hb hby at_99) kt_) ?_
        show own_Go p e below s _ _ _ (T7.setTop (mkF m 100 #[.val (.int p0), .val (.int p1), .val (.int p2), .val (.int wv), .val (.ref ad_MISSING), .val (.int kv), .val .null, .unset] [(.int (1 : Int32))]))
        refine own_go (fun t_ kt_ => XS.goto X7.here hx rfl (pc0 := 100) (pc' := 104) rfl (hb hby at_100) (by decide) (by decide) kt_) ?_
        show own_Go p e below s _ _ _ (T7.setTop (mkF m 104 #[.val (.int p0), .val (.int p1), .val (.int p2), .val (.int wv), .val (.ref ad_MISSING), .val (.int kv), .val .null, .unset] [(.int (1 : Int32))]))
        refine own_go (fun t_ kt_ => XS.istore X7.here hx rfl (hb hby at_104) rfl (l' := #[.val (.int p0), .val (.int p1), .val (.int p2), .val (.int wv), .val (.ref ad_MISSING), .val (.int kv), .val .null, .val (.int (1 : Int32))]) rfl kt_) ?_
        show own_Go p e below s _ _ _ (T7.setTop (mkF m 106 #[.val (.int p0), .val (.int p1), .val (.int p2), .val (.int wv), .val (.ref ad_MISSING), .val (.int kv), .val .null, .val (.int (1 : Int32))] []))
        refine own_go (fun t_ kt_ => XS.goto X7.here hx rfl (pc0 := 106) (pc' := 121) rfl (hb hby at_106) (by decide) (by decide) kt_) ?_
        show own_Go p e below s _ _ _ (T7.setTop (mkF m 121 #[.val (.int p0), .val (.int p1), .val (.int p2), .val (.int wv), .val (.ref ad_MISSING), .val (.int kv), .val .null, .val (.int (1 : Int32))] []))
        refine own_go (fun t_ kt_ => XS.aload X7.here hx rfl (hb hby at_121) rfl rfl kt_) ?_
        show own_Go p e below s _ _ _ (T7.setTop (mkF m 123 #[.val (.int p0), .val (.int p1), .val (.int p2), .val (.int wv), .val (.ref ad_MISSING), .val (.int kv), .val .null, .val (.int (1 : Int32))] [(.ref ad_MISSING)]))
        refine own_go (fun t_ kt_ => XS.aload X7.here hx rfl (hb hby at_123) rfl rfl kt_) ?_
        show own_Go p e below s _ _ _ (T7.setTop (mkF m 125 #[.val (.int p0), .val (.int p1), .val (.int p2), .val (.int wv), .val (.ref ad_MISSING), .val (.int kv), .val .null, .val (.int (1 : Int32))] [.null, (.ref ad_MISSING)]))
        obtain ⟨cq8, kq8, q8a, q8b, q8c⟩ := isOf hZ e7 E_MISSING
        obtain ⟨_, _, ⟨T8, L8, k8, n8⟩, -, X8, ⟨Lc8, hQ8, l8, y8, z8⟩, st8⟩ := X7.virtualBack hx (y := (⟨"com/example/evenkeel/evenkeel/Write$Condition", "holdsFor", "(Ljava/lang/Object;)Z"⟩ : MethodName)) (z := (⟨"com/example/evenkeel/evenkeel/Write$Condition", "holdsFor", "(Ljava/lang/Object;)Z"⟩ : MethodName)) hown (mvT hZ (hw _ (List.mem_of_getElem? (i := 4) rfl))) (mvT hZ (hw _ (List.mem_of_getElem? (i := 5) rfl))) (notFace_of_selects (args := #[]) (mvT hZ (hw _ (List.mem_of_getElem? (i := 7) rfl)))) (mvT hZ (hw _ (List.mem_of_getElem? (i := 7) rfl))) (mvT hZ (hw _ (List.mem_of_getElem? (i := 6) rfl))) (by decide) (backOf (W := 0) (rm1n l Z a0 hw [] (ad_MISSING) (ad_ALWAYS) (ad_MISSING) h0 n0 Z0 S_ALWAYS S_MISSING) hZ (hw _ (List.mem_of_getElem? (i := 8) rfl)) (hw _ (List.mem_of_getElem? (i := 2) rfl)) (by decide) (by decide)) q8a q8c (g := (mkF m 125 #[.val (.int p0), .val (.int p1), .val (.int p2), .val (.int wv), .val (.ref ad_MISSING), .val (.int kv), .val .null, .val (.int (1 : Int32))] [.null, (.ref ad_MISSING)])) rfl (by rw [hml]; rfl) (Steps.refl _) (argsL := [.null]) (rest := []) (lenOf pd_2 rfl) rfl (by show 2 * 0 + _ ≤ _; exact Nat.le_of_eq rfl) (hb hby at_125) (fun _ _ => ⟨rfl, e7, (by decide : 0 + 0 ≤ _), (by decide : 0 + 0 ≤ _)⟩)
        dsimp only [Pt.U, Pt.locs, Pt.cells, Pt.slots] at X8 l8 y8 z8 st8 hQ8
        subst l8 y8 z8
        obtain ⟨hv8, Nq8, eh8⟩ := hQ8
        rw [show (own_hf ad_MISSING ad_ALWAYS ad_MISSING true) = (1 : Int32) from by unfold own_hf; simp [ne_MA, ne_PA, ne_PM]] at hv8
        subst hv8
        have N8 := Fr.app N0 Nq8
        refine own_go (fun t_ kt_ => st8.trans kt_) ?_
        obtain ⟨lo8, X8g, N8g⟩ : ∃ lo, Stand p l e room_1 s m #[(.int p0), (.int p1), (.int p2)] below meth c T8 lo 0 0 ∧ Fr n0 lo := ⟨_, X8, N8⟩
        have e8 : T8.heap = h0 := eh8
        show own_Go p e below s _ _ _ (T8.setTop (mkF m 128 #[.val (.int p0), .val (.int p1), .val (.int p2), .val (.int wv), .val (.ref ad_MISSING), .val (.int kv), .val .null, .val (.int (1 : Int32))] [(.int (1 : Int32))]))
        refine own_go (fun t_ kt_ => XS.iload X8g.here hx rfl (hb hby at_128) rfl kt_) ?_
        show own_Go p e below s _ _ _ (T8.setTop (mkF m 130 #[.val (.int p0), .val (.int p1), .val (.int p2), .val (.int wv), .val (.ref ad_MISSING), .val (.int kv), .val .null, .val (.int (1 : Int32))] [(.int (1 : Int32)), (.int (1 : Int32))]))
        refine own_go (fun t_ kt_ => XS.icmpNo X8g.here hx rfl (hb hby at_130) rfl (teq (by decide)).2 kt_) ?_
        show own_Go p e below s _ _ _ (T8.setTop (mkF m 133 #[.val (.int p0), .val (.int p1), .val (.int p2), .val (.int wv), .val (.ref ad_MISSING), .val (.int kv), .val .null, .val (.int (1 : Int32))] []))
        refine own_go (fun t_ kt_ => XS.iconst X8g.here hx rfl (hb hby at_133) kt_) ?_
        show own_Go p e below s _ _ _ (T8.setTop (mkF m 134 #[.val (.int p0), .val (.int p1), .val (.int p2), .val (.int wv), .val (.ref ad_MISSING), .val (.int kv), .val .null, .val (.int (1 : Int32))] [(.int (1 : Int32))]))
        refine own_go (fun t_ kt_ => XS.goto X8g.here hx rfl (pc0 := 134) (pc' := 138) rfl (hb hby at_134) (by decide) (by decide) kt_) ?_
        show own_Go p e below s _ _ _ (T8.setTop (mkF m 138 #[.val (.int p0), .val (.int p1), .val (.int p2), .val (.int wv), .val (.ref ad_MISSING), .val (.int kv), .val .null, .val (.int (1 : Int32))] [(.int (1 : Int32))]))
        refine own_ret X8g (v := some (.int (1 : Int32))) (fun h => by rw [hret] at h; cases h) hlk ?_ (by decide) (by decide) (fun fs hr => retN X8g hx (t := .boolean) hret (by simp) (hb hby at_138) hr)
        show Q0 Z p0 p1 p2 ad_ALWAYS ad_MISSING ad_PRESENT ca bx h0 n0 (some (.int (1 : Int32))) T8.heap _
        rw [e8]
        exact ⟨rfl, N8g⟩
      · skip
        have hi47 : ¬ kv.toInt = 0 := fun q => hc47 (Int32.toInt_inj.mp q)
        refine own_go (fun t_ kt_ => XS.ifYes X7.here hx rfl (pc0 := 47) (pc' := 56) rfl (hb hby at_47) rfl ((if0 _ _).trans (feq hc47).2) (by decide) (by decide) kt_) ?_
        show own_Go p e below s _ _ _ (T7.setTop (mkF m 56 #[.val (.int p0), .val (.int p1), .val (.int p2), .val (.int wv), .val (.ref ad_MISSING), .val (.int kv), .unset, .unset] []))
        refine own_go (fun t_ kt_ => XS.iload X7.here hx rfl (hb hby at_56) rfl kt_) ?_
        show own_Go p e below s _ _ _ (T7.setTop (mkF m 58 #[.val (.int p0), .val (.int p1), .val (.int p2), .val (.int wv), .val (.ref ad_MISSING), .val (.int kv), .unset, .unset] [(.int kv)]))
        refine own_go (fun t_ kt_ => XS.iconst X7.here hx rfl (hb hby at_58) kt_) ?_
        show own_Go p e below s _ _ _ (T7.setTop (mkF m 59 #[.val (.int p0), .val (.int p1), .val (.int p2), .val (.int wv), .val (.ref ad_MISSING), .val (.int kv), .unset, .unset] [(.int (1 : Int32)), (.int kv)]))
        by_cases hc59 : kv = (1 : Int32)
        · skip
          have hi59 : kv.toInt = 1 := congrArg Int32.toInt hc59
          refine own_go (fun t_ kt_ => XS.icmpNo X7.here hx rfl (hb hby at_59) rfl (teq hc59).2 kt_) ?_
          show own_Go p e below s _ _ _ (T7.setTop (mkF m 62 #[.val (.int p0), .val (.int p1), .val (.int p2), .val (.int wv), .val (.ref ad_MISSING), .val (.int kv), .unset, .unset] []))
          refine own_go (fun t_ kt_ => XS.iloadN X7.here hx rfl (hb hby at_62) rfl kt_) ?_
          show own_Go p e below s _ _ _ (T7.setTop (mkF m 63 #[.val (.int p0), .val (.int p1), .val (.int p2), .val (.int wv), .val (.ref ad_MISSING), .val (.int kv), .unset, .unset] [(.int p2)]))
          refine own_go (fun t_ kt_ => XS.bipush X7.here hx rfl (hb hby at_63) kt_) ?_
          show own_Go p e below s _ _ _ (T7.setTop (mkF m 65 #[.val (.int p0), .val (.int p1), .val (.int p2), .val (.int wv), .val (.ref ad_MISSING), .val (.int kv), .unset, .unset] [(.int (7 : Int32)), (.int p2)]))
          refine own_go (fun t_ kt_ => XS.iand X7.here hx rfl (hb hby at_65) rfl kt_) ?_
          show own_Go p e below s _ _ _ (T7.setTop (mkF m 66 #[.val (.int p0), .val (.int p1), .val (.int p2), .val (.int wv), .val (.ref ad_MISSING), .val (.int kv), .unset, .unset] [(.int (p2 &&& (7 : Int32)))]))
          obtain ⟨T9, h9, k9, X9, e9, E9, A9, st9⟩ := newP X7 hx hZ (hw _ (List.mem_of_getElem? (i := 22) rfl)) e7 (g := (mkF m 66 #[.val (.int p0), .val (.int p1), .val (.int p2), .val (.int wv), .val (.ref ad_MISSING), .val (.int kv), .unset, .unset] [(.int (p2 &&& (7 : Int32)))])) rfl (hb hby at_66) rfl (own_7 p2).1 (cap := 7) (own_7 p2).2 (by decide) (by decide) (by decide)
          obtain ⟨b9, g9⟩ : ∃ z, z = h0.size := ⟨_, rfl⟩
          rw [← g9] at A9 st9
          refine own_go (fun t_ kt_ => st9 _ kt_) ?_
          have gt_b9 : n0 ≤ b9 := Nat.le_trans Z0 (Nat.le_of_eq g9.symm)
          have ne_ad_ALWAYS_b9 : ad_ALWAYS ≠ b9 := Nat.ne_of_lt (Nat.lt_of_lt_of_le E_ALWAYS.lt (Nat.le_of_eq g9.symm))
          have ne_ad_MISSING_b9 : ad_MISSING ≠ b9 := Nat.ne_of_lt (Nat.lt_of_lt_of_le E_MISSING.lt (Nat.le_of_eq g9.symm))
          have ne_ad_PRESENT_b9 : ad_PRESENT ≠ b9 := Nat.ne_of_lt (Nat.lt_of_lt_of_le E_PRESENT.lt (Nat.le_of_eq g9.symm))
          have ne_ca_b9 : ca ≠ b9 := Nat.ne_of_lt (Nat.lt_of_lt_of_le AC.lt (Nat.le_of_eq g9.symm))
          have ZZ_9 : n0 ≤ h9.size := Nat.le_trans Z0 E9.1
          have S_ALWAYS_9 : Sta Z h9 "com/example/evenkeel/evenkeel/Write$Condition" "ALWAYS" "Lcom/example/evenkeel/evenkeel/Write$Condition;" (.ref ad_ALWAYS) := S_ALWAYS.ext E9
          have EX_ALWAYS_9 : Exa Z h9 ad_ALWAYS "com/example/evenkeel/evenkeel/Write$Condition" := E_ALWAYS.ext E9
          have S_MISSING_9 : Sta Z h9 "com/example/evenkeel/evenkeel/Write$Condition" "MISSING" "Lcom/example/evenkeel/evenkeel/Write$Condition;" (.ref ad_MISSING) := S_MISSING.ext E9
          have EX_MISSING_9 : Exa Z h9 ad_MISSING "com/example/evenkeel/evenkeel/Write$Condition" := E_MISSING.ext E9
          have S_PRESENT_9 : Sta Z h9 "com/example/evenkeel/evenkeel/Write$Condition" "PRESENT" "Lcom/example/evenkeel/evenkeel/Write$Condition;" (.ref ad_PRESENT) := S_PRESENT.ext E9
          have EX_PRESENT_9 : Exa Z h9 ad_PRESENT "com/example/evenkeel/evenkeel/Write$Condition" := E_PRESENT.ext E9
          have S_high_9 : Sta Z h9 "java/lang/Integer$IntegerCache" "high" "I" (.int (127 : Int32)) := S_H.ext E9
          have S_cache_9 : Sta Z h9 "java/lang/Integer$IntegerCache" "cache" "[Ljava/lang/Integer;" (.ref ca) := S_C.ext E9
          have VC_9 : own_Ary Z h9 ca (.object "java/lang/Integer") 256 (fun j => .ref (bx j)) := AC.ext E9
          have V_b9 : own_Ary Z h9 b9 .byte (p2 &&& (7 : Int32)).toNatClampNeg (fun _ => (.int (0 : Int32))) := own_Ary.new A9 rfl
          show own_Go p e below s _ _ _ (T9.setTop (mkF m 68 #[.val (.int p0), .val (.int p1), .val (.int p2), .val (.int wv), .val (.ref ad_MISSING), .val (.int kv), .unset, .unset] [(.ref b9)]))
          refine own_go (fun t_ kt_ => XS.astore X9.here hx rfl (hb hby at_68) rfl rfl (l' := #[.val (.int p0), .val (.int p1), .val (.int p2), .val (.int wv), .val (.ref ad_MISSING), .val (.int kv), .val (.ref b9), .unset]) rfl kt_) ?_
          show own_Go p e below s _ _ _ (T9.setTop (mkF m 70 #[.val (.int p0), .val (.int p1), .val (.int p2), .val (.int wv), .val (.ref ad_MISSING), .val (.int kv), .val (.ref b9), .unset] []))
          refine own_go (fun t_ kt_ => XS.goto X9.here hx rfl (pc0 := 70) (pc' := 79) rfl (hb hby at_70) (by decide) (by decide) kt_) ?_
          show own_Go p e below s _ _ _ (T9.setTop (mkF m 79 #[.val (.int p0), .val (.int p1), .val (.int p2), .val (.int wv), .val (.ref ad_MISSING), .val (.int kv), .val (.ref b9), .unset] []))
          refine own_go (fun t_ kt_ => XS.iloadN X9.here hx rfl (hb hby at_79) rfl kt_) ?_
          show own_Go p e below s _ _ _ (T9.setTop (mkF m 80 #[.val (.int p0), .val (.int p1), .val (.int p2), .val (.int wv), .val (.ref ad_MISSING), .val (.int kv), .val (.ref b9), .unset] [(.int wv)]))
          refine own_go (fun t_ kt_ => XS.ifYes X9.here hx rfl (pc0 := 80) (pc' := 89) rfl (hb hby at_80) rfl ((if0 _ _).trans (feq hc8).2) (by decide) (by decide) kt_) ?_
          show own_Go p e below s _ _ _ (T9.setTop (mkF m 89 #[.val (.int p0), .val (.int p1), .val (.int p2), .val (.int wv), .val (.ref ad_MISSING), .val (.int kv), .val (.ref b9), .unset] []))
          refine own_go (fun t_ kt_ => XS.iloadN X9.here hx rfl (hb hby at_89) rfl kt_) ?_
          show own_Go p e below s _ _ _ (T9.setTop (mkF m 90 #[.val (.int p0), .val (.int p1), .val (.int p2), .val (.int wv), .val (.ref ad_MISSING), .val (.int kv), .val (.ref b9), .unset] [(.int wv)]))
          refine own_go (fun t_ kt_ => XS.iconst X9.here hx rfl (hb hby at_90) kt_) ?_
          show own_Go p e below s _ _ _ (T9.setTop (mkF m 91 #[.val (.int p0), .val (.int p1), .val (.int p2), .val (.int wv), .val (.ref ad_MISSING), .val (.int kv), .val (.ref b9), .unset] [(.int (1 : Int32)), (.int wv)]))
          refine own_go (fun t_ kt_ => XS.icmpNo X9.here hx rfl (hb hby at_91) rfl (teq hc21).2 kt_) ?_
          show own_Go p e below s _ _ _ (T9.setTop (mkF m 94 #[.val (.int p0), .val (.int p1), .val (.int p2), .val (.int wv), .val (.ref ad_MISSING), .val (.int kv), .val (.ref b9), .unset] []))
          refine own_go (fun t_ kt_ => XS.iload X9.here hx rfl (hb hby at_94) rfl kt_) ?_
          show own_Go p e below s _ _ _ (T9.setTop (mkF m 96 #[.val (.int p0), .val (.int p1), .val (.int p2), .val (.int wv), .val (.ref ad_MISSING), .val (.int kv), .val (.ref b9), .unset] [(.int kv)]))
          refine own_go (fun t_ kt_ => XS.ifYes X9.here hx rfl (pc0 := 96) (pc' := 103) rfl (hb hby at_96) rfl ((if0 _ _).trans (feq hc47).2) (by decide) (by decide) kt_) ?_
          show own_Go p e below s _ _ _ (T9.setTop (mkF m 103 #[.val (.int p0), .val (.int p1), .val (.int p2), .val (.int wv), .val (.ref ad_MISSING), .val (.int kv), .val (.ref b9), .unset] []))
          refine own_go (fun t_ kt_ => XS.iconst X9.here hx rfl (hb hby at_103) kt_) ?_
          show own_Go p e below s _ _ _ (T9.setTop (mkF m 104 #[.val (.int p0), .val (.int p1), .val (.int p2), .val (.int wv), .val (.ref ad_MISSING), .val (.int kv), .val (.ref b9), .unset] [(.int (0 : Int32))]))
          refine own_go (fun t_ kt_ => XS.istore X9.here hx rfl (hb hby at_104) rfl (l' := #[.val (.int p0), .val (.int p1), .val (.int p2), .val (.int wv), .val (.ref ad_MISSING), .val (.int kv), .val (.ref b9), .val (.int (0 : Int32))]) rfl kt_) ?_
          show own_Go p e below s _ _ _ (T9.setTop (mkF m 106 #[.val (.int p0), .val (.int p1), .val (.int p2), .val (.int wv), .val (.ref ad_MISSING), .val (.int kv), .val (.ref b9), .val (.int (0 : Int32))] []))
          refine own_go (fun t_ kt_ => XS.goto X9.here hx rfl (pc0 := 106) (pc' := 121) rfl (hb hby at_106) (by decide) (by decide) kt_) ?_
          show own_Go p e below s _ _ _ (T9.setTop (mkF m 121 #[.val (.int p0), .val (.int p1), .val (.int p2), .val (.int wv), .val (.ref ad_MISSING), .val (.int kv), .val (.ref b9), .val (.int (0 : Int32))] []))
          refine own_go (fun t_ kt_ => XS.aload X9.here hx rfl (hb hby at_121) rfl rfl kt_) ?_
          show own_Go p e below s _ _ _ (T9.setTop (mkF m 123 #[.val (.int p0), .val (.int p1), .val (.int p2), .val (.int wv), .val (.ref ad_MISSING), .val (.int kv), .val (.ref b9), .val (.int (0 : Int32))] [(.ref ad_MISSING)]))
          refine own_go (fun t_ kt_ => XS.aload X9.here hx rfl (hb hby at_123) rfl rfl kt_) ?_
          show own_Go p e below s _ _ _ (T9.setTop (mkF m 125 #[.val (.int p0), .val (.int p1), .val (.int p2), .val (.int wv), .val (.ref ad_MISSING), .val (.int kv), .val (.ref b9), .val (.int (0 : Int32))] [(.ref b9), (.ref ad_MISSING)]))
          obtain ⟨cq10, kq10, q10a, q10b, q10c⟩ := isOf hZ e9 EX_MISSING_9
          obtain ⟨_, _, ⟨T10, L10, k10, n10⟩, -, X10, ⟨Lc10, hQ10, l10, y10, z10⟩, st10⟩ := X9.virtualBack hx (y := (⟨"com/example/evenkeel/evenkeel/Write$Condition", "holdsFor", "(Ljava/lang/Object;)Z"⟩ : MethodName)) (z := (⟨"com/example/evenkeel/evenkeel/Write$Condition", "holdsFor", "(Ljava/lang/Object;)Z"⟩ : MethodName)) hown (mvT hZ (hw _ (List.mem_of_getElem? (i := 4) rfl))) (mvT hZ (hw _ (List.mem_of_getElem? (i := 5) rfl))) (notFace_of_selects (args := #[]) (mvT hZ (hw _ (List.mem_of_getElem? (i := 7) rfl)))) (mvT hZ (hw _ (List.mem_of_getElem? (i := 7) rfl))) (mvT hZ (hw _ (List.mem_of_getElem? (i := 6) rfl))) (by decide) (backOf (W := 0) (rm1r l Z a0 hw [] (ad_MISSING) (b9) (ad_ALWAYS) (ad_MISSING) h9 n0 ZZ_9 S_ALWAYS_9 S_MISSING_9) hZ (hw _ (List.mem_of_getElem? (i := 8) rfl)) (hw _ (List.mem_of_getElem? (i := 2) rfl)) (by decide) (by decide)) q10a q10c (g := (mkF m 125 #[.val (.int p0), .val (.int p1), .val (.int p2), .val (.int wv), .val (.ref ad_MISSING), .val (.int kv), .val (.ref b9), .val (.int (0 : Int32))] [(.ref b9), (.ref ad_MISSING)])) rfl (by rw [hml]; rfl) (Steps.refl _) (argsL := [(.ref b9)]) (rest := []) (lenOf pd_2 rfl) rfl (by show 2 * 0 + _ ≤ _; exact Nat.le_of_eq rfl) (hb hby at_125) (fun _ _ => ⟨rfl, e9, (by decide : 1 + 0 ≤ _), (by decide : 7 + 0 ≤ _)⟩)
          dsimp only [Pt.U, Pt.locs, Pt.cells, Pt.slots] at X10 l10 y10 z10 st10 hQ10
          subst l10 y10 z10
          obtain ⟨hv10, Nq10, eh10⟩ := hQ10
          rw [show (own_hf ad_MISSING ad_ALWAYS ad_MISSING false) = (0 : Int32) from by unfold own_hf; simp [ne_MA, ne_PA, ne_PM]] at hv10
          subst hv10
          have N10 := Fr.app N0 Nq10
          refine own_go (fun t_ kt_ => st10.trans kt_) ?_
          obtain ⟨lo10, X10g, N10g⟩ : ∃ lo, Stand p l e room_1 s m #[(.int p0), (.int p1), (.int p2)] below meth c T10 lo 1 7 ∧ Fr n0 lo := ⟨_, X10, N10⟩
          have e10 : T10.heap = h9 := eh10
          show own_Go p e below s _ _ _ (T10.setTop (mkF m 128 #[.val (.int p0), .val (.int p1), .val (.int p2), .val (.int wv), .val (.ref ad_MISSING), .val (.int kv), .val (.ref b9), .val (.int (0 : Int32))] [(.int (0 : Int32))]))
          refine own_go (fun t_ kt_ => XS.iload X10g.here hx rfl (hb hby at_128) rfl kt_) ?_
          show own_Go p e below s _ _ _ (T10.setTop (mkF m 130 #[.val (.int p0), .val (.int p1), .val (.int p2), .val (.int wv), .val (.ref ad_MISSING), .val (.int kv), .val (.ref b9), .val (.int (0 : Int32))] [(.int (0 : Int32)), (.int (0 : Int32))]))
          refine own_go (fun t_ kt_ => XS.icmpNo X10g.here hx rfl (hb hby at_130) rfl (teq (by decide)).2 kt_) ?_
          show own_Go p e below s _ _ _ (T10.setTop (mkF m 133 #[.val (.int p0), .val (.int p1), .val (.int p2), .val (.int wv), .val (.ref ad_MISSING), .val (.int kv), .val (.ref b9), .val (.int (0 : Int32))] []))
          refine own_go (fun t_ kt_ => XS.iconst X10g.here hx rfl (hb hby at_133) kt_) ?_
          show own_Go p e below s _ _ _ (T10.setTop (mkF m 134 #[.val (.int p0), .val (.int p1), .val (.int p2), .val (.int wv), .val (.ref ad_MISSING), .val (.int kv), .val (.ref b9), .val (.int (0 : Int32))] [(.int (1 : Int32))]))
          refine own_go (fun t_ kt_ => XS.goto X10g.here hx rfl (pc0 := 134) (pc' := 138) rfl (hb hby at_134) (by decide) (by decide) kt_) ?_
          show own_Go p e below s _ _ _ (T10.setTop (mkF m 138 #[.val (.int p0), .val (.int p1), .val (.int p2), .val (.int wv), .val (.ref ad_MISSING), .val (.int kv), .val (.ref b9), .val (.int (0 : Int32))] [(.int (1 : Int32))]))
          refine own_ret X10g (v := some (.int (1 : Int32))) (fun h => by rw [hret] at h; cases h) hlk ?_ (by decide) (by decide) (fun fs hr => retN X10g hx (t := .boolean) hret (by simp) (hb hby at_138) hr)
          show Q0 Z p0 p1 p2 ad_ALWAYS ad_MISSING ad_PRESENT ca bx h0 n0 (some (.int (1 : Int32))) T10.heap _
          rw [e10]
          exact ⟨rfl, N10g⟩
        · skip
          have hi59 : ¬ kv.toInt = 1 := fun q => hc59 (Int32.toInt_inj.mp q)
          refine own_go (fun t_ kt_ => XS.icmpYes X7.here hx rfl (pc0 := 59) (pc' := 73) rfl (hb hby at_59) rfl (feq hc59).2 (by decide) (by decide) kt_) ?_
          show own_Go p e below s _ _ _ (T7.setTop (mkF m 73 #[.val (.int p0), .val (.int p1), .val (.int p2), .val (.int wv), .val (.ref ad_MISSING), .val (.int kv), .unset, .unset] []))
          refine own_go (fun t_ kt_ => XS.iloadN X7.here hx rfl (hb hby at_73) rfl kt_) ?_
          show own_Go p e below s _ _ _ (T7.setTop (mkF m 74 #[.val (.int p0), .val (.int p1), .val (.int p2), .val (.int wv), .val (.ref ad_MISSING), .val (.int kv), .unset, .unset] [(.int p2)]))
          obtain ⟨_, _, ⟨T11, L11, k11, n11⟩, -, X11, ⟨Lc11, hQ11, l11, y11, z11⟩, st11⟩ := Jvm.LawKit.callS X7 hx (y := (⟨"java/lang/Integer", "valueOf", "(I)Ljava/lang/Integer;"⟩ : MethodName)) hown (mvT hZ (hw _ (List.mem_of_getElem? (i := 15) rfl))) (mvT hZ (hw _ (List.mem_of_getElem? (i := 16) rfl))) (mvT hZ (hw _ (List.mem_of_getElem? (i := 17) rfl))) (mvT hZ (hw _ (List.mem_of_getElem? (i := 18) rfl))) (by decide) (backOf (W := 0) (rm2 l Z a0 hw [] (p2) (ca) (bx) h0 n0 Z0 S_H S_C AC) hZ (hw _ (List.mem_of_getElem? (i := 18) rfl)) (hw _ (List.mem_of_getElem? (i := 17) rfl)) (by decide) (by decide)) (g := (mkF m 74 #[.val (.int p0), .val (.int p1), .val (.int p2), .val (.int wv), .val (.ref ad_MISSING), .val (.int kv), .unset, .unset] [(.int p2)])) rfl (by rw [hml]; rfl) (argsL := [(.int p2)]) (rest := []) (lenOf pd_3 rfl) rfl (by show 2 * 0 + _ ≤ _; exact Nat.le_of_eq rfl) (hb hby at_74) (fun _ _ => ⟨rfl, e7, (by decide : 0 + 1 ≤ _), (by decide : 0 + 1 ≤ _)⟩)
          dsimp only [Pt.U, Pt.locs, Pt.cells, Pt.slots] at X11 l11 y11 z11 st11 hQ11
          subst l11 y11 z11
          obtain ⟨bi, rfl, Nq11, Kq11⟩ := hQ11
          have N11 := Fr.app N0 Nq11
          refine own_go (fun t_ kt_ => st11 _ kt_) ?_
          obtain ⟨lo11, X11g, N11g⟩ : ∃ lo, Stand p l e room_1 s m #[(.int p0), (.int p1), (.int p2)] below meth c T11 lo 1 1 ∧ Fr n0 lo := ⟨_, X11, N11⟩
          obtain ⟨h11, e11⟩ : ∃ z, T11.heap = z := ⟨_, rfl⟩
          rw [e11] at Kq11
          have ZZ_11 : n0 ≤ h11.size := Nat.le_trans Z0 Kq11.1
          have S_ALWAYS_11 : Sta Z h11 "com/example/evenkeel/evenkeel/Write$Condition" "ALWAYS" "Lcom/example/evenkeel/evenkeel/Write$Condition;" (.ref ad_ALWAYS) := own_sta_keep S_ALWAYS Kq11
          have EX_ALWAYS_11 : Exa Z h11 ad_ALWAYS "com/example/evenkeel/evenkeel/Write$Condition" := E_ALWAYS.keep Kq11
          have S_MISSING_11 : Sta Z h11 "com/example/evenkeel/evenkeel/Write$Condition" "MISSING" "Lcom/example/evenkeel/evenkeel/Write$Condition;" (.ref ad_MISSING) := own_sta_keep S_MISSING Kq11
          have EX_MISSING_11 : Exa Z h11 ad_MISSING "com/example/evenkeel/evenkeel/Write$Condition" := E_MISSING.keep Kq11
          have S_PRESENT_11 : Sta Z h11 "com/example/evenkeel/evenkeel/Write$Condition" "PRESENT" "Lcom/example/evenkeel/evenkeel/Write$Condition;" (.ref ad_PRESENT) := own_sta_keep S_PRESENT Kq11
          have EX_PRESENT_11 : Exa Z h11 ad_PRESENT "com/example/evenkeel/evenkeel/Write$Condition" := E_PRESENT.keep Kq11
          have S_high_11 : Sta Z h11 "java/lang/Integer$IntegerCache" "high" "I" (.int (127 : Int32)) := own_sta_keep S_H Kq11
          have S_cache_11 : Sta Z h11 "java/lang/Integer$IntegerCache" "cache" "[Ljava/lang/Integer;" (.ref ca) := own_sta_keep S_C Kq11
          have VC_11 : own_Ary Z h11 ca (.object "java/lang/Integer") 256 (fun j => .ref (bx j)) := AC.keep Kq11 nin0
          show own_Go p e below s _ _ _ (T11.setTop (mkF m 77 #[.val (.int p0), .val (.int p1), .val (.int p2), .val (.int wv), .val (.ref ad_MISSING), .val (.int kv), .unset, .unset] [(.ref bi)]))
          refine own_go (fun t_ kt_ => XS.astore X11g.here hx rfl (hb hby at_77) rfl rfl (l' := #[.val (.int p0), .val (.int p1), .val (.int p2), .val (.int wv), .val (.ref ad_MISSING), .val (.int kv), .val (.ref bi), .unset]) rfl kt_) ?_
          show own_Go p e below s _ _ _ (T11.setTop (mkF m 79 #[.val (.int p0), .val (.int p1), .val (.int p2), .val (.int wv), .val (.ref ad_MISSING), .val (.int kv), .val (.ref bi), .unset] []))
          refine own_go (fun t_ kt_ => XS.iloadN X11g.here hx rfl (hb hby at_79) rfl kt_) ?_
          show own_Go p e below s _ _ _ (T11.setTop (mkF m 80 #[.val (.int p0), .val (.int p1), .val (.int p2), .val (.int wv), .val (.ref ad_MISSING), .val (.int kv), .val (.ref bi), .unset] [(.int wv)]))
          refine own_go (fun t_ kt_ => XS.ifYes X11g.here hx rfl (pc0 := 80) (pc' := 89) rfl (hb hby at_80) rfl ((if0 _ _).trans (feq hc8).2) (by decide) (by decide) kt_) ?_
          show own_Go p e below s _ _ _ (T11.setTop (mkF m 89 #[.val (.int p0), .val (.int p1), .val (.int p2), .val (.int wv), .val (.ref ad_MISSING), .val (.int kv), .val (.ref bi), .unset] []))
          refine own_go (fun t_ kt_ => XS.iloadN X11g.here hx rfl (hb hby at_89) rfl kt_) ?_
          show own_Go p e below s _ _ _ (T11.setTop (mkF m 90 #[.val (.int p0), .val (.int p1), .val (.int p2), .val (.int wv), .val (.ref ad_MISSING), .val (.int kv), .val (.ref bi), .unset] [(.int wv)]))
          refine own_go (fun t_ kt_ => XS.iconst X11g.here hx rfl (hb hby at_90) kt_) ?_
          show own_Go p e below s _ _ _ (T11.setTop (mkF m 91 #[.val (.int p0), .val (.int p1), .val (.int p2), .val (.int wv), .val (.ref ad_MISSING), .val (.int kv), .val (.ref bi), .unset] [(.int (1 : Int32)), (.int wv)]))
          refine own_go (fun t_ kt_ => XS.icmpNo X11g.here hx rfl (hb hby at_91) rfl (teq hc21).2 kt_) ?_
          show own_Go p e below s _ _ _ (T11.setTop (mkF m 94 #[.val (.int p0), .val (.int p1), .val (.int p2), .val (.int wv), .val (.ref ad_MISSING), .val (.int kv), .val (.ref bi), .unset] []))
          refine own_go (fun t_ kt_ => XS.iload X11g.here hx rfl (hb hby at_94) rfl kt_) ?_
          show own_Go p e below s _ _ _ (T11.setTop (mkF m 96 #[.val (.int p0), .val (.int p1), .val (.int p2), .val (.int wv), .val (.ref ad_MISSING), .val (.int kv), .val (.ref bi), .unset] [(.int kv)]))
          refine own_go (fun t_ kt_ => XS.ifYes X11g.here hx rfl (pc0 := 96) (pc' := 103) rfl (hb hby at_96) rfl ((if0 _ _).trans (feq hc47).2) (by decide) (by decide) kt_) ?_
          show own_Go p e below s _ _ _ (T11.setTop (mkF m 103 #[.val (.int p0), .val (.int p1), .val (.int p2), .val (.int wv), .val (.ref ad_MISSING), .val (.int kv), .val (.ref bi), .unset] []))
          refine own_go (fun t_ kt_ => XS.iconst X11g.here hx rfl (hb hby at_103) kt_) ?_
          show own_Go p e below s _ _ _ (T11.setTop (mkF m 104 #[.val (.int p0), .val (.int p1), .val (.int p2), .val (.int wv), .val (.ref ad_MISSING), .val (.int kv), .val (.ref bi), .unset] [(.int (0 : Int32))]))
          refine own_go (fun t_ kt_ => XS.istore X11g.here hx rfl (hb hby at_104) rfl (l' := #[.val (.int p0), .val (.int p1), .val (.int p2), .val (.int wv), .val (.ref ad_MISSING), .val (.int kv), .val (.ref bi), .val (.int (0 : Int32))]) rfl kt_) ?_
          show own_Go p e below s _ _ _ (T11.setTop (mkF m 106 #[.val (.int p0), .val (.int p1), .val (.int p2), .val (.int wv), .val (.ref ad_MISSING), .val (.int kv), .val (.ref bi), .val (.int (0 : Int32))] []))
          refine own_go (fun t_ kt_ => XS.goto X11g.here hx rfl (pc0 := 106) (pc' := 121) rfl (hb hby at_106) (by decide) (by decide) kt_) ?_
          show own_Go p e below s _ _ _ (T11.setTop (mkF m 121 #[.val (.int p0), .val (.int p1), .val (.int p2), .val (.int wv), .val (.ref ad_MISSING), .val (.int kv), .val (.ref bi), .val (.int (0 : Int32))] []))
          refine own_go (fun t_ kt_ => XS.aload X11g.here hx rfl (hb hby at_121) rfl rfl kt_) ?_
          show own_Go p e below s _ _ _ (T11.setTop (mkF m 123 #[.val (.int p0), .val (.int p1), .val (.int p2), .val (.int wv), .val (.ref ad_MISSING), .val (.int kv), .val (.ref bi), .val (.int (0 : Int32))] [(.ref ad_MISSING)]))
          refine own_go (fun t_ kt_ => XS.aload X11g.here hx rfl (hb hby at_123) rfl rfl kt_) ?_
          show own_Go p e below s _ _ _ (T11.setTop (mkF m 125 #[.val (.int p0), .val (.int p1), .val (.int p2), .val (.int wv), .val (.ref ad_MISSING), .val (.int kv), .val (.ref bi), .val (.int (0 : Int32))] [(.ref bi), (.ref ad_MISSING)]))
          obtain ⟨cq12, kq12, q12a, q12b, q12c⟩ := isOf hZ e11 EX_MISSING_11
          obtain ⟨_, _, ⟨T12, L12, k12, n12⟩, -, X12, ⟨Lc12, hQ12, l12, y12, z12⟩, st12⟩ := X11g.virtualBack hx (y := (⟨"com/example/evenkeel/evenkeel/Write$Condition", "holdsFor", "(Ljava/lang/Object;)Z"⟩ : MethodName)) (z := (⟨"com/example/evenkeel/evenkeel/Write$Condition", "holdsFor", "(Ljava/lang/Object;)Z"⟩ : MethodName)) hown (mvT hZ (hw _ (List.mem_of_getElem? (i := 4) rfl))) (mvT hZ (hw _ (List.mem_of_getElem? (i := 5) rfl))) (notFace_of_selects (args := #[]) (mvT hZ (hw _ (List.mem_of_getElem? (i := 7) rfl)))) (mvT hZ (hw _ (List.mem_of_getElem? (i := 7) rfl))) (mvT hZ (hw _ (List.mem_of_getElem? (i := 6) rfl))) (by decide) (backOf (W := 0) (rm1r l Z a0 hw [] (ad_MISSING) (bi) (ad_ALWAYS) (ad_MISSING) h11 n0 ZZ_11 S_ALWAYS_11 S_MISSING_11) hZ (hw _ (List.mem_of_getElem? (i := 8) rfl)) (hw _ (List.mem_of_getElem? (i := 2) rfl)) (by decide) (by decide)) q12a q12c (g := (mkF m 125 #[.val (.int p0), .val (.int p1), .val (.int p2), .val (.int wv), .val (.ref ad_MISSING), .val (.int kv), .val (.ref bi), .val (.int (0 : Int32))] [(.ref bi), (.ref ad_MISSING)])) rfl (by rw [hml]; rfl) (Steps.refl _) (argsL := [(.ref bi)]) (rest := []) (lenOf pd_2 rfl) rfl (by show 2 * 0 + _ ≤ _; exact Nat.le_of_eq rfl) (hb hby at_125) (fun _ _ => ⟨rfl, e11, (by decide : 1 + 0 ≤ _), (by decide : 1 + 0 ≤ _)⟩)
          dsimp only [Pt.U, Pt.locs, Pt.cells, Pt.slots] at X12 l12 y12 z12 st12 hQ12
          subst l12 y12 z12
          obtain ⟨hv12, Nq12, eh12⟩ := hQ12
          rw [show (own_hf ad_MISSING ad_ALWAYS ad_MISSING false) = (0 : Int32) from by unfold own_hf; simp [ne_MA, ne_PA, ne_PM]] at hv12
          subst hv12
          have N12 := Fr.app N11g Nq12
          refine own_go (fun t_ kt_ => st12.trans kt_) ?_
          obtain ⟨lo12, X12g, N12g⟩ : ∃ lo, Stand p l e room_1 s m #[(.int p0), (.int p1), (.int p2)] below meth c T12 lo 1 1 ∧ Fr n0 lo := ⟨_, X12, N12⟩
          have e12 : T12.heap = h11 := eh12
          show own_Go p e below s _ _ _ (T12.setTop (mkF m 128 #[.val (.int p0), .val (.int p1), .val (.int p2), .val (.int wv), .val (.ref ad_MISSING), .val (.int kv), .val (.ref bi), .val (.int (0 : Int32))] [(.int (0 : Int32))]))
          refine own_go (fun t_ kt_ => XS.iload X12g.here hx rfl (hb hby at_128) rfl kt_) ?_
          show own_Go p e below s _ _ _ (T12.setTop (mkF m 130 #[.val (.int p0), .val (.int p1), .val (.int p2), .val (.int wv), .val (.ref ad_MISSING), .val (.int kv), .val (.ref bi), .val (.int (0 : Int32))] [(.int (0 : Int32)), (.int (0 : Int32))]))
          refine own_go (fun t_ kt_ => XS.icmpNo X12g.here hx rfl (hb hby at_130) rfl (teq (by decide)).2 kt_) ?_
          show own_Go p e below s _ _ _ (T12.setTop (mkF m 133 #[.val (.int p0), .val (.int p1), .val (.int p2), .val (.int wv), .val (.ref ad_MISSING), .val (.int kv), .val (.ref bi), .val (.int (0 : Int32))] []))
          refine own_go (fun t_ kt_ => XS.iconst X12g.here hx rfl (hb hby at_133) kt_) ?_
          show own_Go p e below s _ _ _ (T12.setTop (mkF m 134 #[.val (.int p0), .val (.int p1), .val (.int p2), .val (.int wv), .val (.ref ad_MISSING), .val (.int kv), .val (.ref bi), .val (.int (0 : Int32))] [(.int (1 : Int32))]))
          refine own_go (fun t_ kt_ => XS.goto X12g.here hx rfl (pc0 := 134) (pc' := 138) rfl (hb hby at_134) (by decide) (by decide) kt_) ?_
          show own_Go p e below s _ _ _ (T12.setTop (mkF m 138 #[.val (.int p0), .val (.int p1), .val (.int p2), .val (.int wv), .val (.ref ad_MISSING), .val (.int kv), .val (.ref bi), .val (.int (0 : Int32))] [(.int (1 : Int32))]))
          refine own_ret X12g (v := some (.int (1 : Int32))) (fun h => by rw [hret] at h; cases h) hlk ?_ (by decide) (by decide) (fun fs hr => retN X12g hx (t := .boolean) hret (by simp) (hb hby at_138) hr)
          show Q0 Z p0 p1 p2 ad_ALWAYS ad_MISSING ad_PRESENT ca bx h0 n0 (some (.int (1 : Int32))) T12.heap _
          rw [e12]
          exact ⟨rfl, N12g⟩
    · skip
      have hi21 : ¬ wv.toInt = 1 := fun q => hc21 (Int32.toInt_inj.mp q)
      refine own_go (fun t_ kt_ => XS.icmpYes X0.here hx rfl (pc0 := 21) (pc' := 32) rfl (hb hby at_21) rfl (feq hc21).2 (by decide) (by decide) kt_) ?_
      show own_Go p e below s _ _ _ (s₁.setTop (mkF m 32 #[.val (.int p0), .val (.int p1), .val (.int p2), .val (.int wv), .unset, .unset, .unset, .unset] []))
      obtain ⟨T13, X13, e13, st13⟩ := getS2 X0 hx hZ hown (host := "") (Or.inl (hw _ (List.mem_of_getElem? (i := 13) rfl))) Via.refl e0 S_PRESENT (g := (mkF m 32 #[.val (.int p0), .val (.int p1), .val (.int p2), .val (.int wv), .unset, .unset, .unset, .unset] [])) rfl (hb hby at_32)
      refine own_go (fun t_ kt_ => st13 _ kt_) ?_
      show own_Go p e below s _ _ _ (T13.setTop (mkF m 35 #[.val (.int p0), .val (.int p1), .val (.int p2), .val (.int wv), .unset, .unset, .unset, .unset] [(.ref ad_PRESENT)]))
      refine own_go (fun t_ kt_ => XS.astore X13.here hx rfl (hb hby at_35) rfl rfl (l' := #[.val (.int p0), .val (.int p1), .val (.int p2), .val (.int wv), .val (.ref ad_PRESENT), .unset, .unset, .unset]) rfl kt_) ?_
      show own_Go p e below s _ _ _ (T13.setTop (mkF m 37 #[.val (.int p0), .val (.int p1), .val (.int p2), .val (.int wv), .val (.ref ad_PRESENT), .unset, .unset, .unset] []))
      refine own_go (fun t_ kt_ => XS.iloadN X13.here hx rfl (hb hby at_37) rfl kt_) ?_
      show own_Go p e below s _ _ _ (T13.setTop (mkF m 38 #[.val (.int p0), .val (.int p1), .val (.int p2), .val (.int wv), .val (.ref ad_PRESENT), .unset, .unset, .unset] [(.int p1)]))
      refine own_go (fun t_ kt_ => X13.ldcInt hx hown (mvT hZ (hw _ (List.mem_of_getElem? (i := 0) rfl))) (g := (mkF m 38 #[.val (.int p0), .val (.int p1), .val (.int p2), .val (.int wv), .val (.ref ad_PRESENT), .unset, .unset, .unset] [(.int p1)])) rfl (hb hby at_38) _ kt_) ?_
      show own_Go p e below s _ _ _ (T13.setTop (mkF m 40 #[.val (.int p0), .val (.int p1), .val (.int p2), .val (.int wv), .val (.ref ad_PRESENT), .unset, .unset, .unset] [(.int (2147483647 : Int32)), (.int p1)]))
      refine own_go (fun t_ kt_ => XS.iand X13.here hx rfl (hb hby at_40) rfl kt_) ?_
      show own_Go p e below s _ _ _ (T13.setTop (mkF m 41 #[.val (.int p0), .val (.int p1), .val (.int p2), .val (.int wv), .val (.ref ad_PRESENT), .unset, .unset, .unset] [(.int (p1 &&& (2147483647 : Int32)))]))
      refine own_go (fun t_ kt_ => XS.iconst X13.here hx rfl (hb hby at_41) kt_) ?_
      show own_Go p e below s _ _ _ (T13.setTop (mkF m 42 #[.val (.int p0), .val (.int p1), .val (.int p2), .val (.int wv), .val (.ref ad_PRESENT), .unset, .unset, .unset] [(.int (3 : Int32)), (.int (p1 &&& (2147483647 : Int32)))]))
      refine own_go (fun t_ kt_ => iremM X13 hx rfl (hb hby at_42) rfl (by decide) kt_) ?_
      show own_Go p e below s _ _ _ (T13.setTop (mkF m 43 #[.val (.int p0), .val (.int p1), .val (.int p2), .val (.int wv), .val (.ref ad_PRESENT), .unset, .unset, .unset] [(.int ((p1 &&& (2147483647 : Int32)) % (3 : Int32)))]))
      refine own_go (fun t_ kt_ => XS.istore X13.here hx rfl (hb hby at_43) rfl (l' := #[.val (.int p0), .val (.int p1), .val (.int p2), .val (.int wv), .val (.ref ad_PRESENT), .val (.int ((p1 &&& (2147483647 : Int32)) % (3 : Int32))), .unset, .unset]) rfl kt_) ?_
      show own_Go p e below s _ _ _ (T13.setTop (mkF m 45 #[.val (.int p0), .val (.int p1), .val (.int p2), .val (.int wv), .val (.ref ad_PRESENT), .val (.int ((p1 &&& (2147483647 : Int32)) % (3 : Int32))), .unset, .unset] []))
      obtain ⟨kv, hkv⟩ : ∃ z, z = ((p1 &&& (2147483647 : Int32)) % (3 : Int32)) := ⟨_, rfl⟩
      rw [← hkv]
      show own_Go p e below s _ _ _ (T13.setTop (mkF m 45 #[.val (.int p0), .val (.int p1), .val (.int p2), .val (.int wv), .val (.ref ad_PRESENT), .val (.int kv), .unset, .unset] []))
      refine own_go (fun t_ kt_ => XS.iload X13.here hx rfl (hb hby at_45) rfl kt_) ?_
      show own_Go p e below s _ _ _ (T13.setTop (mkF m 47 #[.val (.int p0), .val (.int p1), .val (.int p2), .val (.int wv), .val (.ref ad_PRESENT), .val (.int kv), .unset, .unset] [(.int kv)]))
      by_cases hc47 : kv = (0 : Int32)
      · skip
        have hi47 : kv.toInt = 0 := congrArg Int32.toInt hc47
        refine own_go (fun t_ kt_ => XS.ifNo X13.here hx rfl (hb hby at_47) rfl ((if0 _ _).trans (teq hc47).2) kt_) ?_
        show own_Go p e below s _ _ _ (T13.setTop (mkF m 50 #[.val (.int p0), .val (.int p1), .val (.int p2), .val (.int wv), .val (.ref ad_PRESENT), .val (.int kv), .unset, .unset] []))
        refine own_go (fun t_ kt_ => XS.aconstNull X13.here hx rfl (hb hby at_50) kt_) ?_
        show own_Go p e below s _ _ _ (T13.setTop (mkF m 51 #[.val (.int p0), .val (.int p1), .val (.int p2), .val (.int wv), .val (.ref ad_PRESENT), .val (.int kv), .unset, .unset] [.null]))
        refine own_go (fun t_ kt_ => XS.astore X13.here hx rfl (hb hby at_51) rfl rfl (l' := #[.val (.int p0), .val (.int p1), .val (.int p2), .val (.int wv), .val (.ref ad_PRESENT), .val (.int kv), .val .null, .unset]) rfl kt_) ?_
        show own_Go p e below s _ _ _ (T13.setTop (mkF m 53 #[.val (.int p0), .val (.int p1), .val (.int p2), .val (.int wv), .val (.ref ad_PRESENT), .val (.int kv), .val .null, .unset] []))
        refine own_go (fun t_ kt_ => XS.goto X13.here hx rfl (pc0 := 53) (pc' := 79) rfl (hb hby at_53) (by decide) (by decide) kt_) ?_
        show own_Go p e below s _ _ _ (T13.setTop (mkF m 79 #[.val (.int p0), .val (.int p1), .val (.int p2), .val (.int wv), .val (.ref ad_PRESENT), .val (.int kv), .val .null, .unset] []))
        refine own_go (fun t_ kt_ => XS.iloadN X13.here hx rfl (hb hby at_79) rfl kt_) ?_
        show own_Go p e below s _ _ _ (T13.setTop (mkF m 80 #[.val (.int p0), .val (.int p1), .val (.int p2), .val (.int wv), .val (.ref ad_PRESENT), .val (.int kv), .val .null, .unset] [(.int wv)]))
        refine own_go (fun t_ kt_ => XS.ifYes X13.here hx rfl (pc0 := 80) (pc' := 89) rfl (hb hby at_80) rfl ((if0 _ _).trans (feq hc8).2) (by decide) (by decide) kt_) ?_
        show own_Go p e below s _ _ _ (T13.setTop (mkF m 89 #[.val (.int p0), .val (.int p1), .val (.int p2), .val (.int wv), .val (.ref ad_PRESENT), .val (.int kv), .val .null, .unset] []))
        refine own_go (fun t_ kt_ => XS.iloadN X13.here hx rfl (hb hby at_89) rfl kt_) ?_
        show own_Go p e below s _ _ _ (T13.setTop (mkF m 90 #[.val (.int p0), .val (.int p1), .val (.int p2), .val (.int wv), .val (.ref ad_PRESENT), .val (.int kv), .val .null, .unset] [(.int wv)]))
        refine own_go (fun t_ kt_ => XS.iconst X13.here hx rfl (hb hby at_90) kt_) ?_
        show own_Go p e below s _ _ _ (T13.setTop (mkF m 91 #[.val (.int p0), .val (.int p1), .val (.int p2), .val (.int wv), .val (.ref ad_PRESENT), .val (.int kv), .val .null, .unset] [(.int (1 : Int32)), (.int wv)]))
        refine own_go (fun t_ kt_ => XS.icmpYes X13.here hx rfl (pc0 := 91) (pc' := 109) rfl (hb hby at_91) rfl (feq hc21).2 (by decide) (by decide) kt_) ?_
        show own_Go p e below s _ _ _ (T13.setTop (mkF m 109 #[.val (.int p0), .val (.int p1), .val (.int p2), .val (.int wv), .val (.ref ad_PRESENT), .val (.int kv), .val .null, .unset] []))
        refine own_go (fun t_ kt_ => XS.iload X13.here hx rfl (hb hby at_109) rfl kt_) ?_
        show own_Go p e below s _ _ _ (T13.setTop (mkF m 111 #[.val (.int p0), .val (.int p1), .val (.int p2), .val (.int wv), .val (.ref ad_PRESENT), .val (.int kv), .val .null, .unset] [(.int kv)]))
        refine own_go (fun t_ kt_ => XS.ifYes X13.here hx rfl (pc0 := 111) (pc' := 118) rfl (hb hby at_111) rfl ((if0 _ _).trans (teq hc47).1) (by decide) (by decide) kt_) ?_
        show own_Go p e below s _ _ _ (T13.setTop (mkF m 118 #[.val (.int p0), .val (.int p1), .val (.int p2), .val (.int wv), .val (.ref ad_PRESENT), .val (.int kv), .val .null, .unset] []))
        refine own_go (fun t_ kt_ => XS.iconst X13.here hx rfl (hb hby at_118) kt_) ?_
        show own_Go p e below s _ _ _ (T13.setTop (mkF m 119 #[.val (.int p0), .val (.int p1), .val (.int p2), .val (.int wv), .val (.ref ad_PRESENT), .val (.int kv), .val .null, .unset] [(.int (0 : Int32))]))
        refine own_go (fun t_ kt_ => XS.istore X13.here hx rfl (hb hby at_119) rfl (l' := #[.val (.int p0), .val (.int p1), .val (.int p2), .val (.int wv), .val (.ref ad_PRESENT), .val (.int kv), .val .null, .val (.int (0 : Int32))]) rfl kt_) ?_
        show own_Go p e below s _ _ _ (T13.setTop (mkF m 121 #[.val (.int p0), .val (.int p1), .val (.int p2), .val (.int wv), .val (.ref ad_PRESENT), .val (.int kv), .val .null, .val (.int (0 : Int32))] []))
        refine own_go (fun t_ kt_ => XS.aload X13.here hx rfl (hb hby at_121) rfl rfl kt_) ?_
        show own_Go p e below s _ _ _ (T13.setTop (mkF m 123 #[.val (.int p0), .val (.int p1), .val (.int p2), .val (.int wv), .val (.ref ad_PRESENT), .val (.int kv), .val .null, .val (.int (0 : Int32))] [(.ref ad_PRESENT)]))
        refine own_go (fun t_ kt_ => XS.aload X13.here hx rfl (hb hby at_123) rfl rfl kt_) ?_
        show own_Go p e below s _ _ _ (T13.setTop (mkF m 125 #[.val (.int p0), .val (.int p1), .val (.int p2), .val (.int wv), .val (.ref ad_PRESENT), .val (.int kv), .val .null, .val (.int (0 : Int32))] [.null, (.ref ad_PRESENT)]))
        obtain ⟨cq14, kq14, q14a, q14b, q14c⟩ := isOf hZ e13 E_PRESENT
        obtain ⟨_, _, ⟨T14, L14, k14, n14⟩, -, X14, ⟨Lc14, hQ14, l14, y14, z14⟩, st14⟩ := X13.virtualBack hx (y := (⟨"com/example/evenkeel/evenkeel/Write$Condition", "holdsFor", "(Ljava/lang/Object;)Z"⟩ : MethodName)) (z := (⟨"com/example/evenkeel/evenkeel/Write$Condition", "holdsFor", "(Ljava/lang/Object;)Z"⟩ : MethodName)) hown (mvT hZ (hw _ (List.mem_of_getElem? (i := 4) rfl))) (mvT hZ (hw _ (List.mem_of_getElem? (i := 5) rfl))) (notFace_of_selects (args := #[]) (mvT hZ (hw _ (List.mem_of_getElem? (i := 7) rfl)))) (mvT hZ (hw _ (List.mem_of_getElem? (i := 7) rfl))) (mvT hZ (hw _ (List.mem_of_getElem? (i := 6) rfl))) (by decide) (backOf (W := 0) (rm1n l Z a0 hw [] (ad_PRESENT) (ad_ALWAYS) (ad_MISSING) h0 n0 Z0 S_ALWAYS S_MISSING) hZ (hw _ (List.mem_of_getElem? (i := 8) rfl)) (hw _ (List.mem_of_getElem? (i := 2) rfl)) (by decide) (by decide)) q14a q14c (g := (mkF m 125 #[.val (.int p0), .val (.int p1), .val (.int p2), .val (.int wv), .val (.ref ad_PRESENT), .val (.int kv), .val .null, .val (.int (0 : Int32))] [.null, (.ref ad_PRESENT)])) rfl (by rw [hml]; rfl) (Steps.refl _) (argsL := [.null]) (rest := []) (lenOf pd_2 rfl) rfl (by show 2 * 0 + _ ≤ _; exact Nat.le_of_eq rfl) (hb hby at_125) (fun _ _ => ⟨rfl, e13, (by decide : 0 + 0 ≤ _), (by decide : 0 + 0 ≤ _)⟩)
        dsimp only [Pt.U, Pt.locs, Pt.cells, Pt.slots] at X14 l14 y14 z14 st14 hQ14
        subst l14 y14 z14
        obtain ⟨hv14, Nq14, eh14⟩ := hQ14
        rw [show (own_hf ad_PRESENT ad_ALWAYS ad_MISSING true) = (0 : Int32) from by unfold own_hf; simp [ne_MA, ne_PA, ne_PM]] at hv14
        subst hv14
        have N14 := Fr.app N0 Nq14
        refine own_go (fun t_ kt_ => st14.trans kt_) ?_
        obtain ⟨lo14, X14g, N14g⟩ : ∃ lo, Stand p l e room_1 s m #[(.int p0), (.int p1), (.int p2)] below meth c T14 lo 0 0 ∧ Fr n0 lo := ⟨_, X14, N14⟩
        have e14 : T14.heap = h0 := eh14
        show own_Go p e below s _ _ _ (T14.setTop (mkF m 128 #[.val (.int p0), .val (.int p1), .val (.int p2), .val (.int wv), .val (.ref ad_PRESENT), .val (.int kv), .val .null, .val (.int (0 : Int32))] [(.int (0 : Int32))]))
        refine own_go (fun t_ kt_ => XS.iload X14g.here hx rfl (hb hby at_128) rfl kt_) ?_
        show own_Go p e below s _ _ _ (T14.setTop (mkF m 130 #[.val (.int p0), .val (.int p1), .val (.int p2), .val (.int wv), .val (.ref ad_PRESENT), .val (.int kv), .val .null, .val (.int (0 : Int32))] [(.int (0 : Int32)), (.int (0 : Int32))]))
        refine own_go (fun t_ kt_ => XS.icmpNo X14g.here hx rfl (hb hby at_130) rfl (teq (by decide)).2 kt_) ?_
        show own_Go p e below s _ _ _ (T14.setTop (mkF m 133 #[.val (.int p0), .val (.int p1), .val (.int p2), .val (.int wv), .val (.ref ad_PRESENT), .val (.int kv), .val .null, .val (.int (0 : Int32))] []))
        refine own_go (fun t_ kt_ => XS.iconst X14g.here hx rfl (hb hby at_133) kt_) ?_
        show own_Go p e below s _ _ _ (T14.setTop (mkF m 134 #[.val (.int p0), .val (.int p1), .val (.int p2), .val (.int wv), .val (.ref ad_PRESENT), .val (.int kv), .val .null, .val (.int (0 : Int32))] [(.int (1 : Int32))]))
        refine own_go (fun t_ kt_ => XS.goto X14g.here hx rfl (pc0 := 134) (pc' := 138) rfl (hb hby at_134) (by decide) (by decide) kt_) ?_
        show own_Go p e below s _ _ _ (T14.setTop (mkF m 138 #[.val (.int p0), .val (.int p1), .val (.int p2), .val (.int wv), .val (.ref ad_PRESENT), .val (.int kv), .val .null, .val (.int (0 : Int32))] [(.int (1 : Int32))]))
        refine own_ret X14g (v := some (.int (1 : Int32))) (fun h => by rw [hret] at h; cases h) hlk ?_ (by decide) (by decide) (fun fs hr => retN X14g hx (t := .boolean) hret (by simp) (hb hby at_138) hr)
        show Q0 Z p0 p1 p2 ad_ALWAYS ad_MISSING ad_PRESENT ca bx h0 n0 (some (.int (1 : Int32))) T14.heap _
        rw [e14]
        exact ⟨rfl, N14g⟩
      · skip
        have hi47 : ¬ kv.toInt = 0 := fun q => hc47 (Int32.toInt_inj.mp q)
        refine own_go (fun t_ kt_ => XS.ifYes X13.here hx rfl (pc0 := 47) (pc' := 56) rfl (hb hby at_47) rfl ((if0 _ _).trans (feq hc47).2) (by decide) (by decide) kt_) ?_
        show own_Go p e below s _ _ _ (T13.setTop (mkF m 56 #[.val (.int p0), .val (.int p1), .val (.int p2), .val (.int wv), .val (.ref ad_PRESENT), .val (.int kv), .unset, .unset] []))
        refine own_go (fun t_ kt_ => XS.iload X13.here hx rfl (hb hby at_56) rfl kt_) ?_
        show own_Go p e below s _ _ _ (T13.setTop (mkF m 58 #[.val (.int p0), .val (.int p1), .val (.int p2), .val (.int wv), .val (.ref ad_PRESENT), .val (.int kv), .unset, .unset] [(.int kv)]))
        refine own_go (fun t_ kt_ => XS.iconst X13.here hx rfl (hb hby at_58) kt_) ?_
        show own_Go p e below s _ _ _ (T13.setTop (mkF m 59 #[.val (.int p0), .val (.int p1), .val (.int p2), .val (.int wv), .val (.ref ad_PRESENT), .val (.int kv), .unset, .unset] [(.int (1 : Int32)), (.int kv)]))
        by_cases hc59 : kv = (1 : Int32)
        · skip
          have hi59 : kv.toInt = 1 := congrArg Int32.toInt hc59
          refine own_go (fun t_ kt_ => XS.icmpNo X13.here hx rfl (hb hby at_59) rfl (teq hc59).2 kt_) ?_
          show own_Go p e below s _ _ _ (T13.setTop (mkF m 62 #[.val (.int p0), .val (.int p1), .val (.int p2), .val (.int wv), .val (.ref ad_PRESENT), .val (.int kv), .unset, .unset] []))
          refine own_go (fun t_ kt_ => XS.iloadN X13.here hx rfl (hb hby at_62) rfl kt_) ?_
          show own_Go p e below s _ _ _ (T13.setTop (mkF m 63 #[.val (.int p0), .val (.int p1), .val (.int p2), .val (.int wv), .val (.ref ad_PRESENT), .val (.int kv), .unset, .unset] [(.int p2)]))
          refine own_go (fun t_ kt_ => XS.bipush X13.here hx rfl (hb hby at_63) kt_) ?_
          show own_Go p e below s _ _ _ (T13.setTop (mkF m 65 #[.val (.int p0), .val (.int p1), .val (.int p2), .val (.int wv), .val (.ref ad_PRESENT), .val (.int kv), .unset, .unset] [(.int (7 : Int32)), (.int p2)]))
          refine own_go (fun t_ kt_ => XS.iand X13.here hx rfl (hb hby at_65) rfl kt_) ?_
          show own_Go p e below s _ _ _ (T13.setTop (mkF m 66 #[.val (.int p0), .val (.int p1), .val (.int p2), .val (.int wv), .val (.ref ad_PRESENT), .val (.int kv), .unset, .unset] [(.int (p2 &&& (7 : Int32)))]))
          obtain ⟨T15, h15, k15, X15, e15, E15, A15, st15⟩ := newP X13 hx hZ (hw _ (List.mem_of_getElem? (i := 22) rfl)) e13 (g := (mkF m 66 #[.val (.int p0), .val (.int p1), .val (.int p2), .val (.int wv), .val (.ref ad_PRESENT), .val (.int kv), .unset, .unset] [(.int (p2 &&& (7 : Int32)))])) rfl (hb hby at_66) rfl (own_7 p2).1 (cap := 7) (own_7 p2).2 (by decide) (by decide) (by decide)
          obtain ⟨b15, g15⟩ : ∃ z, z = h0.size := ⟨_, rfl⟩
          rw [← g15] at A15 st15
          refine own_go (fun t_ kt_ => st15 _ kt_) ?_
          have gt_b15 : n0 ≤ b15 := Nat.le_trans Z0 (Nat.le_of_eq g15.symm)
          have ne_ad_ALWAYS_b15 : ad_ALWAYS ≠ b15 := Nat.ne_of_lt (Nat.lt_of_lt_of_le E_ALWAYS.lt (Nat.le_of_eq g15.symm))
          have ne_ad_MISSING_b15 : ad_MISSING ≠ b15 := Nat.ne_of_lt (Nat.lt_of_lt_of_le E_MISSING.lt (Nat.le_of_eq g15.symm))
          have ne_ad_PRESENT_b15 : ad_PRESENT ≠ b15 := Nat.ne_of_lt (Nat.lt_of_lt_of_le E_PRESENT.lt (Nat.le_of_eq g15.symm))
          have ne_ca_b15 : ca ≠ b15 := Nat.ne_of_lt (Nat.lt_of_lt_of_le AC.lt (Nat.le_of_eq g15.symm))
          have ZZ_15 : n0 ≤ h15.size := Nat.le_trans Z0 E15.1
          have S_ALWAYS_15 : Sta Z h15 "com/example/evenkeel/evenkeel/Write$Condition" "ALWAYS" "Lcom/example/evenkeel/evenkeel/Write$Condition;" (.ref ad_ALWAYS) := S_ALWAYS.ext E15
          have EX_ALWAYS_15 : Exa Z h15 ad_ALWAYS "com/example/evenkeel/evenkeel/Write$Condition" := E_ALWAYS.ext E15
          have S_MISSING_15 : Sta Z h15 "com/example/evenkeel/evenkeel/Write$Condition" "MISSING" "Lcom/example/evenkeel/evenkeel/Write$Condition;" (.ref ad_MISSING) := S_MISSING.ext E15
          have EX_MISSING_15 : Exa Z h15 ad_MISSING "com/example/evenkeel/evenkeel/Write$Condition" := E_MISSING.ext E15
          have S_PRESENT_15 : Sta Z h15 "com/example/evenkeel/evenkeel/Write$Condition" "PRESENT" "Lcom/example/evenkeel/evenkeel/Write$Condition;" (.ref ad_PRESENT) := S_PRESENT.ext E15
          have EX_PRESENT_15 : Exa Z h15 ad_PRESENT "com/example/evenkeel/evenkeel/Write$Condition" := E_PRESENT.ext E15
          have S_high_15 : Sta Z h15 "java/lang/Integer$IntegerCache" "high" "I" (.int (127 : Int32)) := S_H.ext E15
          have S_cache_15 : Sta Z h15 "java/lang/Integer$IntegerCache" "cache" "[Ljava/lang/Integer;" (.ref ca) := S_C.ext E15
          have VC_15 : own_Ary Z h15 ca (.object "java/lang/Integer") 256 (fun j => .ref (bx j)) := AC.ext E15
          have V_b15 : own_Ary Z h15 b15 .byte (p2 &&& (7 : Int32)).toNatClampNeg (fun _ => (.int (0 : Int32))) := own_Ary.new A15 rfl
          show own_Go p e below s _ _ _ (T15.setTop (mkF m 68 #[.val (.int p0), .val (.int p1), .val (.int p2), .val (.int wv), .val (.ref ad_PRESENT), .val (.int kv), .unset, .unset] [(.ref b15)]))
          refine own_go (fun t_ kt_ => XS.astore X15.here hx rfl (hb hby at_68) rfl rfl (l' := #[.val (.int p0), .val (.int p1), .val (.int p2), .val (.int wv), .val (.ref ad_PRESENT), .val (.int kv), .val (.ref b15), .unset]) rfl kt_) ?_
          show own_Go p e below s _ _ _ (T15.setTop (mkF m 70 #[.val (.int p0), .val (.int p1), .val (.int p2), .val (.int wv), .val (.ref ad_PRESENT), .val (.int kv), .val (.ref b15), .unset] []))
          refine own_go (fun t_ kt_ => XS.goto X15.here hx rfl (pc0 := 70) (pc' := 79) rfl (hb hby at_70) (by decide) (by decide) kt_) ?_
          show own_Go p e below s _ _ _ (T15.setTop (mkF m 79 #[.val (.int p0), .val (.int p1), .val (.int p2), .val (.int wv), .val (.ref ad_PRESENT), .val (.int kv), .val (.ref b15), .unset] []))
          refine own_go (fun t_ kt_ => XS.iloadN X15.here hx rfl (hb hby at_79) rfl kt_) ?_
          show own_Go p e below s _ _ _ (T15.setTop (mkF m 80 #[.val (.int p0), .val (.int p1), .val (.int p2), .val (.int wv), .val (.ref ad_PRESENT), .val (.int kv), .val (.ref b15), .unset] [(.int wv)]))
          refine own_go (fun t_ kt_ => XS.ifYes X15.here hx rfl (pc0 := 80) (pc' := 89) rfl (hb hby at_80) rfl ((if0 _ _).trans (feq hc8).2) (by decide) (by decide) kt_) ?_
          show own_Go p e below s _ _ _ (T15.setTop (mkF m 89 #[.val (.int p0), .val (.int p1), .val (.int p2), .val (.int wv), .val (.ref ad_PRESENT), .val (.int kv), .val (.ref b15), .unset] []))
          refine own_go (fun t_ kt_ => XS.iloadN X15.here hx rfl (hb hby at_89) rfl kt_) ?_
          show own_Go p e below s _ _ _ (T15.setTop (mkF m 90 #[.val (.int p0), .val (.int p1), .val (.int p2), .val (.int wv), .val (.ref ad_PRESENT), .val (.int kv), .val (.ref b15), .unset] [(.int wv)]))
          refine own_go (fun t_ kt_ => XS.iconst X15.here hx rfl (hb hby at_90) kt_) ?_
          show own_Go p e below s _ _ _ (T15.setTop (mkF m 91 #[.val (.int p0), .val (.int p1), .val (.int p2), .val (.int wv), .val (.ref ad_PRESENT), .val (.int kv), .val (.ref b15), .unset] [(.int (1 : Int32)), (.int wv)]))
          refine own_go (fun t_ kt_ => XS.icmpYes X15.here hx rfl (pc0 := 91) (pc' := 109) rfl (hb hby at_91) rfl (feq hc21).2 (by decide) (by decide) kt_) ?_
          show own_Go p e below s _ _ _ (T15.setTop (mkF m 109 #[.val (.int p0), .val (.int p1), .val (.int p2), .val (.int wv), .val (.ref ad_PRESENT), .val (.int kv), .val (.ref b15), .unset] []))
          refine own_go (fun t_ kt_ => XS.iload X15.here hx rfl (hb hby at_109) rfl kt_) ?_
          show own_Go p e below s _ _ _ (T15.setTop (mkF m 111 #[.val (.int p0), .val (.int p1), .val (.int p2), .val (.int wv), .val (.ref ad_PRESENT), .val (.int kv), .val (.ref b15), .unset] [(.int kv)]))
          refine own_go (fun t_ kt_ => XS.ifNo X15.here hx rfl (hb hby at_111) rfl ((if0 _ _).trans (feq hc47).1) kt_) ?_
          show own_Go p e below s _ _ _ (T15.setTop (mkF m 114 #[.val (.int p0), .val (.int p1), .val (.int p2), .val (.int wv), .val (.ref ad_PRESENT), .val (.int kv), .val (.ref b15), .unset] []))
          refine own_go (fun t_ kt_ => XS.iconst X15.here hx rfl (hb hby at_114) kt_) ?_
          show own_Go p e below s _ _ _ (T15.setTop (mkF m 115 #[.val (.int p0), .val (.int p1), .val (.int p2), .val (.int wv), .val (.ref ad_PRESENT), .val (.int kv), .val (.ref b15), .unset] [(.int (1 : Int32))]))
          refine own_go (fun t_ kt_ => XS.goto X15.here hx rfl (pc0 := 115) (pc' := 119) rfl (hb hby at_115) (by decide) (by decide) kt_) ?_
          show own_Go p e below s _ _ _ (T15.setTop (mkF m 119 #[.val (.int p0), .val (.int p1), .val (.int p2), .val (.int wv), .val (.ref ad_PRESENT), .val (.int kv), .val (.ref b15), .unset] [(.int (1 : Int32))]))
          refine own_go (fun t_ kt_ => XS.istore X15.here hx rfl (hb hby at_119) rfl (l' := #[.val (.int p0), .val (.int p1), .val (.int p2), .val (.int wv), .val (.ref ad_PRESENT), .val (.int kv), .val (.ref b15), .val (.int (1 : Int32))]) rfl kt_) ?_
          show own_Go p e below s _ _ _ (T15.setTop (mkF m 121 #[.val (.int p0), .val (.int p1), .val (.int p2), .val (.int wv), .val (.ref ad_PRESENT), .val (.int kv), .val (.ref b15), .val (.int (1 : Int32))] []))
          refine own_go (fun t_ kt_ => XS.aload X15.here hx rfl (hb hby at_121) rfl rfl kt_) ?_
          show own_Go p e below s _ _ _ (T15.setTop (mkF m 123 #[.val (.int p0), .val (.int p1), .val (.int p2), .val (.int wv), .val (.ref ad_PRESENT), .val (.int kv), .val (.ref b15), .val (.int (1 : Int32))] [(.ref ad_PRESENT)]))
          refine own_go (fun t_ kt_ => XS.aload X15.here hx rfl (hb hby at_123) rfl rfl kt_) ?_
          show own_Go p e below s _ _ _ (T15.setTop (mkF m 125 #[.val (.int p0), .val (.int p1), .val (.int p2), .val (.int wv), .val (.ref ad_PRESENT), .val (.int kv), .val (.ref b15), .val (.int (1 : Int32))] [(.ref b15), (.ref ad_PRESENT)]))
          obtain ⟨cq16, kq16, q16a, q16b, q16c⟩ := isOf hZ e15 EX_PRESENT_15
          obtain ⟨_, _, ⟨T16, L16, k16, n16⟩, -, X16, ⟨Lc16, hQ16, l16, y16, z16⟩, st16⟩ := X15.virtualBack hx (y := (⟨"com/example/evenkeel/evenkeel/Write$Condition", "holdsFor", "(Ljava/lang/Object;)Z"⟩ : MethodName)) (z := (⟨"com/example/evenkeel/evenkeel/Write$Condition", "holdsFor", "(Ljava/lang/Object;)Z"⟩ : MethodName)) hown (mvT hZ (hw _ (List.mem_of_getElem? (i := 4) rfl))) (mvT hZ (hw _ (List.mem_of_getElem? (i := 5) rfl))) (notFace_of_selects (args := #[]) (mvT hZ (hw _ (List.mem_of_getElem? (i := 7) rfl)))) (mvT hZ (hw _ (List.mem_of_getElem? (i := 7) rfl))) (mvT hZ (hw _ (List.mem_of_getElem? (i := 6) rfl))) (by decide) (backOf (W := 0) (rm1r l Z a0 hw [] (ad_PRESENT) (b15) (ad_ALWAYS) (ad_MISSING) h15 n0 ZZ_15 S_ALWAYS_15 S_MISSING_15) hZ (hw _ (List.mem_of_getElem? (i := 8) rfl)) (hw _ (List.mem_of_getElem? (i := 2) rfl)) (by decide) (by decide)) q16a q16c (g := (mkF m 125 #[.val (.int p0), .val (.int p1), .val (.int p2), .val (.int wv), .val (.ref ad_PRESENT), .val (.int kv), .val (.ref b15), .val (.int (1 : Int32))] [(.ref b15), (.ref ad_PRESENT)])) rfl (by rw [hml]; rfl) (Steps.refl _) (argsL := [(.ref b15)]) (rest := []) (lenOf pd_2 rfl) rfl (by show 2 * 0 + _ ≤ _; exact Nat.le_of_eq rfl) (hb hby at_125) (fun _ _ => ⟨rfl, e15, (by decide : 1 + 0 ≤ _), (by decide : 7 + 0 ≤ _)⟩)
          dsimp only [Pt.U, Pt.locs, Pt.cells, Pt.slots] at X16 l16 y16 z16 st16 hQ16
          subst l16 y16 z16
          obtain ⟨hv16, Nq16, eh16⟩ := hQ16
          rw [show (own_hf ad_PRESENT ad_ALWAYS ad_MISSING false) = (1 : Int32) from by unfold own_hf; simp [ne_MA, ne_PA, ne_PM]] at hv16
          subst hv16
          have N16 := Fr.app N0 Nq16
          refine own_go (fun t_ kt_ => st16.trans kt_) ?_
          obtain ⟨lo16, X16g, N16g⟩ : ∃ lo, Stand p l e room_1 s m #[(.int p0), (.int p1), (.int p2)] below meth c T16 lo 1 7 ∧ Fr n0 lo := ⟨_, X16, N16⟩
          have e16 : T16.heap = h15 := eh16
          show own_Go p e below s _ _ _ (T16.setTop (mkF m 128 #[.val (.int p0), .val (.int p1), .val (.int p2), .val (.int wv), .val (.ref ad_PRESENT), .val (.int kv), .val (.ref b15), .val (.int (1 : Int32))] [(.int (1 : Int32))]))
          refine own_go (fun t_ kt_ => XS.iload X16g.here hx rfl (hb hby at_128) rfl kt_) ?_
          show own_Go p e below s _ _ _ (T16.setTop (mkF m 130 #[.val (.int p0), .val (.int p1), .val (.int p2), .val (.int wv), .val (.ref ad_PRESENT), .val (.int kv), .val (.ref b15), .val (.int (1 : Int32))] [(.int (1 : Int32)), (.int (1 : Int32))]))
          refine own_go (fun t_ kt_ => XS.icmpNo X16g.here hx rfl (hb hby at_130) rfl (teq (by decide)).2 kt_) ?_
          show own_Go p e below s _ _ _ (T16.setTop (mkF m 133 #[.val (.int p0), .val (.int p1), .val (.int p2), .val (.int wv), .val (.ref ad_PRESENT), .val (.int kv), .val (.ref b15), .val (.int (1 : Int32))] []))
          refine own_go (fun t_ kt_ => XS.iconst X16g.here hx rfl (hb hby at_133) kt_) ?_
          show own_Go p e below s _ _ _ (T16.setTop (mkF m 134 #[.val (.int p0), .val (.int p1), .val (.int p2), .val (.int wv), .val (.ref ad_PRESENT), .val (.int kv), .val (.ref b15), .val (.int (1 : Int32))] [(.int (1 : Int32))]))
          refine own_go (fun t_ kt_ => XS.goto X16g.here hx rfl (pc0 := 134) (pc' := 138) rfl (hb hby at_134) (by decide) (by decide) kt_) ?_
          show own_Go p e below s _ _ _ (T16.setTop (mkF m 138 #[.val (.int p0), .val (.int p1), .val (.int p2), .val (.int wv), .val (.ref ad_PRESENT), .val (.int kv), .val (.ref b15), .val (.int (1 : Int32))] [(.int (1 : Int32))]))
          refine own_ret X16g (v := some (.int (1 : Int32))) (fun h => by rw [hret] at h; cases h) hlk ?_ (by decide) (by decide) (fun fs hr => retN X16g hx (t := .boolean) hret (by simp) (hb hby at_138) hr)
          show Q0 Z p0 p1 p2 ad_ALWAYS ad_MISSING ad_PRESENT ca bx h0 n0 (some (.int (1 : Int32))) T16.heap _
          rw [e16]
          exact ⟨rfl, N16g⟩
        · skip
          have hi59 : ¬ kv.toInt = 1 := fun q => hc59 (Int32.toInt_inj.mp q)
          refine own_go (fun t_ kt_ => XS.icmpYes X13.here hx rfl (pc0 := 59) (pc' := 73) rfl (hb hby at_59) rfl (feq hc59).2 (by decide) (by decide) kt_) ?_
          show own_Go p e below s _ _ _ (T13.setTop (mkF m 73 #[.val (.int p0), .val (.int p1), .val (.int p2), .val (.int wv), .val (.ref ad_PRESENT), .val (.int kv), .unset, .unset] []))
          refine own_go (fun t_ kt_ => XS.iloadN X13.here hx rfl (hb hby at_73) rfl kt_) ?_
          show own_Go p e below s _ _ _ (T13.setTop (mkF m 74 #[.val (.int p0), .val (.int p1), .val (.int p2), .val (.int wv), .val (.ref ad_PRESENT), .val (.int kv), .unset, .unset] [(.int p2)]))
          obtain ⟨_, _, ⟨T17, L17, k17, n17⟩, -, X17, ⟨Lc17, hQ17, l17, y17, z17⟩, st17⟩ := Jvm.LawKit.callS X13 hx (y := (⟨"java/lang/Integer", "valueOf", "(I)Ljava/lang/Integer;"⟩ : MethodName)) hown (mvT hZ (hw _ (List.mem_of_getElem? (i := 15) rfl))) (mvT hZ (hw _ (List.mem_of_getElem? (i := 16) rfl))) (mvT hZ (hw _ (List.mem_of_getElem? (i := 17) rfl))) (mvT hZ (hw _ (List.mem_of_getElem? (i := 18) rfl))) (by decide) (backOf (W := 0) (rm2 l Z a0 hw [] (p2) (ca) (bx) h0 n0 Z0 S_H S_C AC) hZ (hw _ (List.mem_of_getElem? (i := 18) rfl)) (hw _ (List.mem_of_getElem? (i := 17) rfl)) (by decide) (by decide)) (g := (mkF m 74 #[.val (.int p0), .val (.int p1), .val (.int p2), .val (.int wv), .val (.ref ad_PRESENT), .val (.int kv), .unset, .unset] [(.int p2)])) rfl (by rw [hml]; rfl) (argsL := [(.int p2)]) (rest := []) (lenOf pd_3 rfl) rfl (by show 2 * 0 + _ ≤ _; exact Nat.le_of_eq rfl) (hb hby at_74) (fun _ _ => ⟨rfl, e13, (by decide : 0 + 1 ≤ _), (by decide : 0 + 1 ≤ _)⟩)
          dsimp only [Pt.U, Pt.locs, Pt.cells, Pt.slots] at X17 l17 y17 z17 st17 hQ17
          subst l17 y17 z17
          obtain ⟨bi, rfl, Nq17, Kq17⟩ := hQ17
          have N17 := Fr.app N0 Nq17
          refine own_go (fun t_ kt_ => st17 _ kt_) ?_
          obtain ⟨lo17, X17g, N17g⟩ : ∃ lo, Stand p l e room_1 s m #[(.int p0), (.int p1), (.int p2)] below meth c T17 lo 1 1 ∧ Fr n0 lo := ⟨_, X17, N17⟩
          obtain ⟨h17, e17⟩ : ∃ z, T17.heap = z := ⟨_, rfl⟩
          rw [e17] at Kq17
          have ZZ_17 : n0 ≤ h17.size := Nat.le_trans Z0 Kq17.1
          have S_ALWAYS_17 : Sta Z h17 "com/example/evenkeel/evenkeel/Write$Condition" "ALWAYS" "Lcom/example/evenkeel/evenkeel/Write$Condition;" (.ref ad_ALWAYS) := own_sta_keep S_ALWAYS Kq17
          have EX_ALWAYS_17 : Exa Z h17 ad_ALWAYS "com/example/evenkeel/evenkeel/Write$Condition" := E_ALWAYS.keep Kq17
          have S_MISSING_17 : Sta Z h17 "com/example/evenkeel/evenkeel/Write$Condition" "MISSING" "Lcom/example/evenkeel/evenkeel/Write$Condition;" (.ref ad_MISSING) := own_sta_keep S_MISSING Kq17
          have EX_MISSING_17 : Exa Z h17 ad_MISSING "com/example/evenkeel/evenkeel/Write$Condition" := E_MISSING.keep Kq17
          have S_PRESENT_17 : Sta Z h17 "com/example/evenkeel/evenkeel/Write$Condition" "PRESENT" "Lcom/example/evenkeel/evenkeel/Write$Condition;" (.ref ad_PRESENT) := own_sta_keep S_PRESENT Kq17
          have EX_PRESENT_17 : Exa Z h17 ad_PRESENT "com/example/evenkeel/evenkeel/Write$Condition" := E_PRESENT.keep Kq17
          have S_high_17 : Sta Z h17 "java/lang/Integer$IntegerCache" "high" "I" (.int (127 : Int32)) := own_sta_keep S_H Kq17
          have S_cache_17 : Sta Z h17 "java/lang/Integer$IntegerCache" "cache" "[Ljava/lang/Integer;" (.ref ca) := own_sta_keep S_C Kq17
          have VC_17 : own_Ary Z h17 ca (.object "java/lang/Integer") 256 (fun j => .ref (bx j)) := AC.keep Kq17 nin0
          show own_Go p e below s _ _ _ (T17.setTop (mkF m 77 #[.val (.int p0), .val (.int p1), .val (.int p2), .val (.int wv), .val (.ref ad_PRESENT), .val (.int kv), .unset, .unset] [(.ref bi)]))
          refine own_go (fun t_ kt_ => XS.astore X17g.here hx rfl (hb hby at_77) rfl rfl (l' := #[.val (.int p0), .val (.int p1), .val (.int p2), .val (.int wv), .val (.ref ad_PRESENT), .val (.int kv), .val (.ref bi), .unset]) rfl kt_) ?_
          show own_Go p e below s _ _ _ (T17.setTop (mkF m 79 #[.val (.int p0), .val (.int p1), .val (.int p2), .val (.int wv), .val (.ref ad_PRESENT), .val (.int kv), .val (.ref bi), .unset] []))
          refine own_go (fun t_ kt_ => XS.iloadN X17g.here hx rfl (hb hby at_79) rfl kt_) ?_
          show own_Go p e below s _ _ _ (T17.setTop (mkF m 80 #[.val (.int p0), .val (.int p1), .val (.int p2), .val (.int wv), .val (.ref ad_PRESENT), .val (.int kv), .val (.ref bi), .unset] [(.int wv)]))
          refine own_go (fun t_ kt_ => XS.ifYes X17g.here hx rfl (pc0 := 80) (pc' := 89) rfl (hb hby at_80) rfl ((if0 _ _).trans (feq hc8).2) (by decide) (by decide) kt_) ?_
          show own_Go p e below s _ _ _ (T17.setTop (mkF m 89 #[.val (.int p0), .val (.int p1), .val (.int p2), .val (.int wv), .val (.ref ad_PRESENT), .val (.int kv), .val (.ref bi), .unset] []))
          refine own_go (fun t_ kt_ => XS.iloadN X17g.here hx rfl (hb hby at_89) rfl kt_) ?_
          show own_Go p e below s _ _ _ (T17.setTop (mkF m 90 #[.val (.int p0), .val (.int p1), .val (.int p2), .val (.int wv), .val (.ref ad_PRESENT), .val (.int kv), .val (.ref bi), .unset] [(.int wv)]))
          refine own_go (fun t_ kt_ => XS.iconst X17g.here hx rfl (hb hby at_90) kt_) ?_
          show own_Go p e below s _ _ _ (T17.setTop (mkF m 91 #[.val (.int p0), .val (.int p1), .val (.int p2), .val (.int wv), .val (.ref ad_PRESENT), .val (.int kv), .val (.ref bi), .unset] [(.int (1 : Int32)), (.int wv)]))
          refine own_go (fun t_ kt_ => XS.icmpYes X17g.here hx rfl (pc0 := 91) (pc' := 109) rfl (hb hby at_91) rfl (feq hc21).2 (by decide) (by decide) kt_) ?_
          show own_Go p e below s _ _ _ (T17.setTop (mkF m 109 #[.val (.int p0), .val (.int p1), .val (.int p2), .val (.int wv), .val (.ref ad_PRESENT), .val (.int kv), .val (.ref bi), .unset] []))
          refine own_go (fun t_ kt_ => XS.iload X17g.here hx rfl (hb hby at_109) rfl kt_) ?_
          show own_Go p e below s _ _ _ (T17.setTop (mkF m 111 #[.val (.int p0), .val (.int p1), .val (.int p2), .val (.int wv), .val (.ref ad_PRESENT), .val (.int kv), .val (.ref bi), .unset] [(.int kv)]))
          refine own_go (fun t_ kt_ => XS.ifNo X17g.here hx rfl (hb hby at_111) rfl ((if0 _ _).trans (feq hc47).1) kt_) ?_
          show own_Go p e below s _ _ _ (T17.setTop (mkF m 114 #[.val (.int p0), .val (.int p1), .val (.int p2), .val (.int wv), .val (.ref ad_PRESENT), .val (.int kv), .val (.ref bi), .unset] []))
          refine own_go (fun t_ kt_ => XS.iconst X17g.here hx rfl (hb hby at_114) kt_) ?_
          show own_Go p e below s _ _ _ (T17.setTop (mkF m 115 #[.val (.int p0), .val (.int p1), .val (.int p2), .val (.int wv), .val (.ref ad_PRESENT), .val (.int kv), .val (.ref bi), .unset] [(.int (1 : Int32))]))
          refine own_go (fun t_ kt_ => XS.goto X17g.here hx rfl (pc0 := 115) (pc' := 119) rfl (hb hby at_115) (by decide) (by decide) kt_) ?_
          show own_Go p e below s _ _ _ (T17.setTop (mkF m 119 #[.val (.int p0), .val (.int p1), .val (.int p2), .val (.int wv), .val (.ref ad_PRESENT), .val (.int kv), .val (.ref bi), .unset] [(.int (1 : Int32))]))
          refine own_go (fun t_ kt_ => XS.istore X17g.here hx rfl (hb hby at_119) rfl (l' := #[.val (.int p0), .val (.int p1), .val (.int p2), .val (.int wv), .val (.ref ad_PRESENT), .val (.int kv), .val (.ref bi), .val (.int (1 : Int32))]) rfl kt_) ?_
          show own_Go p e below s _ _ _ (T17.setTop (mkF m 121 #[.val (.int p0), .val (.int p1), .val (.int p2), .val (.int wv), .val (.ref ad_PRESENT), .val (.int kv), .val (.ref bi), .val (.int (1 : Int32))] []))
          refine own_go (fun t_ kt_ => XS.aload X17g.here hx rfl (hb hby at_121) rfl rfl kt_) ?_
          show own_Go p e below s _ _ _ (T17.setTop (mkF m 123 #[.val (.int p0), .val (.int p1), .val (.int p2), .val (.int wv), .val (.ref ad_PRESENT), .val (.int kv), .val (.ref bi), .val (.int (1 : Int32))] [(.ref ad_PRESENT)]))
          refine own_go (fun t_ kt_ => XS.aload X17g.here hx rfl (hb hby at_123) rfl rfl kt_) ?_
          show own_Go p e below s _ _ _ (T17.setTop (mkF m 125 #[.val (.int p0), .val (.int p1), .val (.int p2), .val (.int wv), .val (.ref ad_PRESENT), .val (.int kv), .val (.ref bi), .val (.int (1 : Int32))] [(.ref bi), (.ref ad_PRESENT)]))
          obtain ⟨cq18, kq18, q18a, q18b, q18c⟩ := isOf hZ e17 EX_PRESENT_17
          obtain ⟨_, _, ⟨T18, L18, k18, n18⟩, -, X18, ⟨Lc18, hQ18, l18, y18, z18⟩, st18⟩ := X17g.virtualBack hx (y := (⟨"com/example/evenkeel/evenkeel/Write$Condition", "holdsFor", "(Ljava/lang/Object;)Z"⟩ : MethodName)) (z := (⟨"com/example/evenkeel/evenkeel/Write$Condition", "holdsFor", "(Ljava/lang/Object;)Z"⟩ : MethodName)) hown (mvT hZ (hw _ (List.mem_of_getElem? (i := 4) rfl))) (mvT hZ (hw _ (List.mem_of_getElem? (i := 5) rfl))) (notFace_of_selects (args := #[]) (mvT hZ (hw _ (List.mem_of_getElem? (i := 7) rfl)))) (mvT hZ (hw _ (List.mem_of_getElem? (i := 7) rfl))) (mvT hZ (hw _ (List.mem_of_getElem? (i := 6) rfl))) (by decide) (backOf (W := 0) (rm1r l Z a0 hw [] (ad_PRESENT) (bi) (ad_ALWAYS) (ad_MISSING) h17 n0 ZZ_17 S_ALWAYS_17 S_MISSING_17) hZ (hw _ (List.mem_of_getElem? (i := 8) rfl)) (hw _ (List.mem_of_getElem? (i := 2) rfl)) (by decide) (by decide)) q18a q18c (g := (mkF m 125 #[.val (.int p0), .val (.int p1), .val (.int p2), .val (.int wv), .val (.ref ad_PRESENT), .val (.int kv), .val (.ref bi), .val (.int (1 : Int32))] [(.ref bi), (.ref ad_PRESENT)])) rfl (by rw [hml]; rfl) (Steps.refl _) (argsL := [(.ref bi)]) (rest := []) (lenOf pd_2 rfl) rfl (by show 2 * 0 + _ ≤ _; exact Nat.le_of_eq rfl) (hb hby at_125) (fun _ _ => ⟨rfl, e17, (by decide : 1 + 0 ≤ _), (by decide : 1 + 0 ≤ _)⟩)
          dsimp only [Pt.U, Pt.locs, Pt.cells, Pt.slots] at X18 l18 y18 z18 st18 hQ18
          subst l18 y18 z18
          obtain ⟨hv18, Nq18, eh18⟩ := hQ18
          rw [show (own_hf ad_PRESENT ad_ALWAYS ad_MISSING false) = (1 : Int32) from by unfold own_hf; simp [ne_MA, ne_PA, ne_PM]] at hv18
          subst hv18
          have N18 := Fr.app N17g Nq18
          refine own_go (fun t_ kt_ => st18.trans kt_) ?_
          obtain ⟨lo18, X18g, N18g⟩ : ∃ lo, Stand p l e room_1 s m #[(.int p0), (.int p1), (.int p2)] below meth c T18 lo 1 1 ∧ Fr n0 lo := ⟨_, X18, N18⟩
          have e18 : T18.heap = h17 := eh18
          show own_Go p e below s _ _ _ (T18.setTop (mkF m 128 #[.val (.int p0), .val (.int p1), .val (.int p2), .val (.int wv), .val (.ref ad_PRESENT), .val (.int kv), .val (.ref bi), .val (.int (1 : Int32))] [(.int (1 : Int32))]))
          refine own_go (fun t_ kt_ => XS.iload X18g.here hx rfl (hb hby at_128) rfl kt_) ?_
          show own_Go p e below s _ _ _ (T18.setTop (mkF m 130 #[.val (.int p0), .val (.int p1), .val (.int p2), .val (.int wv), .val (.ref ad_PRESENT), .val (.int kv), .val (.ref bi), .val (.int (1 : Int32))] [(.int (1 : Int32)), (.int (1 : Int32))]))
          refine own_go (fun t_ kt_ => XS.icmpNo X18g.here hx rfl (hb hby at_130) rfl (teq (by decide)).2 kt_) ?_
          show own_Go p e below s _ _ _ (T18.setTop (mkF m 133 #[.val (.int p0), .val (.int p1), .val (.int p2), .val (.int wv), .val (.ref ad_PRESENT), .val (.int kv), .val (.ref bi), .val (.int (1 : Int32))] []))
          refine own_go (fun t_ kt_ => XS.iconst X18g.here hx rfl (hb hby at_133) kt_) ?_
          show own_Go p e below s _ _ _ (T18.setTop (mkF m 134 #[.val (.int p0), .val (.int p1), .val (.int p2), .val (.int wv), .val (.ref ad_PRESENT), .val (.int kv), .val (.ref bi), .val (.int (1 : Int32))] [(.int (1 : Int32))]))
          refine own_go (fun t_ kt_ => XS.goto X18g.here hx rfl (pc0 := 134) (pc' := 138) rfl (hb hby at_134) (by decide) (by decide) kt_) ?_
          show own_Go p e below s _ _ _ (T18.setTop (mkF m 138 #[.val (.int p0), .val (.int p1), .val (.int p2), .val (.int wv), .val (.ref ad_PRESENT), .val (.int kv), .val (.ref bi), .val (.int (1 : Int32))] [(.int (1 : Int32))]))
          refine own_ret X18g (v := some (.int (1 : Int32))) (fun h => by rw [hret] at h; cases h) hlk ?_ (by decide) (by decide) (fun fs hr => retN X18g hx (t := .boolean) hret (by simp) (hb hby at_138) hr)
          show Q0 Z p0 p1 p2 ad_ALWAYS ad_MISSING ad_PRESENT ca bx h0 n0 (some (.int (1 : Int32))) T18.heap _
          rw [e18]
          exact ⟨rfl, N18g⟩
set_option maxRecDepth 65536 in
set_option maxHeartbeats 40000000 in
theorem comes_1 {Post : Tables → Env → Array Value → State → Outcome → State → Prop} (hpost : ∀ tb e args s v u, (limb_1_1.after args s (.returned v) u = true ∧ limb_1_2.after args s (.returned v) u = true ∧ True) → FrameEnd s (.returned v) u (Jvm.fieldLocs frame_1_writes args s ++ Jvm.arrayLocs frame_1_arrays args s ++ Jvm.staticLocs frame_1_statics s) 16 128 → Post tb e args s (.returned v) u) :
    ArmFor flags0 classFile x code maxLocals ret World_1 tables_1 room_1 Calls_1 rest_1 Pre_1 Post := by
  intro l hfl _ _ p e ha hc hk s m args below hf hA hF happ hP
  obtain ⟨hcalls, hrest, hpre⟩ := hP
  obtain ⟨-, -, -, hnamed, -, -, -, hat⟩ := (Spec.applies_iff hf).mp happ
  obtain ⟨hg, hn⟩ := and_e (Cond.before_iff.mp (show (Jvm.Cond.and given_1 narrow_1).before args s = true from hpre))
  obtain ⟨g1, g2⟩ := and_e hg
  obtain ⟨g3, g4⟩ := and_e g2
  obtain ⟨g5, g6⟩ := and_e g4
  obtain ⟨w0, w1, w2, rfl⟩ : ∃ w0 w1 w2 : Value, args = #[w0, w1, w2] := by
    have hs : args.size = 3 := by simpa [Cond.value, given_1] using g1
    obtain ⟨L⟩ := args
    match L, hs with
    | [w0, w1, w2], _ => exact ⟨w0, w1, w2, rfl⟩
  have hw := fun d (hd : d ∈ tables_1) => atoms_spec (ws := Jvm.Cond.code x code maxLocals ret :: tables_1) hat d (List.mem_cons_of_mem _ hd)
  have hfit : Fit s := fun {y c} hc i hi => by
    obtain ⟨ha, rfl⟩ := Array.getElem?_eq_some_iff.mp hc
    have q := List.all_eq_true.mp ((Array.all_eq_true_iff_forall_mem.mp hF) _ (Array.getElem_mem ha)) i (List.mem_range.mpr hi)
    simpa [Array.getElem?_eq_getElem hi] using q
  obtain ⟨hsets, hown0⟩ := atoms_of _ (rest_1_c_eq ▸ (show rest_1_c.before _ s = true from hrest))
  have hr0 := Cond.before_iff.mp hown0
  obtain ⟨i0, ei0⟩ := is_v g3
  obtain rfl : w0 = (.int i0) := Option.some.inj ei0
  obtain ⟨i1, ei1⟩ := is_v g5
  obtain rfl : w1 = (.int i1) := Option.some.inj ei1
  obtain ⟨i2, ei2⟩ := is_v g6
  obtain rfl : w2 = (.int i2) := Option.some.inj ei2
  obtain ⟨u1, u2⟩ := and_e hn
  obtain ⟨u3, u4⟩ := and_e u2
  obtain ⟨u5, u6⟩ := and_e u4
  obtain ⟨u7, u8⟩ := and_e u6
  obtain ⟨u9, u10⟩ := and_e u8
  obtain ⟨ad_ALWAYS, es_ALWAYS⟩ := exa_v u1
  have S_ALWAYS := Sta.start es_ALWAYS (Or.inr ⟨(hw _ (List.mem_of_getElem? (i := 2) rfl)), (hw _ (List.mem_of_getElem? (i := 3) rfl))⟩)
  have E_ALWAYS := Exa.start es_ALWAYS u1
  obtain ⟨ad_MISSING, es_MISSING⟩ := exa_v u3
  have S_MISSING := Sta.start es_MISSING (Or.inr ⟨(hw _ (List.mem_of_getElem? (i := 2) rfl)), (hw _ (List.mem_of_getElem? (i := 11) rfl))⟩)
  have E_MISSING := Exa.start es_MISSING u3
  obtain ⟨ad_PRESENT, es_PRESENT⟩ := exa_v u9
  have S_PRESENT := Sta.start es_PRESENT (Or.inr ⟨(hw _ (List.mem_of_getElem? (i := 2) rfl)), (hw _ (List.mem_of_getElem? (i := 14) rfl))⟩)
  have E_PRESENT := Exa.start es_PRESENT u9
  have F_MISSING_ordinal : Fld s s.heap ad_MISSING "java/lang/Enum" "ordinal" "I" (.int (1 : Int32)) := Fld.start ((fld_at es_MISSING).symm.trans (eqv_i (Term.int_eval _) u5))
  have F_ALWAYS_ordinal : Fld s s.heap ad_ALWAYS "java/lang/Enum" "ordinal" "I" (.int (0 : Int32)) := Fld.start ((fld_at es_ALWAYS).symm.trans (eqv_i (Term.int_eval _) u7))
  have F_PRESENT_ordinal : Fld s s.heap ad_PRESENT "java/lang/Enum" "ordinal" "I" (.int (2 : Int32)) := Fld.start ((fld_at es_PRESENT).symm.trans (eqv_i (Term.int_eval _) u10))
  have ne_MA : ad_MISSING ≠ ad_ALWAYS := F_MISSING_ordinal.ne F_ALWAYS_ordinal (by decide)
  have ne_PA : ad_PRESENT ≠ ad_ALWAYS := F_PRESENT_ordinal.ne F_ALWAYS_ordinal (by decide)
  have ne_PM : ad_PRESENT ≠ ad_MISSING := F_PRESENT_ordinal.ne F_MISSING_ordinal (by decide)
  have S_H := Sta.start (eqv_i (Term.int_eval (127 : Int32)) (Cond.before_iff.mp (hsets _ (List.mem_of_getElem? (i := 3) rfl)))) (Or.inl (hsets _ (List.mem_of_getElem? (i := 1) rfl)))
  obtain ⟨ca, es_C⟩ := arr_v (Cond.before_iff.mp (hsets _ (List.mem_of_getElem? (i := 4) rfl)))
  have S_C := Sta.start es_C (Or.inr ⟨hw _ (List.mem_of_getElem? (i := 20) rfl), (hsets _ (List.mem_of_getElem? (i := 2) rfl))⟩)
  obtain ⟨cC, ArC⟩ := Arr.start es_C (Cond.before_iff.mp (hsets _ (List.mem_of_getElem? (i := 4) rfl)))
  have szC := own_size (n := 256) es_C ArC (Cond.before_iff.mp (hsets _ (List.mem_of_getElem? (i := 6) rfl))) (by decide)
  have allC := Cond.all_elim es_C (ArC.fin (Vm.Alike.refl _)) (Cond.before_iff.mp (hsets _ (List.mem_of_getElem? (i := 7) rfl)))
  obtain ⟨bx, hbx⟩ := own_boxes (fun _ => es_C) ArC szC (by decide) allC
  have AC : own_Ary s s.heap ca (.object "java/lang/Integer") 256 (fun j => .ref (bx j)) := ⟨cC, ArC, szC, hbx⟩
  obtain ⟨n, o, h1, h2, h3, _, L, rfl, ⟨rfl, N⟩, hq⟩ := rm0 l s _ hw tables_1 i0 i1 i2 ad_ALWAYS ad_MISSING ad_PRESENT ca bx s.heap s.heap.size (Nat.le_refl _) S_ALWAYS E_ALWAYS S_MISSING E_MISSING S_PRESENT E_PRESENT ne_MA ne_PA ne_PM S_H S_C AC p e ha hc hk s m _ below hf ((Spec.applies_iff_loose hf).mp happ).1 ⟨rfl, State.Warmed39.refl s, rfl⟩ trivial
  refine ⟨n, _, h1, h2, h3, hpost _ _ _ _ _ _ ⟨Cond.after_iff.mpr rfl, Cond.after_iff.mpr (eq_i res_at (Term.int_eval (1)) rfl), trivial⟩ ⟨hq.1, hq.2.1, (hq.2.2.sift fun y hy => Or.inr (N y hy)).mono (by decide) (by decide)⟩⟩
theorem main_1_1 : Claimed_1_1 := comes_1 fun _ _ _ _ _ _ h hF => ⟨h.1, hF⟩
theorem main_1_2 : Claimed_1_2 := comes_1 fun _ _ _ _ _ _ h hF => ⟨h.2.1, hF⟩
end Jvm.Pilot.@@N@@
namespace Jvm.Pilot.@@N@@
open Jvm Jvm.ClassFile Sem Op Lib Jvm.Free Jvm.Stand Jvm.Pilot.@@N@@.Jvm.D
/-! MADE BY PROGRAM (witnessworld.py) out of the Statement's table words and the real class files: 17 classes; the members and pool entries that the words name. The judged class is class 1, her method 1. -/
namespace start1
open Jvm.ClassFile
def u (s : String) : CpInfo := .utf8 (stringToUtf16 s)
/-- a pool by its gaps: so many unusable entries, then the entry; so many at the end -/
def gap : Nat → List CpInfo → List CpInfo
  | 0, r => r
  | n + 1, r => .unusable :: gap n r
def poolList (es : List (Nat × CpInfo)) (last : Nat) : List CpInfo := es.foldr (fun e r => gap e.1 (e.2 :: r)) (gap last [])
def pool (es : List (Nat × CpInfo)) (last : Nat) : Array CpInfo := ⟨poolList es last⟩
def fileOf (pool : Array CpInfo) (this : Nat) (attrs : Array Attribute := #[]) (ms : Array MethodInfo := #[]) (fl : Nat := 33) (sup : Nat := 0) (ifs : Array Nat := #[]) (fds : Array FieldInfo := #[]) : ClassFile where
  minorVersion := 0
  majorVersion := 65
  constantPool := pool
  accessFlags := fl
  thisClass := this
  superClass := sup
  interfaces := ifs
  fields := fds
  methods := ms
  attributes := attrs
def plain (name : String) (sup : Option ClassId) : Class where
  name := name
  kind := .ordinary
  loader := none
  accessFlags := 33
  super := sup
  interfaces := #[]
  cf := none
  fields := #[]
  methods := #[]
  instanceTypes := #[]
  staticTypes := #[]
  resolved := #[]
  callSites := []
  init := .initialized
  statics := none
  mirror := none

def pool0 : Array CpInfo := pool [(5, u "<init>"), (0, u "()V"), (1, .class_ 10), (1, u "java/lang/Object")] 113

def k0c0 : Code := { maxStack := 0, maxLocals := 1, code := object_method_1_code, exceptionTable := #[], attributes := #[] }
def k0m0 : Method := { name := "<init>", desc := "()V", sig := { parameters := [], returnType := none }, accessFlags := 1, code := some k0c0 }
/-- java/lang/Object -/
def k0 : Class := { plain "java/lang/Object" none with
  accessFlags := 33
  interfaces := #[]
  cf := some (fileOf pool0 8 #[] #[{ accessFlags := 1, nameIndex := 5, descriptorIndex := 6, attributes := #[] }] 33 0 #[] #[])
  fields := #[]
  methods := #[k0m0]
  instanceTypes := #[]
  staticTypes := #[]
  resolved := Array.replicate 124 none
  statics := none }

def pool1 : Array CpInfo := pool [(2, .class_ 4), (1, u "java/lang/Object"), (0, u "<init>"), (0, u "()V"), (0, .integer 2147483647), (0, .fieldref 9 10), (0, .class_ 11), (0, .nameAndType 12 13), (0, u "com/example/evenkeel/evenkeel/Write$Condition"), (0, u "ALWAYS"), (0, u "Lcom/example/evenkeel/evenkeel/Write$Condition;"), (0, .fieldref 9 15), (0, .nameAndType 16 13), (0, u "MISSING"), (0, .fieldref 9 18), (0, .nameAndType 19 13), (0, u "PRESENT"), (0, .methodref 21 22), (0, .class_ 23), (0, .nameAndType 24 25), (0, u "java/lang/Integer"), (0, u "valueOf"), (0, u "(I)Ljava/lang/Integer;"), (0, .methodref 9 27), (0, .nameAndType 28 29), (0, u "holdsFor"), (0, u "(Ljava/lang/Object;)Z"), (0, .class_ 31), (0, u "com/example/evenkeel/evenkeel/ConditionHoldsForPinLaw"), (2, u "law"), (0, u "(III)Z")] 7

def k1m0 : Method := { name := "<init>", desc := "()V", sig := { parameters := [], returnType := none }, accessFlags := 2, code := none }
def k1c1 : Code := { maxStack := 2, maxLocals := 8, code := code, exceptionTable := #[], attributes := #[] }
def k1m1 : Method := { name := "law", desc := "(III)Z", sig := { parameters := [.int, .int, .int], returnType := some .boolean }, accessFlags := 9, code := some k1c1 }
/-- com/example/evenkeel/evenkeel/ConditionHoldsForPinLaw -/
def k1 : Class := { plain "com/example/evenkeel/evenkeel/ConditionHoldsForPinLaw" (some 0) with
  accessFlags := 49
  interfaces := #[]
  cf := some (fileOf pool1 30 #[] #[{ accessFlags := 2, nameIndex := 5, descriptorIndex := 6, attributes := #[] }, { accessFlags := 9, nameIndex := 34, descriptorIndex := 35, attributes := #[] }] 49 2 #[] #[])
  fields := #[]
  methods := #[k1m0, k1m1]
  instanceTypes := #[]
  staticTypes := #[]
  resolved := Array.replicate 43 none
  statics := none }

def pool2 : Array CpInfo := pool [(1, .class_ 2), (0, u "java/lang/constant/Constable"), (0, .class_ 4), (0, u "java/lang/Object")] 6

/-- java/lang/constant/Constable -/
def k2 : Class := { plain "java/lang/constant/Constable" (some 0) with
  accessFlags := 1537
  interfaces := #[]
  cf := some (fileOf pool2 1 #[] #[] 1537 3 #[] #[])
  fields := #[]
  methods := #[]
  instanceTypes := #[]
  staticTypes := #[]
  resolved := Array.replicate 11 none
  statics := none }

def pool3 : Array CpInfo := pool [(1, .class_ 2), (0, u "java/lang/Comparable"), (0, .class_ 4), (0, u "java/lang/Object")] 7

/-- java/lang/Comparable -/
def k3 : Class := { plain "java/lang/Comparable" (some 0) with
  accessFlags := 1537
  interfaces := #[]
  cf := some (fileOf pool3 1 #[] #[] 1537 3 #[] #[])
  fields := #[]
  methods := #[]
  instanceTypes := #[]
  staticTypes := #[]
  resolved := Array.replicate 12 none
  statics := none }

def pool4 : Array CpInfo := pool [(1, .class_ 2), (0, u "java/io/Serializable"), (0, .class_ 4), (0, u "java/lang/Object")] 2

/-- java/io/Serializable -/
def k4 : Class := { plain "java/io/Serializable" (some 0) with
  accessFlags := 1537
  interfaces := #[]
  cf := some (fileOf pool4 1 #[] #[] 1537 3 #[] #[])
  fields := #[]
  methods := #[]
  instanceTypes := #[]
  staticTypes := #[]
  resolved := Array.replicate 7 none
  statics := none }

def pool5 : Array CpInfo := pool [(2, .class_ 4), (1, u "java/lang/Enum"), (0, u "name"), (0, u "Ljava/lang/String;"), (2, u "ordinal"), (0, u "I"), (1, .class_ 14), (1, u "java/lang/Object"), (4, u "hash"), (86, .class_ 108), (1, u "java/lang/Enum$EnumDesc"), (2, .class_ 112), (0, u "java/lang/constant/Constable"), (0, .class_ 114), (0, u "java/lang/Comparable"), (0, .class_ 116), (0, u "java/io/Serializable")] 87

/-- java/lang/Enum -/
def k5 : Class := { plain "java/lang/Enum" (some 0) with
  accessFlags := 1057
  interfaces := #[2, 3, 4]
  cf := some (fileOf pool5 2 #[.nestMembers #[106]] #[] 1057 12 #[111, 113, 115] #[{ accessFlags := 18, nameIndex := 5, descriptorIndex := 6, attributes := #[] }, { accessFlags := 18, nameIndex := 9, descriptorIndex := 10, attributes := #[] }, { accessFlags := 2, nameIndex := 19, descriptorIndex := 10, attributes := #[] }])
  fields := #[{ name := "name", type := (.object "java/lang/String"), accessFlags := 18, slot := 0, constantValue := 0 }, { name := "ordinal", type := .int, accessFlags := 18, slot := 1, constantValue := 0 }, { name := "hash", type := .int, accessFlags := 2, slot := 2, constantValue := 0 }]
  methods := #[]
  instanceTypes := #[(.object "java/lang/String"), .int, .int]
  staticTypes := #[]
  resolved := Array.replicate 204 none
  statics := none }

def pool6 : Array CpInfo := pool [(1, .class_ 2), (0, u "com/example/evenkeel/evenkeel/Write$Condition"), (0, .fieldref 1 4), (0, .nameAndType 5 6), (0, u "ALWAYS"), (0, u "Lcom/example/evenkeel/evenkeel/Write$Condition;"), (0, .fieldref 1 8), (0, .nameAndType 9 6), (0, u "MISSING"), (2, u "PRESENT"), (2, u "$VALUES"), (0, u "[Lcom/example/evenkeel/evenkeel/Write$Condition;"), (6, .class_ 25), (1, u "java/lang/Enum"), (21, u "holdsFor"), (0, u "(Ljava/lang/Object;)Z"), (8, .class_ 58), (0, u "com/example/evenkeel/evenkeel/Write")] 2

def k6c0 : Code := { maxStack := 3, maxLocals := 2, code := prog_191_method_4_code, exceptionTable := #[], attributes := #[] }
def k6m0 : Method := { name := "holdsFor", desc := "(Ljava/lang/Object;)Z", sig := { parameters := [(.object "java/lang/Object")], returnType := some .boolean }, accessFlags := 0, code := some k6c0 }
/-- com/example/evenkeel/evenkeel/Write$Condition -/
def k6 : Class := { plain "com/example/evenkeel/evenkeel/Write$Condition" (some 5) with
  accessFlags := 16433
  interfaces := #[]
  cf := some (fileOf pool6 1 #[.nestHost 57] #[{ accessFlags := 0, nameIndex := 47, descriptorIndex := 48, attributes := #[] }] 16433 23 #[] #[{ accessFlags := 16409, nameIndex := 5, descriptorIndex := 6, attributes := #[] }, { accessFlags := 16409, nameIndex := 9, descriptorIndex := 6, attributes := #[] }, { accessFlags := 16409, nameIndex := 12, descriptorIndex := 6, attributes := #[] }, { accessFlags := 4122, nameIndex := 15, descriptorIndex := 16, attributes := #[] }])
  fields := #[{ name := "ALWAYS", type := (.object "com/example/evenkeel/evenkeel/Write$Condition"), accessFlags := 16409, slot := 0, constantValue := 0 }, { name := "MISSING", type := (.object "com/example/evenkeel/evenkeel/Write$Condition"), accessFlags := 16409, slot := 1, constantValue := 0 }, { name := "PRESENT", type := (.object "com/example/evenkeel/evenkeel/Write$Condition"), accessFlags := 16409, slot := 2, constantValue := 0 }, { name := "$VALUES", type := (.array (.object "com/example/evenkeel/evenkeel/Write$Condition")), accessFlags := 4122, slot := 3, constantValue := 0 }]
  methods := #[k6m0]
  instanceTypes := #[(.object "java/lang/String"), .int, .int]
  staticTypes := #[(.object "com/example/evenkeel/evenkeel/Write$Condition"), (.object "com/example/evenkeel/evenkeel/Write$Condition"), (.object "com/example/evenkeel/evenkeel/Write$Condition"), (.array (.object "com/example/evenkeel/evenkeel/Write$Condition"))]
  resolved := Array.replicate 61 none
  statics := some 0 }

def pool7 : Array CpInfo := pool [(1, .methodref 2 3), (0, .class_ 4), (0, .nameAndType 5 6), (0, u "java/lang/Object"), (0, u "<init>"), (0, u "()V"), (1, .class_ 10), (1, u "java/lang/Number"), (2, .class_ 14), (0, u "java/io/Serializable"), (0, u "serialVersionUID"), (0, u "J")] 20

def k7c0 : Code := { maxStack := 1, maxLocals := 1, code := jdk_18_method_1_code, exceptionTable := #[], attributes := #[] }
def k7m0 : Method := { name := "<init>", desc := "()V", sig := { parameters := [], returnType := none }, accessFlags := 1, code := some k7c0 }
/-- java/lang/Number -/
def k7 : Class := { plain "java/lang/Number" (some 0) with
  accessFlags := 1057
  interfaces := #[4]
  cf := some (fileOf pool7 8 #[] #[{ accessFlags := 1, nameIndex := 5, descriptorIndex := 6, attributes := #[] }] 1057 2 #[13] #[{ accessFlags := 26, nameIndex := 15, descriptorIndex := 16, attributes := #[] }])
  fields := #[{ name := "serialVersionUID", type := .long, accessFlags := 26, slot := 0, constantValue := 0 }]
  methods := #[k7m0]
  instanceTypes := #[]
  staticTypes := #[.long]
  resolved := Array.replicate 37 none
  statics := none }

def pool8 : Array CpInfo := pool [(1, .class_ 2), (0, u "java/lang/constant/ConstantDesc"), (0, .class_ 4), (0, u "java/lang/Object")] 32

/-- java/lang/constant/ConstantDesc -/
def k8 : Class := { plain "java/lang/constant/ConstantDesc" (some 0) with
  accessFlags := 1537
  interfaces := #[]
  cf := some (fileOf pool8 1 #[] #[] 1537 3 #[] #[])
  fields := #[]
  methods := #[]
  instanceTypes := #[]
  staticTypes := #[]
  resolved := Array.replicate 37 none
  statics := none }

def pool9 : Array CpInfo := pool [(1, .class_ 2), (0, u "java/lang/Integer"), (16, u "digits"), (0, u "[C"), (46, u "<init>"), (17, u "DigitOnes"), (0, u "[B"), (2, u "DigitTens"), (10, .nameAndType 67 101), (0, u "()V"), (85, u "valueOf"), (0, u "(I)Ljava/lang/Integer;"), (0, .class_ 190), (0, u "java/lang/Integer$IntegerCache"), (0, .fieldref 189 192), (0, .nameAndType 193 194), (0, u "high"), (0, u "I"), (0, .fieldref 189 196), (0, .nameAndType 197 198), (0, u "cache"), (0, u "[Ljava/lang/Integer;"), (0, .methodref 1 200), (0, .nameAndType 67 201), (0, u "(I)V"), (0, .methodref 203 100), (0, .class_ 204), (0, u "java/lang/Number"), (0, .fieldref 1 206), (0, .nameAndType 207 194), (0, u "value"), (94, u "TYPE"), (0, u "Ljava/lang/Class;"), (0, .class_ 305), (0, u "java/lang/Comparable"), (0, .class_ 307), (0, u "java/lang/constant/Constable"), (0, .class_ 309), (0, u "java/lang/constant/ConstantDesc"), (0, u "MIN_VALUE"), (1, u "MAX_VALUE"), (3, u "SIZE"), (1, u "BYTES"), (1, u "serialVersionUID"), (0, u "J")] 131

def k9c0 : Code := { maxStack := 3, maxLocals := 1, code := jdk_33_method_22_code, exceptionTable := #[], attributes := #[] }
def k9m0 : Method := { name := "valueOf", desc := "(I)Ljava/lang/Integer;", sig := { parameters := [.int], returnType := some (.object "java/lang/Integer") }, accessFlags := 9, code := some k9c0 }
def k9c1 : Code := { maxStack := 2, maxLocals := 2, code := jdk_33_method_23_code, exceptionTable := #[], attributes := #[] }
def k9m1 : Method := { name := "<init>", desc := "(I)V", sig := { parameters := [.int], returnType := none }, accessFlags := 1, code := some k9c1 }
/-- java/lang/Integer -/
def k9 : Class := { plain "java/lang/Integer" (some 7) with
  accessFlags := 49
  interfaces := #[3, 2, 8]
  cf := some (fileOf pool9 1 #[.nestMembers #[189]] #[{ accessFlags := 9, nameIndex := 187, descriptorIndex := 188, attributes := #[] }, { accessFlags := 1, nameIndex := 67, descriptorIndex := 201, attributes := #[] }] 49 203 #[304, 306, 308] #[{ accessFlags := 25, nameIndex := 310, descriptorIndex := 194, attributes := #[] }, { accessFlags := 25, nameIndex := 312, descriptorIndex := 194, attributes := #[] }, { accessFlags := 25, nameIndex := 302, descriptorIndex := 303, attributes := #[] }, { accessFlags := 24, nameIndex := 19, descriptorIndex := 20, attributes := #[] }, { accessFlags := 24, nameIndex := 89, descriptorIndex := 86, attributes := #[] }, { accessFlags := 24, nameIndex := 85, descriptorIndex := 86, attributes := #[] }, { accessFlags := 18, nameIndex := 207, descriptorIndex := 194, attributes := #[] }, { accessFlags := 25, nameIndex := 316, descriptorIndex := 194, attributes := #[] }, { accessFlags := 25, nameIndex := 318, descriptorIndex := 194, attributes := #[] }, { accessFlags := 26, nameIndex := 320, descriptorIndex := 321, attributes := #[] }])
  fields := #[{ name := "MIN_VALUE", type := .int, accessFlags := 25, slot := 0, constantValue := 0 }, { name := "MAX_VALUE", type := .int, accessFlags := 25, slot := 1, constantValue := 0 }, { name := "TYPE", type := (.object "java/lang/Class"), accessFlags := 25, slot := 2, constantValue := 0 }, { name := "digits", type := (.array .char), accessFlags := 24, slot := 3, constantValue := 0 }, { name := "DigitTens", type := (.array .byte), accessFlags := 24, slot := 4, constantValue := 0 }, { name := "DigitOnes", type := (.array .byte), accessFlags := 24, slot := 5, constantValue := 0 }, { name := "value", type := .int, accessFlags := 18, slot := 0, constantValue := 0 }, { name := "SIZE", type := .int, accessFlags := 25, slot := 6, constantValue := 0 }, { name := "BYTES", type := .int, accessFlags := 25, slot := 7, constantValue := 0 }, { name := "serialVersionUID", type := .long, accessFlags := 26, slot := 8, constantValue := 0 }]
  methods := #[k9m0, k9m1]
  instanceTypes := #[.int]
  staticTypes := #[.int, .int, (.object "java/lang/Class"), (.array .char), (.array .byte), (.array .byte), .int, .int, .long]
  resolved := Array.replicate 453 none
  statics := none }

def pool10 : Array CpInfo := pool [(2, .class_ 4), (1, u "java/lang/Object"), (0, u "<init>"), (0, u "()V"), (0, .class_ 8), (0, u "java/lang/Integer"), (7, .class_ 18), (1, u "java/lang/Integer$IntegerCache"), (0, u "$assertionsDisabled"), (0, u "Z"), (26, u "high"), (0, u "I"), (8, u "archivedCache"), (0, u "[Ljava/lang/Integer;"), (12, u "cache"), (0, u "low")] 27

def k10m0 : Method := { name := "<init>", desc := "()V", sig := { parameters := [], returnType := none }, accessFlags := 2, code := none }
/-- java/lang/Integer$IntegerCache -/
def k10 : Class := { plain "java/lang/Integer$IntegerCache" (some 0) with
  accessFlags := 48
  interfaces := #[]
  cf := some (fileOf pool10 16 #[.nestHost 7] #[{ accessFlags := 2, nameIndex := 5, descriptorIndex := 6, attributes := #[] }] 48 2 #[] #[{ accessFlags := 24, nameIndex := 72, descriptorIndex := 48, attributes := #[] }, { accessFlags := 24, nameIndex := 47, descriptorIndex := 48, attributes := #[] }, { accessFlags := 24, nameIndex := 71, descriptorIndex := 58, attributes := #[] }, { accessFlags := 8, nameIndex := 57, descriptorIndex := 58, attributes := #[] }, { accessFlags := 4120, nameIndex := 19, descriptorIndex := 20, attributes := #[] }])
  fields := #[{ name := "low", type := .int, accessFlags := 24, slot := 0, constantValue := 0 }, { name := "high", type := .int, accessFlags := 24, slot := 1, constantValue := 0 }, { name := "cache", type := (.array (.object "java/lang/Integer")), accessFlags := 24, slot := 2, constantValue := 0 }, { name := "archivedCache", type := (.array (.object "java/lang/Integer")), accessFlags := 8, slot := 3, constantValue := 0 }, { name := "$assertionsDisabled", type := .boolean, accessFlags := 4120, slot := 4, constantValue := 0 }]
  methods := #[k10m0]
  instanceTypes := #[]
  staticTypes := #[.int, .int, (.array (.object "java/lang/Integer")), (.array (.object "java/lang/Integer")), .boolean]
  resolved := Array.replicate 100 none
  statics := some 1 }

def pool11 : Array CpInfo := pool [(1, u "java/lang/Cloneable"), (0, .class_ 1), (0, u "java/lang/Object"), (0, .class_ 3)] 3

/-- java/lang/Cloneable -/
def k11 : Class := { plain "java/lang/Cloneable" (some 0) with
  accessFlags := 1537
  interfaces := #[]
  cf := some (fileOf pool11 2 #[] #[] 1537 4 #[] #[])
  fields := #[]
  methods := #[]
  instanceTypes := #[]
  staticTypes := #[]
  resolved := Array.replicate 8 none
  statics := none }

/-- the primitive byte -/
def k12 : Class := { plain "byte" none with kind := .primitive 'B', accessFlags := 0x411 }
/-- [B -/
def k13 : Class := { plain "[B" (some 0) with kind := .array 12 .byte, interfaces := #[11, 4], accessFlags := 1041 }

/-- the primitive int -/
def k14 : Class := { plain "int" none with kind := .primitive 'I', accessFlags := 0x411 }
/-- [I -/
def k15 : Class := { plain "[I" (some 0) with kind := .array 14 .int, interfaces := #[11, 4], accessFlags := 1041 }

/-- [Ljava/lang/Integer; -/
def k16 : Class := { plain "[Ljava/lang/Integer;" (some 0) with kind := .array 9 (.object "java/lang/Integer"), interfaces := #[11, 4], accessFlags := 1041 }

def heap : Heap := #[{ cls := 6, slots := #[.ref 259, .ref 260, .ref 261, .null], vm := .statics 6 },
  { cls := 10, slots := #[.int 0, .int 127, .ref 2, .null, .int 0], vm := .statics 10 },
  { cls := 16, slots := #[.ref 3, .ref 4, .ref 5, .ref 6, .ref 7, .ref 8, .ref 9, .ref 10, .ref 11, .ref 12, .ref 13, .ref 14, .ref 15, .ref 16, .ref 17, .ref 18, .ref 19, .ref 20, .ref 21, .ref 22, .ref 23, .ref 24, .ref 25, .ref 26, .ref 27, .ref 28, .ref 29, .ref 30, .ref 31, .ref 32, .ref 33, .ref 34, .ref 35, .ref 36, .ref 37, .ref 38, .ref 39, .ref 40, .ref 41, .ref 42, .ref 43, .ref 44, .ref 45, .ref 46, .ref 47, .ref 48, .ref 49, .ref 50, .ref 51, .ref 52, .ref 53, .ref 54, .ref 55, .ref 56, .ref 57, .ref 58, .ref 59, .ref 60, .ref 61, .ref 62, .ref 63, .ref 64, .ref 65, .ref 66, .ref 67, .ref 68, .ref 69, .ref 70, .ref 71, .ref 72, .ref 73, .ref 74, .ref 75, .ref 76, .ref 77, .ref 78, .ref 79, .ref 80, .ref 81, .ref 82, .ref 83, .ref 84, .ref 85, .ref 86, .ref 87, .ref 88, .ref 89, .ref 90, .ref 91, .ref 92, .ref 93, .ref 94, .ref 95, .ref 96, .ref 97, .ref 98, .ref 99, .ref 100, .ref 101, .ref 102, .ref 103, .ref 104, .ref 105, .ref 106, .ref 107, .ref 108, .ref 109, .ref 110, .ref 111, .ref 112, .ref 113, .ref 114, .ref 115, .ref 116, .ref 117, .ref 118, .ref 119, .ref 120, .ref 121, .ref 122, .ref 123, .ref 124, .ref 125, .ref 126, .ref 127, .ref 128, .ref 129, .ref 130, .ref 131, .ref 132, .ref 133, .ref 134, .ref 135, .ref 136, .ref 137, .ref 138, .ref 139, .ref 140, .ref 141, .ref 142, .ref 143, .ref 144, .ref 145, .ref 146, .ref 147, .ref 148, .ref 149, .ref 150, .ref 151, .ref 152, .ref 153, .ref 154, .ref 155, .ref 156, .ref 157, .ref 158, .ref 159, .ref 160, .ref 161, .ref 162, .ref 163, .ref 164, .ref 165, .ref 166, .ref 167, .ref 168, .ref 169, .ref 170, .ref 171, .ref 172, .ref 173, .ref 174, .ref 175, .ref 176, .ref 177, .ref 178, .ref 179, .ref 180, .ref 181, .ref 182, .ref 183, .ref 184, .ref 185, .ref 186, .ref 187, .ref 188, .ref 189, .ref 190, .ref 191, .ref 192, .ref 193, .ref 194, .ref 195, .ref 196, .ref 197, .ref 198, .ref 199, .ref 200, .ref 201, .ref 202, .ref 203, .ref 204, .ref 205, .ref 206, .ref 207, .ref 208, .ref 209, .ref 210, .ref 211, .ref 212, .ref 213, .ref 214, .ref 215, .ref 216, .ref 217, .ref 218, .ref 219, .ref 220, .ref 221, .ref 222, .ref 223, .ref 224, .ref 225, .ref 226, .ref 227, .ref 228, .ref 229, .ref 230, .ref 231, .ref 232, .ref 233, .ref 234, .ref 235, .ref 236, .ref 237, .ref 238, .ref 239, .ref 240, .ref 241, .ref 242, .ref 243, .ref 244, .ref 245, .ref 246, .ref 247, .ref 248, .ref 249, .ref 250, .ref 251, .ref 252, .ref 253, .ref 254, .ref 255, .ref 256, .ref 257, .ref 258], vm := .none },
  { cls := 9, slots := #[.int (-128)], vm := .none },
  { cls := 9, slots := #[.int (-127)], vm := .none },
  { cls := 9, slots := #[.int (-126)], vm := .none },
  { cls := 9, slots := #[.int (-125)], vm := .none },
  { cls := 9, slots := #[.int (-124)], vm := .none },
  { cls := 9, slots := #[.int (-123)], vm := .none },
  { cls := 9, slots := #[.int (-122)], vm := .none },
  { cls := 9, slots := #[.int (-121)], vm := .none },
  { cls := 9, slots := #[.int (-120)], vm := .none },
  { cls := 9, slots := #[.int (-119)], vm := .none },
  { cls := 9, slots := #[.int (-118)], vm := .none },
  { cls := 9, slots := #[.int (-117)], vm := .none },
  { cls := 9, slots := #[.int (-116)], vm := .none },
  { cls := 9, slots := #[.int (-115)], vm := .none },
  { cls := 9, slots := #[.int (-114)], vm := .none },
  { cls := 9, slots := #[.int (-113)], vm := .none },
  { cls := 9, slots := #[.int (-112)], vm := .none },
  { cls := 9, slots := #[.int (-111)], vm := .none },
  { cls := 9, slots := #[.int (-110)], vm := .none },
  { cls := 9, slots := #[.int (-109)], vm := .none },
  { cls := 9, slots := #[.int (-108)], vm := .none },
  { cls := 9, slots := #[.int (-107)], vm := .none },
  { cls := 9, slots := #[.int (-106)], vm := .none },
  { cls := 9, slots := #[.int (-105)], vm := .none },
  { cls := 9, slots := #[.int (-104)], vm := .none },
  { cls := 9, slots := #[.int (-103)], vm := .none },
  { cls := 9, slots := #[.int (-102)], vm := .none },
  { cls := 9, slots := #[.int (-101)], vm := .none },
  { cls := 9, slots := #[.int (-100)], vm := .none },
  { cls := 9, slots := #[.int (-99)], vm := .none },
  { cls := 9, slots := #[.int (-98)], vm := .none },
  { cls := 9, slots := #[.int (-97)], vm := .none },
  { cls := 9, slots := #[.int (-96)], vm := .none },
  { cls := 9, slots := #[.int (-95)], vm := .none },
  { cls := 9, slots := #[.int (-94)], vm := .none },
  { cls := 9, slots := #[.int (-93)], vm := .none },
  { cls := 9, slots := #[.int (-92)], vm := .none },
  { cls := 9, slots := #[.int (-91)], vm := .none },
  { cls := 9, slots := #[.int (-90)], vm := .none },
  { cls := 9, slots := #[.int (-89)], vm := .none },
  { cls := 9, slots := #[.int (-88)], vm := .none },
  { cls := 9, slots := #[.int (-87)], vm := .none },
  { cls := 9, slots := #[.int (-86)], vm := .none },
  { cls := 9, slots := #[.int (-85)], vm := .none },
  { cls := 9, slots := #[.int (-84)], vm := .none },
  { cls := 9, slots := #[.int (-83)], vm := .none },
  { cls := 9, slots := #[.int (-82)], vm := .none },
  { cls := 9, slots := #[.int (-81)], vm := .none },
  { cls := 9, slots := #[.int (-80)], vm := .none },
  { cls := 9, slots := #[.int (-79)], vm := .none },
  { cls := 9, slots := #[.int (-78)], vm := .none },
  { cls := 9, slots := #[.int (-77)], vm := .none },
  { cls := 9, slots := #[.int (-76)], vm := .none },
  { cls := 9, slots := #[.int (-75)], vm := .none },
  { cls := 9, slots := #[.int (-74)], vm := .none },
  { cls := 9, slots := #[.int (-73)], vm := .none },
  { cls := 9, slots := #[.int (-72)], vm := .none },
  { cls := 9, slots := #[.int (-71)], vm := .none },
  { cls := 9, slots := #[.int (-70)], vm := .none },
  { cls := 9, slots := #[.int (-69)], vm := .none },
  { cls := 9, slots := #[.int (-68)], vm := .none },
  { cls := 9, slots := #[.int (-67)], vm := .none },
  { cls := 9, slots := #[.int (-66)], vm := .none },
  { cls := 9, slots := #[.int (-65)], vm := .none },
  { cls := 9, slots := #[.int (-64)], vm := .none },
  { cls := 9, slots := #[.int (-63)], vm := .none },
  { cls := 9, slots := #[.int (-62)], vm := .none },
  { cls := 9, slots := #[.int (-61)], vm := .none },
  { cls := 9, slots := #[.int (-60)], vm := .none },
  { cls := 9, slots := #[.int (-59)], vm := .none },
  { cls := 9, slots := #[.int (-58)], vm := .none },
  { cls := 9, slots := #[.int (-57)], vm := .none },
  { cls := 9, slots := #[.int (-56)], vm := .none },
  { cls := 9, slots := #[.int (-55)], vm := .none },
  { cls := 9, slots := #[.int (-54)], vm := .none },
  { cls := 9, slots := #[.int (-53)], vm := .none },
  { cls := 9, slots := #[.int (-52)], vm := .none },
  { cls := 9, slots := #[.int (-51)], vm := .none },
  { cls := 9, slots := #[.int (-50)], vm := .none },
  { cls := 9, slots := #[.int (-49)], vm := .none },
  { cls := 9, slots := #[.int (-48)], vm := .none },
  { cls := 9, slots := #[.int (-47)], vm := .none },
  { cls := 9, slots := #[.int (-46)], vm := .none },
  { cls := 9, slots := #[.int (-45)], vm := .none },
  { cls := 9, slots := #[.int (-44)], vm := .none },
  { cls := 9, slots := #[.int (-43)], vm := .none },
  { cls := 9, slots := #[.int (-42)], vm := .none },
  { cls := 9, slots := #[.int (-41)], vm := .none },
  { cls := 9, slots := #[.int (-40)], vm := .none },
  { cls := 9, slots := #[.int (-39)], vm := .none },
  { cls := 9, slots := #[.int (-38)], vm := .none },
  { cls := 9, slots := #[.int (-37)], vm := .none },
  { cls := 9, slots := #[.int (-36)], vm := .none },
  { cls := 9, slots := #[.int (-35)], vm := .none },
  { cls := 9, slots := #[.int (-34)], vm := .none },
  { cls := 9, slots := #[.int (-33)], vm := .none },
  { cls := 9, slots := #[.int (-32)], vm := .none },
  { cls := 9, slots := #[.int (-31)], vm := .none },
  { cls := 9, slots := #[.int (-30)], vm := .none },
  { cls := 9, slots := #[.int (-29)], vm := .none },
  { cls := 9, slots := #[.int (-28)], vm := .none },
  { cls := 9, slots := #[.int (-27)], vm := .none },
  { cls := 9, slots := #[.int (-26)], vm := .none },
  { cls := 9, slots := #[.int (-25)], vm := .none },
  { cls := 9, slots := #[.int (-24)], vm := .none },
  { cls := 9, slots := #[.int (-23)], vm := .none },
  { cls := 9, slots := #[.int (-22)], vm := .none },
  { cls := 9, slots := #[.int (-21)], vm := .none },
  { cls := 9, slots := #[.int (-20)], vm := .none },
  { cls := 9, slots := #[.int (-19)], vm := .none },
  { cls := 9, slots := #[.int (-18)], vm := .none },
  { cls := 9, slots := #[.int (-17)], vm := .none },
  { cls := 9, slots := #[.int (-16)], vm := .none },
  { cls := 9, slots := #[.int (-15)], vm := .none },
  { cls := 9, slots := #[.int (-14)], vm := .none },
  { cls := 9, slots := #[.int (-13)], vm := .none },
  { cls := 9, slots := #[.int (-12)], vm := .none },
  { cls := 9, slots := #[.int (-11)], vm := .none },
  { cls := 9, slots := #[.int (-10)], vm := .none },
  { cls := 9, slots := #[.int (-9)], vm := .none },
  { cls := 9, slots := #[.int (-8)], vm := .none },
  { cls := 9, slots := #[.int (-7)], vm := .none },
  { cls := 9, slots := #[.int (-6)], vm := .none },
  { cls := 9, slots := #[.int (-5)], vm := .none },
  { cls := 9, slots := #[.int (-4)], vm := .none },
  { cls := 9, slots := #[.int (-3)], vm := .none },
  { cls := 9, slots := #[.int (-2)], vm := .none },
  { cls := 9, slots := #[.int (-1)], vm := .none },
  { cls := 9, slots := #[.int 0], vm := .none },
  { cls := 9, slots := #[.int 1], vm := .none },
  { cls := 9, slots := #[.int 2], vm := .none },
  { cls := 9, slots := #[.int 3], vm := .none },
  { cls := 9, slots := #[.int 4], vm := .none },
  { cls := 9, slots := #[.int 5], vm := .none },
  { cls := 9, slots := #[.int 6], vm := .none },
  { cls := 9, slots := #[.int 7], vm := .none },
  { cls := 9, slots := #[.int 8], vm := .none },
  { cls := 9, slots := #[.int 9], vm := .none },
  { cls := 9, slots := #[.int 10], vm := .none },
  { cls := 9, slots := #[.int 11], vm := .none },
  { cls := 9, slots := #[.int 12], vm := .none },
  { cls := 9, slots := #[.int 13], vm := .none },
  { cls := 9, slots := #[.int 14], vm := .none },
  { cls := 9, slots := #[.int 15], vm := .none },
  { cls := 9, slots := #[.int 16], vm := .none },
  { cls := 9, slots := #[.int 17], vm := .none },
  { cls := 9, slots := #[.int 18], vm := .none },
  { cls := 9, slots := #[.int 19], vm := .none },
  { cls := 9, slots := #[.int 20], vm := .none },
  { cls := 9, slots := #[.int 21], vm := .none },
  { cls := 9, slots := #[.int 22], vm := .none },
  { cls := 9, slots := #[.int 23], vm := .none },
  { cls := 9, slots := #[.int 24], vm := .none },
  { cls := 9, slots := #[.int 25], vm := .none },
  { cls := 9, slots := #[.int 26], vm := .none },
  { cls := 9, slots := #[.int 27], vm := .none },
  { cls := 9, slots := #[.int 28], vm := .none },
  { cls := 9, slots := #[.int 29], vm := .none },
  { cls := 9, slots := #[.int 30], vm := .none },
  { cls := 9, slots := #[.int 31], vm := .none },
  { cls := 9, slots := #[.int 32], vm := .none },
  { cls := 9, slots := #[.int 33], vm := .none },
  { cls := 9, slots := #[.int 34], vm := .none },
  { cls := 9, slots := #[.int 35], vm := .none },
  { cls := 9, slots := #[.int 36], vm := .none },
  { cls := 9, slots := #[.int 37], vm := .none },
  { cls := 9, slots := #[.int 38], vm := .none },
  { cls := 9, slots := #[.int 39], vm := .none },
  { cls := 9, slots := #[.int 40], vm := .none },
  { cls := 9, slots := #[.int 41], vm := .none },
  { cls := 9, slots := #[.int 42], vm := .none },
  { cls := 9, slots := #[.int 43], vm := .none },
  { cls := 9, slots := #[.int 44], vm := .none },
  { cls := 9, slots := #[.int 45], vm := .none },
  { cls := 9, slots := #[.int 46], vm := .none },
  { cls := 9, slots := #[.int 47], vm := .none },
  { cls := 9, slots := #[.int 48], vm := .none },
  { cls := 9, slots := #[.int 49], vm := .none },
  { cls := 9, slots := #[.int 50], vm := .none },
  { cls := 9, slots := #[.int 51], vm := .none },
  { cls := 9, slots := #[.int 52], vm := .none },
  { cls := 9, slots := #[.int 53], vm := .none },
  { cls := 9, slots := #[.int 54], vm := .none },
  { cls := 9, slots := #[.int 55], vm := .none },
  { cls := 9, slots := #[.int 56], vm := .none },
  { cls := 9, slots := #[.int 57], vm := .none },
  { cls := 9, slots := #[.int 58], vm := .none },
  { cls := 9, slots := #[.int 59], vm := .none },
  { cls := 9, slots := #[.int 60], vm := .none },
  { cls := 9, slots := #[.int 61], vm := .none },
  { cls := 9, slots := #[.int 62], vm := .none },
  { cls := 9, slots := #[.int 63], vm := .none },
  { cls := 9, slots := #[.int 64], vm := .none },
  { cls := 9, slots := #[.int 65], vm := .none },
  { cls := 9, slots := #[.int 66], vm := .none },
  { cls := 9, slots := #[.int 67], vm := .none },
  { cls := 9, slots := #[.int 68], vm := .none },
  { cls := 9, slots := #[.int 69], vm := .none },
  { cls := 9, slots := #[.int 70], vm := .none },
  { cls := 9, slots := #[.int 71], vm := .none },
  { cls := 9, slots := #[.int 72], vm := .none },
  { cls := 9, slots := #[.int 73], vm := .none },
  { cls := 9, slots := #[.int 74], vm := .none },
  { cls := 9, slots := #[.int 75], vm := .none },
  { cls := 9, slots := #[.int 76], vm := .none },
  { cls := 9, slots := #[.int 77], vm := .none },
  { cls := 9, slots := #[.int 78], vm := .none },
  { cls := 9, slots := #[.int 79], vm := .none },
  { cls := 9, slots := #[.int 80], vm := .none },
  { cls := 9, slots := #[.int 81], vm := .none },
  { cls := 9, slots := #[.int 82], vm := .none },
  { cls := 9, slots := #[.int 83], vm := .none },
  { cls := 9, slots := #[.int 84], vm := .none },
  { cls := 9, slots := #[.int 85], vm := .none },
  { cls := 9, slots := #[.int 86], vm := .none },
  { cls := 9, slots := #[.int 87], vm := .none },
  { cls := 9, slots := #[.int 88], vm := .none },
  { cls := 9, slots := #[.int 89], vm := .none },
  { cls := 9, slots := #[.int 90], vm := .none },
  { cls := 9, slots := #[.int 91], vm := .none },
  { cls := 9, slots := #[.int 92], vm := .none },
  { cls := 9, slots := #[.int 93], vm := .none },
  { cls := 9, slots := #[.int 94], vm := .none },
  { cls := 9, slots := #[.int 95], vm := .none },
  { cls := 9, slots := #[.int 96], vm := .none },
  { cls := 9, slots := #[.int 97], vm := .none },
  { cls := 9, slots := #[.int 98], vm := .none },
  { cls := 9, slots := #[.int 99], vm := .none },
  { cls := 9, slots := #[.int 100], vm := .none },
  { cls := 9, slots := #[.int 101], vm := .none },
  { cls := 9, slots := #[.int 102], vm := .none },
  { cls := 9, slots := #[.int 103], vm := .none },
  { cls := 9, slots := #[.int 104], vm := .none },
  { cls := 9, slots := #[.int 105], vm := .none },
  { cls := 9, slots := #[.int 106], vm := .none },
  { cls := 9, slots := #[.int 107], vm := .none },
  { cls := 9, slots := #[.int 108], vm := .none },
  { cls := 9, slots := #[.int 109], vm := .none },
  { cls := 9, slots := #[.int 110], vm := .none },
  { cls := 9, slots := #[.int 111], vm := .none },
  { cls := 9, slots := #[.int 112], vm := .none },
  { cls := 9, slots := #[.int 113], vm := .none },
  { cls := 9, slots := #[.int 114], vm := .none },
  { cls := 9, slots := #[.int 115], vm := .none },
  { cls := 9, slots := #[.int 116], vm := .none },
  { cls := 9, slots := #[.int 117], vm := .none },
  { cls := 9, slots := #[.int 118], vm := .none },
  { cls := 9, slots := #[.int 119], vm := .none },
  { cls := 9, slots := #[.int 120], vm := .none },
  { cls := 9, slots := #[.int 121], vm := .none },
  { cls := 9, slots := #[.int 122], vm := .none },
  { cls := 9, slots := #[.int 123], vm := .none },
  { cls := 9, slots := #[.int 124], vm := .none },
  { cls := 9, slots := #[.int 125], vm := .none },
  { cls := 9, slots := #[.int 126], vm := .none },
  { cls := 9, slots := #[.int 127], vm := .none },
  { cls := 6, slots := #[.null, .int 0, .int 0], vm := .none },
  { cls := 6, slots := #[.null, .int 1, .int 0], vm := .none },
  { cls := 6, slots := #[.null, .int 2, .int 0], vm := .none }]
def classes : Array Class := #[k0, k1, k2, k3, k4, k5, k6, k7, k8, k9, k10, k11, k12, k13, k14, k15, k16]
def interned : List (Array UInt16 × Addr) := []
def slotsUsed : Nat := 530
def theMethod : MethodId := ⟨1, 1⟩
def args0 : Array Value := #[.int 5, .int 3, .int 2]
def aboutOver (below : List Frame) : State where
  vm := { classes := classes, interned := interned.toArray }
  heap := heap
  slotsUsed := slotsUsed
  threads := #[{ frames := .invoking theMethod args0 :: below }]
def below0 : List Frame := [.native { method := ⟨0, 0⟩, args := #[] }]
def about1 : State := aboutOver below0
def p0 : Program := .bare "" "" ""
def e0 : Env := launch0.env 0 0 0
theorem w_frames : about1.frames = Frame.invoking theMethod args0 :: below0 := rfl
set_option maxRecDepth 65536 in
theorem w_args : argsFit about1.vm theMethod args0 = true := by decide +kernel
set_option maxRecDepth 65536 in
theorem w_heap : heapFits about1 = true := by decide +kernel
set_option maxRecDepth 65536 in
theorem w_runnable : about1.curStatus? = some .runnable := by decide +kernel
set_option maxRecDepth 65536 in
theorem w_alone : about1.alone = true := by decide +kernel
set_option maxRecDepth 65536 in
theorem w_named : about1.methodNamed? x = some theMethod := by decide +kernel
set_option maxRecDepth 65536 in
theorem w_hears : about1.hears theMethod below0 = true := by decide +kernel
set_option maxRecDepth 65536 in
theorem w_ripe : about1.ripe theMethod args0 below0 = true := by decide +kernel
theorem w_running : about1.status = .running := rfl
set_option maxRecDepth 65536 in
theorem w_room : about1.hasRoom e0.platform room_1 = true :=
  launch0.hasRoom_least _ room_1 (by decide +kernel) (by decide +kernel) (by decide +kernel) (by decide +kernel) (by decide +kernel) (by decide +kernel)
theorem allAtoms_all (ts : List Jvm.Cond) (a : Array Jvm.Value) (st : Jvm.State) : (allAtoms ts).before a st = ts.all (fun c => c.before a st) := by
  induction ts with
  | nil => rfl
  | cons c t ih =>
    show (Jvm.Cond.and c (allAtoms t)).before a st = _
    rw [Jvm.Cond.before_and, ih, List.all_cons]
def words1 : List Jvm.Cond := Jvm.Cond.code x code maxLocals ret :: tables_1
/-- a 'code' word, met by the world's own term for the bytes: nothing is compared byte by byte -/
theorem code_word {y : MethodName} {bytes : ByteArray} {mx : Nat} {rt : Option FieldType} {a : Array Value} {s : State} {m : MethodId} {meth : Method} {c : Code} (h1 : s.methodNamed? y = some m) (h2 : s.vm.method? m = some meth) (h3 : meth.code = some c) (h4 : c.code = bytes)
    (h5 : (c.maxLocals == mx && c.exceptionTable.isEmpty && decide (c.maxStack ≤ mostOperands) && decide (meth.sig.returnType = rt) && !meth.locks && decide (parseMethodDescriptor y.desc = some meth.sig)) = true) : (Jvm.Cond.code y bytes mx rt).before a s = true := by
  simp only [Bool.and_eq_true, beq_iff_eq, Bool.not_eq_true', decide_eq_true_eq] at h5
  obtain ⟨⟨⟨⟨⟨g1, g2⟩, g3⟩, g4⟩, g5⟩, g6⟩ := h5
  simp [Cond.before, Cond.holds, Cond.value, h1, h2, h3, h4, g1, g2, g3, g4, g5, g6]
def isCode : Jvm.Cond → Bool
  | .code _ _ _ _ => true
  | _ => false
theorem all_split {L : List Jvm.Cond} {P : Jvm.Cond → Bool} (h1 : L.all (fun c => isCode c || P c) = true) (h2 : ∀ c ∈ L.filter isCode, P c = true) : L.all P = true := by
  refine List.all_eq_true.mpr fun c hc => ?_
  have h := List.all_eq_true.mp h1 c hc
  rcases Bool.eq_false_or_eq_true (isCode c) with hi | hi
  · exact h2 c (List.mem_filter.mpr ⟨hc, hi⟩)
  · simpa [hi] using h
set_option maxRecDepth 65536 in
theorem w_c0 : (Jvm.Cond.code x code maxLocals ret).before args0 about1 = true := code_word (m := ⟨1, 1⟩) (meth := k1m1) (c := k1c1) (by decide +kernel) rfl rfl rfl (by decide +kernel)
set_option maxRecDepth 65536 in
theorem w_c1 : (Jvm.Cond.code ({ cls := "com/example/evenkeel/evenkeel/Write$Condition", name := "holdsFor", desc := "(Ljava/lang/Object;)Z" } : Jvm.MethodName) prog_191_method_4_code (2 : Nat) (Option.some Jvm.ClassFile.FieldType.boolean)).before args0 about1 = true := code_word (m := ⟨6, 0⟩) (meth := k6m0) (c := k6c0) (by decide +kernel) rfl rfl rfl (by decide +kernel)
set_option maxRecDepth 65536 in
theorem w_c2 : (Jvm.Cond.code ({ cls := "java/lang/Integer", name := "valueOf", desc := "(I)Ljava/lang/Integer;" } : Jvm.MethodName) jdk_33_method_22_code (1 : Nat) (Option.some (Jvm.ClassFile.FieldType.object "java/lang/Integer"))).before args0 about1 = true := code_word (m := ⟨9, 0⟩) (meth := k9m0) (c := k9c0) (by decide +kernel) rfl rfl rfl (by decide +kernel)
set_option maxRecDepth 65536 in
theorem w_c3 : (Jvm.Cond.code ({ cls := "java/lang/Integer", name := "<init>", desc := "(I)V" } : Jvm.MethodName) jdk_33_method_23_code (2 : Nat) (Option.none : Option Jvm.ClassFile.FieldType)).before args0 about1 = true := code_word (m := ⟨9, 1⟩) (meth := k9m1) (c := k9c1) (by decide +kernel) rfl rfl rfl (by decide +kernel)
set_option maxRecDepth 65536 in
theorem w_c4 : (Jvm.Cond.code ({ cls := "java/lang/Number", name := "<init>", desc := "()V" } : Jvm.MethodName) jdk_18_method_1_code (1 : Nat) (Option.none : Option Jvm.ClassFile.FieldType)).before args0 about1 = true := code_word (m := ⟨7, 0⟩) (meth := k7m0) (c := k7c0) (by decide +kernel) rfl rfl rfl (by decide +kernel)
set_option maxRecDepth 65536 in
theorem w_c5 : (Jvm.Cond.code ({ cls := "java/lang/Object", name := "<init>", desc := "()V" } : Jvm.MethodName) object_method_1_code (1 : Nat) (Option.none : Option Jvm.ClassFile.FieldType)).before args0 about1 = true := code_word (m := ⟨0, 0⟩) (meth := k0m0) (c := k0c0) (by decide +kernel) rfl rfl rfl (by decide +kernel)
def codes1 : List Jvm.Cond := [Jvm.Cond.code x code maxLocals ret, Jvm.Cond.code ({ cls := "com/example/evenkeel/evenkeel/Write$Condition", name := "holdsFor", desc := "(Ljava/lang/Object;)Z" } : Jvm.MethodName) prog_191_method_4_code (2 : Nat) (Option.some Jvm.ClassFile.FieldType.boolean), Jvm.Cond.code ({ cls := "java/lang/Integer", name := "valueOf", desc := "(I)Ljava/lang/Integer;" } : Jvm.MethodName) jdk_33_method_22_code (1 : Nat) (Option.some (Jvm.ClassFile.FieldType.object "java/lang/Integer")), Jvm.Cond.code ({ cls := "java/lang/Integer", name := "<init>", desc := "(I)V" } : Jvm.MethodName) jdk_33_method_23_code (2 : Nat) (Option.none : Option Jvm.ClassFile.FieldType), Jvm.Cond.code ({ cls := "java/lang/Number", name := "<init>", desc := "()V" } : Jvm.MethodName) jdk_18_method_1_code (1 : Nat) (Option.none : Option Jvm.ClassFile.FieldType), Jvm.Cond.code ({ cls := "java/lang/Object", name := "<init>", desc := "()V" } : Jvm.MethodName) object_method_1_code (1 : Nat) (Option.none : Option Jvm.ClassFile.FieldType)]
set_option maxRecDepth 65536 in
theorem codes_eq : words1.filter isCode = codes1 := rfl
theorem w_codes : ∀ c ∈ words1.filter isCode, c.before args0 about1 = true := by
  rw [codes_eq]
  intro c hc
  simp only [codes1, List.mem_cons, List.not_mem_nil, or_false] at hc
  rcases hc with rfl | rfl | rfl | rfl | rfl | rfl
  · exact w_c0
  · exact w_c1
  · exact w_c2
  · exact w_c3
  · exact w_c4
  · exact w_c5
set_option maxRecDepth 65536 in
theorem w_t1 : (words1.take 24).all (fun c => isCode c || c.before args0 about1) = true := by decide +kernel
set_option maxRecDepth 65536 in
theorem w_t2 : (words1.drop 24).all (fun c => isCode c || c.before args0 about1) = true := by decide +kernel
theorem w_tables : (allAtoms (Jvm.Cond.code x code maxLocals ret :: tables_1)).before args0 about1 = true := by
  rw [allAtoms_all]
  show words1.all (fun c => c.before args0 about1) = true
  refine all_split ?_ w_codes
  rw [← List.take_append_drop 24 words1, List.all_append, w_t1, w_t2]
  rfl
set_option maxRecDepth 65536 in
theorem w_rest : rest_1_c.before args0 about1 = true := by decide +kernel
set_option maxRecDepth 65536 in
theorem w_case : (Jvm.Cond.and given_1 narrow_1).before args0 about1 = true := by decide +kernel
theorem w_applies : (headSpec (Jvm.Cond.code x code maxLocals ret :: tables_1) room_1).applies x e0.platform about1 = true :=
  (Spec.applies_iff w_frames).mpr ⟨w_running, w_runnable, w_alone, w_named, w_hears, w_ripe, w_room, w_tables⟩
theorem atStart : AtStart classFile x code maxLocals ret World_1 tables_1 room_1 Calls_1 rest_1 Pre_1 launch0 p0 e0 about1 theMethod args0 below0 :=
  ⟨lists_1, trivial, launch0.admits_env _ _ _, launch0.least_env, fairChoices_fair.cas, fairChoices_fair.clock, w_frames, w_args, w_heap, w_applies, trivial, w_rest, w_case⟩
end start1
theorem witness_1 : WitnessClaimed_1 := ⟨start1.p0, start1.e0, start1.about1, start1.theMethod, start1.args0, start1.below0, start1.atStart⟩
end Jvm.Pilot.@@N@@
