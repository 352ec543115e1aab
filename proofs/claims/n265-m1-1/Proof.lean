import JvmDerived
import JvmDerived.Pilot.@@N@@Statement
import JvmDerived.Pilot.@@N@@Code
set_option linter.unusedVariables false
set_option linter.unusedSimpArgs false
namespace Jvm.RoadKit
open Sem ClassFile Op Lib Jvm.Stand Jvm.Free Jvm.LawKit
section New
variable {p : Program} {l : Launch} {e : Env} {R : Room} {s : State} {m : MethodId} {args : Array Value} {below : List Frame} {meth : Method} {c : Code} {T : State} {locs : List Loc} {cells slots : Nat}
theorem retI (X : Stand p l e R s m args below meth c T locs cells slots) (hx : p.tables.exec = Jvm.exec) {pc : Nat} {Ls : Array Slot} {z : Int32} {rest : List Value} (hret : meth.sig.returnType = some .int) (hd : decode c.code pc = .ok (.ireturn, 1)) {fs : List Frame}
    (hl : ∀ (f : JFrame) (acts : List Action), f.method = m → f.locked = none → f.entered = [] → (doReturn e (T.setTop f) acts (some (.int z))).1 = T.setFrames fs) : Steps p.tables e below (T.setTop (mkF m pc Ls (.int z :: rest))) (T.setFrames fs) := by
  have hm' : T.vm.method? m = some meth := X.method'
  have hn : narrow .int (.int z) = .int z := rfl
  show Steps p.tables e below (T.setTop { method := m, pc := pc, locals := Ls, stack := _ :: rest, locked := none }) _
  jvm_step X.here [X.here.top, hx, hd, hm', hret, hn]
  first | (intro acts; rw [hl _ acts rfl rfl rfl]) | rw [hl _ _ rfl rfl rfl]
  exact Steps.refl _
theorem own_lrem {g : JFrame} {target : State} (X : Stand p l e R s m args below meth c T locs cells slots) (hx : p.tables.exec = Jvm.exec) (hg : g.method = m) {x y : Int64} {rest : List Value} (hd : decode c.code g.pc = .ok (.lrem, 1)) (hs : g.stack = .long y :: .long x :: rest) (hy : y ≠ 0)
    (hr : Steps p.tables e below (T.setTop { g with pc := g.pc + 1, stack := .long (x % y) :: rest }) target) : Steps p.tables e below (T.setTop g) target :=
  XS.lrem X.here hx hg hd hs hy (by first | exact hr | (rw [lrem_mod]; exact hr))
end New
end Jvm.RoadKit
namespace Jvm.Pilot.@@N@@
open Jvm Jvm.ClassFile Sem Op Lib Jvm.Free Jvm.Stand Jvm.LawKit Jvm.RoadKit Bundle Jvm.Pilot.@@N@@.Jvm.D
/-- from the state A the body returns with QQ -/
def own_Go (p : Program) (e : Env) (below : List Frame) (s : State) (QQ : Option Value → Heap → List Loc → Prop) (k n : Nat) (A : State) : Prop :=
  ∃ U o, Steps p.tables e below A U ∧ U.status = .running ∧ Ended U below o ∧ ∃ v L, o = .returned v ∧ QQ v U.heap L ∧ FrameEnd s o U L k n
theorem own_go {p : Program} {e : Env} {below : List Frame} {s : State} {QQ : Option Value → Heap → List Loc → Prop} {k n : Nat} {A B : State} (h : ∀ t, Steps p.tables e below B t → Steps p.tables e below A t) (g : own_Go p e below s QQ k n B) : own_Go p e below s QQ k n A := by
  obtain ⟨U, o, h1, r⟩ := g
  exact ⟨U, o, h U h1, r⟩
theorem own_ret {p : Program} {l : Launch} {e : Env} {R : Room} {s : State} {m : MethodId} {args : Array Value} {below : List Frame} {meth : Method} {c : Code} {T : State} {locs : List Loc} {cells slots : Nat} {QQ : Option Value → Heap → List Loc → Prop} {k n : Nat} {A : State}
    (X : Stand p l e R s m args below meth c T locs cells slots) {v : Option Value} (hv : meth.sig.returnType = none → v = none) (hlk : meth.locks = false) (hQ : QQ v T.heap locs) (hk : cells ≤ k) (hn : slots ≤ n)
    (st : ∀ fs, (∀ (f : JFrame) (acts : List Action), f.method = m → f.locked = none → f.entered = [] → (doReturn e (T.setTop f) acts v).1 = T.setFrames fs) → Steps p.tables e below A (T.setFrames fs)) : own_Go p e below s QQ k n A := by
  obtain ⟨fs, hr, hrun, hended, hW, hsame⟩ := X.leave hv hlk
  exact ⟨_, _, st fs hr, hrun, hended, _, _, rfl, hQ, ⟨_, rfl⟩, hW, hsame.mono hk hn⟩
def own_GoW (p : Program) (e : Env) (below : List Frame) (s : State) (QQ : Option Value → Heap → List Loc → Prop) (k n : Nat) (A : State) : Prop :=
  ∃ U o, Steps p.tables e below A U ∧ U.status = .running ∧ Ended U below o ∧ ∃ v L, o = .returned v ∧ QQ v U.heap L ∧ ReturnedEndW s o U L k n
theorem own_goW {p : Program} {e : Env} {below : List Frame} {s : State} {QQ : Option Value → Heap → List Loc → Prop} {k n : Nat} {A B : State} (h : ∀ t, Steps p.tables e below B t → Steps p.tables e below A t) (g : own_GoW p e below s QQ k n B) : own_GoW p e below s QQ k n A := by
  obtain ⟨U, o, h1, r⟩ := g
  exact ⟨U, o, h U h1, r⟩
theorem own_retW {p : Program} {l : Launch} {e : Env} {R : Room} {s : State} {vm₁ : Vm} {m : MethodId} {args : Array Value} {below : List Frame} {meth : Method} {c : Code} {T : State} {locs : List Loc} {cells slots : Nat} {QQ : Option Value → Heap → List Loc → Prop} {k n : Nat} {A : State}
    (X : Stand p l e R (s.setVm vm₁) m args below meth c T locs cells slots) {n1 : Nat} (hS : s.Since vm₁ n1) (hn1 : n1 ≤ T.heap.size) {v : Option Value} (hv : meth.sig.returnType = none → v = none) (hlk : meth.locks = false) (hQ : QQ v T.heap locs) (hk : cells ≤ k) (hn : slots ≤ n)
    (st : ∀ fs, (∀ (f : JFrame) (acts : List Action), f.method = m → f.locked = none → f.entered = [] → (doReturn e (T.setTop f) acts v).1 = T.setFrames fs) → Steps p.tables e below A (T.setFrames fs)) : own_GoW p e below s QQ k n A := by
  obtain ⟨fs, hr, hrun, hended, hq⟩ := X.leaveW hS hn1 hv hlk
  exact ⟨_, _, st fs hr, hrun, hended, _, _, rfl, hQ, hq.1, hq.2.1, hq.2.2.1, hq.2.2.2.mono hk hn⟩
/-- an array by what its places hold -/
def own_Ary (Z : State) (h : Heap) (a : Addr) (ty : FieldType) (n : Nat) (f : Nat → Value) : Prop := ∃ c : Cell, Arr Z h a c ty ∧ c.slots.size = n ∧ ∀ j, j < n → c.slots[j]? = some (f j)
def own_set (f : Nat → Value) (i : Nat) (v : Value) : Nat → Value := fun j => if j = i then v else f j
section
variable {Z : State} {h h' : Heap} {a b : Addr} {ty : FieldType} {n : Nat} {f : Nat → Value}
theorem own_Ary.lt (F : own_Ary Z h a ty n f) : a < h.size := by obtain ⟨c, A, -⟩ := F; exact A.lt
theorem own_Ary.ext (F : own_Ary Z h a ty n f) (E : Ext h h') : own_Ary Z h' a ty n f := by obtain ⟨c, A, r⟩ := F; exact ⟨c, A.ext E, r⟩
theorem own_Ary.other {sl : Nat} {v : Value} (F : own_Ary Z h b ty n f) (W : Wr h h' a sl v) (q : b ≠ a) : own_Ary Z h' b ty n f := by obtain ⟨c, A, r⟩ := F; exact ⟨c, A.other W q, r⟩
theorem own_Ary.keep {ws : List Addr} (F : own_Ary Z h a ty n f) (K : Keep h h' ws) (q : a ∉ ws) : own_Ary Z h' a ty n f := by obtain ⟨c, A, r⟩ := F; exact ⟨c, ⟨K.2.1 a c A.1 q, A.2⟩, r⟩
theorem own_Ary.new {k : ClassId} {z : Int32} (A : Arr Z h a (newA k ty z) ty) (hz : z.toNatClampNeg = n) : own_Ary Z h a ty n (fun _ => defaultValue ty) :=
  ⟨_, A, by rw [sz_new]; exact hz, fun j hj => by simp [newA, hz, hj]⟩
theorem own_Ary.set {c : Cell} {i : Nat} {v : Value} (A : Arr Z h a c ty) (S : c.slots.size = n) (G : ∀ j, j < n → c.slots[j]? = some (f j)) (W : Wr h h' a i v) : own_Ary Z h' a ty n (own_set f i v) := by
  refine ⟨_, A.same W, by rw [sz_set]; exact S, fun j hj => ?_⟩
  simp only [Cell.setSlot, Array.getElem?_setIfInBounds, own_set]
  by_cases q : j = i
  · subst q; simp [S, hj]
  · have q' : ¬ i = j := fun z => q z.symm
    simp [q, q', G j hj]
theorem own_Ary.congr {g : Nat → Value} (F : own_Ary Z h a ty n f) (q : ∀ j, j < n → f j = g j) : own_Ary Z h a ty n g := by
  obtain ⟨c, A, S, G⟩ := F; exact ⟨c, A, S, fun j hj => by rw [G j hj, q j hj]⟩
theorem own_sta_keep {C m d : String} {v : Value} (F : Sta Z h C m d v) (K : Keep h h' []) : Sta Z h' C m d v := by
  obtain ⟨cf, i, k, g, st, cell, h1, h2, h3, h4, h5, r⟩ := F
  exact ⟨cf, i, k, g, st, cell, h1, h2, h3, h4, K.2.1 _ _ h5 nin0, r⟩
theorem own_cl {j : Int32} {i : Nat} (q : j.toInt = (i : Int)) : j.toNatClampNeg = i := by
  show j.toInt.toNat = i
  rw [q]; rfl
theorem own_in {c : Cell} {j : Int32} {i : Nat} (S : c.slots.size = n) (q : j.toInt = (i : Int)) (hi : i < n) : ¬ (j < 0 ∨ c.slots.size ≤ j.toNatClampNeg) := by
  rw [own_cl q, S]
  have h0 : (0 : Int32).toInt = 0 := by decide
  intro z
  rcases z with z | z
  · have := Int32.lt_iff_toInt_lt.mp z; omega
  · omega
end
def own_exp (z : Int) (ad_DATA ad_INIT ad_ACK ad_HEARTBEAT ad_HEARTBEAT_ACK : Addr) : Value := if z = 0 then .ref ad_DATA else if z = 1 then .ref ad_INIT else if z = 3 then .ref ad_ACK else if z = 4 then .ref ad_HEARTBEAT else if z = 5 then .ref ad_HEARTBEAT_ACK else .null
def own_f5 (ad_DATA ad_INIT ad_ACK ad_HEARTBEAT ad_HEARTBEAT_ACK : Addr) (j : Nat) : Value := if j = 0 then .ref ad_DATA else if j = 1 then .ref ad_INIT else if j = 2 then .ref ad_ACK else if j = 3 then .ref ad_HEARTBEAT else .ref ad_HEARTBEAT_ACK
theorem own_eqR {Z : State} {args : Array Value} {X F : Term} {idx : List Nat} {a : Addr} (hF : F.eval args Z none idx Z = some (.ref a)) (h : (Jvm.Cond.eq X F).value args Z none Z idx = some true) : X.eval args Z none idx Z = some (.ref a) := by
  obtain ⟨x, y, e1, e2, k1, k2⟩ := cmp_v (Or.inl h)
  cases hF.symm.trans e2
  have hx : x.isRef = true := k2.2
  exact e1.trans (congrArg some (gotT (eq_R e1 e2 hx rfl) h))
theorem own_size {Z : State} {args : Array Value} {t : Term} {a : Addr} {c : Cell} {ty : FieldType} {z : Int32} {n : Nat} (es : t.eval args Z none [] Z = some (.ref a)) (A : Arr Z Z.heap a c ty) (h : (Jvm.Cond.eq (.length t) (.int z)).value args Z none Z [] = some true) (hz : z.toInt = (n : Int)) : c.slots.size = n := by
  have q := eqv_i (Term.int_eval z) h
  have hA := A.fin (Vm.Alike.refl _)
  simp only [Term.eval, es, hA, Option.bind_eq_bind, Option.bind_some] at q
  split at q
  · rename_i hl
    have q' : c.slots.size.toInt32 = z := by simpa using q
    have q2 : (c.slots.size.toInt32).toInt = (c.slots.size : Int) := by
      show (Int32.ofNat c.slots.size).toInt = _
      exact Int32.toInt_ofNat_of_lt hl
    rw [q', hz] at q2
    omega
  · cases q
theorem own_elem {Z : State} {args : Array Value} {t : Term} {a : Addr} {c : Cell} {ty : FieldType} {j : Int32} {i : Nat} {x : Value} (es : t.eval args Z none [] Z = some (.ref a)) (A : Arr Z Z.heap a c ty) (hj : j.toInt = (i : Int)) (h : (Term.elem t (.int j)).eval args Z none [] Z = some x) : c.slots[i]? = some x := by
  have h0 : (0 : Int32).toInt = 0 := by decide
  have hn : ¬ j < 0 := fun q => by have := Int32.lt_iff_toInt_lt.mp q; omega
  rw [elem_f es (Term.int_eval j) (A.fin (Vm.Alike.refl _)) hn, own_cl hj] at h
  exact h
theorem pn_0 : plainName "com/example/framer/framer/chunk/ChunkTypeOfPinLaw" = true := by first | (simp [plainName, overriddenIn]; done) | decide +kernel
theorem d1_0 : decode method_2_code 0 = .ok (.iload_n 0, 1) := by decide +kernel
theorem d1_1 : decode method_2_code 1 = .ok (.ifCond .ne 7, 3) := by decide +kernel
theorem d1_4 : decode method_2_code 4 = .ok (.getstatic 7, 3) := by decide +kernel
theorem d1_7 : decode method_2_code 7 = .ok (.areturn, 1) := by decide +kernel
theorem d1_8 : decode method_2_code 8 = .ok (.iload_n 0, 1) := by decide +kernel
theorem d1_9 : decode method_2_code 9 = .ok (.iconst 1, 1) := by decide +kernel
theorem d1_10 : decode method_2_code 10 = .ok (.if_icmp .ne 7, 3) := by decide +kernel
theorem d1_13 : decode method_2_code 13 = .ok (.getstatic 13, 3) := by decide +kernel
theorem d1_16 : decode method_2_code 16 = .ok (.areturn, 1) := by decide +kernel
theorem d1_17 : decode method_2_code 17 = .ok (.iload_n 0, 1) := by decide +kernel
theorem d1_18 : decode method_2_code 18 = .ok (.iconst 3, 1) := by decide +kernel
theorem d1_19 : decode method_2_code 19 = .ok (.if_icmp .ne 7, 3) := by decide +kernel
theorem d1_22 : decode method_2_code 22 = .ok (.getstatic 16, 3) := by decide +kernel
theorem d1_25 : decode method_2_code 25 = .ok (.areturn, 1) := by decide +kernel
theorem d1_26 : decode method_2_code 26 = .ok (.iload_n 0, 1) := by decide +kernel
theorem d1_27 : decode method_2_code 27 = .ok (.iconst 4, 1) := by decide +kernel
theorem d1_28 : decode method_2_code 28 = .ok (.if_icmp .ne 7, 3) := by decide +kernel
theorem d1_31 : decode method_2_code 31 = .ok (.getstatic 19, 3) := by decide +kernel
theorem d1_34 : decode method_2_code 34 = .ok (.areturn, 1) := by decide +kernel
theorem d1_35 : decode method_2_code 35 = .ok (.iload_n 0, 1) := by decide +kernel
theorem d1_36 : decode method_2_code 36 = .ok (.iconst 5, 1) := by decide +kernel
theorem d1_37 : decode method_2_code 37 = .ok (.if_icmp .ne 7, 3) := by decide +kernel
theorem d1_40 : decode method_2_code 40 = .ok (.getstatic 22, 3) := by decide +kernel
theorem d1_43 : decode method_2_code 43 = .ok (.areturn, 1) := by decide +kernel
theorem d1_44 : decode method_2_code 44 = .ok (.aconst_null, 1) := by decide +kernel
theorem d1_45 : decode method_2_code 45 = .ok (.areturn, 1) := by decide +kernel
theorem ef_1 (m : MethodId) (p0 : Int32) : entryFrame m #[(.int p0)] 1 = mkF m 0 #[.val (.int p0)] [] := by first | (simp [entryFrame, mkF, argsToLocals, Value.category]; done) | rfl
def Q1 (Z : State) (p0 : Int32) (ad_DATA : Addr) (ad_INIT : Addr) (ad_ACK : Addr) (ad_HEARTBEAT : Addr) (ad_HEARTBEAT_ACK : Addr) (h0 : Heap) (n0 : Nat) (v : Option Value) (h : Heap) (L : List Loc) : Prop := v = some (own_exp p0.toInt ad_DATA ad_INIT ad_ACK ad_HEARTBEAT ad_HEARTBEAT_ACK) ∧ Fr n0 L ∧ h = h0
set_option maxRecDepth 65536 in
set_option maxHeartbeats 40000000 in
theorem rm1 (l : Launch) (Z : State) (a0 : Array Value) (hw : ∀ d ∈ tables_1, d.before a0 Z = true) (ws : List Jvm.Cond) (p0 : Int32) (ad_DATA : Addr) (ad_INIT : Addr) (ad_ACK : Addr) (ad_HEARTBEAT : Addr) (ad_HEARTBEAT_ACK : Addr) (h0 : Heap) (n0 : Nat) (Z0 : n0 ≤ h0.size) (S_DATA : Sta Z h0 "com/example/framer/framer/chunk/ChunkType" "DATA" "Lcom/example/framer/framer/chunk/ChunkType;" (.ref ad_DATA)) (S_INIT : Sta Z h0 "com/example/framer/framer/chunk/ChunkType" "INIT" "Lcom/example/framer/framer/chunk/ChunkType;" (.ref ad_INIT)) (S_ACK : Sta Z h0 "com/example/framer/framer/chunk/ChunkType" "ACK" "Lcom/example/framer/framer/chunk/ChunkType;" (.ref ad_ACK)) (S_HEARTBEAT : Sta Z h0 "com/example/framer/framer/chunk/ChunkType" "HEARTBEAT" "Lcom/example/framer/framer/chunk/ChunkType;" (.ref ad_HEARTBEAT)) (S_HEARTBEAT_ACK : Sta Z h0 "com/example/framer/framer/chunk/ChunkType" "HEARTBEAT_ACK" "Lcom/example/framer/framer/chunk/ChunkType;" (.ref ad_HEARTBEAT_ACK)) :
    MetFree l (⟨"com/example/framer/framer/chunk/ChunkTypeOfPinLaw", "expected", "(I)Lcom/example/framer/framer/chunk/ChunkType;"⟩ : MethodName) (head1 (Jvm.Cond.code (⟨"com/example/framer/framer/chunk/ChunkTypeOfPinLaw", "expected", "(I)Lcom/example/framer/framer/chunk/ChunkType;"⟩ : MethodName) method_2_code 1 (some (.object "com/example/framer/framer/chunk/ChunkType")) :: ws) ({ frames := 0, cells := 0, slots := 0, locals := 0 } : Room)) (fun a U => a = #[(.int p0)] ∧ Z.Warmed39 U.vm ∧ U.heap = h0) (fun _ _ _ _ _ => True) (fun _ U o U' => ∃ v L, o = .returned v ∧ Q1 Z p0 ad_DATA ad_INIT ad_ACK ad_HEARTBEAT ad_HEARTBEAT_ACK h0 n0 v U'.heap L ∧ FrameEnd U o U' L (({ frames := 0, cells := 0, slots := 0, locals := 0 } : Room)).cells (({ frames := 0, cells := 0, slots := 0, locals := 0 } : Room)).slots) := by
  refine MetFree.of_bodySF (plainFor_of_name pn_0) hisR ?_
  intro p e s m args below meth c s₁ Bd hml0 hP hK
  obtain ⟨rfl, hZ, hh⟩ := hP
  have hx := Bd.exec
  have hby := Bd.bytes
  have hml : c.maxLocals = 1 := hml0
  have hown : s.vm.findClass "com/example/framer/framer/chunk/ChunkTypeOfPinLaw" = some m.cls := findClass_of_methodNamed Bd.named
  have hnm := (name_of_methodNamed Bd.named Bd.method).1
  have hlk : meth.locks = false := Bd.notSynchronized
  have X0 : Stand p l e ({ frames := 0, cells := 0, slots := 0, locals := 0 } : Room) s m #[(.int p0)] below meth c s₁ [] 0 0 := Stand.of_body Bd
  have e0 : s₁.heap = h0 := by rw [← hh, Bd.state]; rfl
  have N0 := Fr.nil n0
  have hret := Bd.returns
  show own_Go p e below s (Q1 Z p0 ad_DATA ad_INIT ad_ACK ad_HEARTBEAT ad_HEARTBEAT_ACK h0 n0) _ _ (s₁.setTop (entryFrame m #[(.int p0)] 1))
  refine own_go (fun t k => castTop (ef_1 m p0) k) ?_
  show own_Go p e below s _ _ _ (s₁.setTop (mkF m 0 #[.val (.int p0)] []))
  refine own_go (fun t_ kt_ => XS.iloadN X0.here hx rfl (hb hby d1_0) rfl kt_) ?_
  show own_Go p e below s _ _ _ (s₁.setTop (mkF m 1 #[.val (.int p0)] [(.int p0)]))
  by_cases hc1 : p0 = (0 : Int32)
  · skip
    have hi1 : p0.toInt = 0 := congrArg Int32.toInt hc1
    refine own_go (fun t_ kt_ => XS.ifNo X0.here hx rfl (hb hby d1_1) rfl ((if0 _ _).trans (teq hc1).2) kt_) ?_
    show own_Go p e below s _ _ _ (s₁.setTop (mkF m 4 #[.val (.int p0)] []))
    obtain ⟨T1, X1, e1, st1⟩ := getS2 X0 hx hZ hown (host := "") (Or.inl (hw _ (List.mem_of_getElem? (i := 4) rfl))) Via.refl e0 S_DATA (g := (mkF m 4 #[.val (.int p0)] [])) rfl (hb hby d1_4)
    refine own_go (fun t_ kt_ => st1 _ kt_) ?_
    show own_Go p e below s _ _ _ (T1.setTop (mkF m 7 #[.val (.int p0)] [(.ref ad_DATA)]))
    refine own_ret X1 (v := some (.ref ad_DATA)) (fun h => by rw [hret] at h; cases h) hlk ?_ (by decide) (by decide) (fun fs hr => X1.areturnOut hx rfl hret rfl (hb hby d1_7) hr)
    show Q1 Z p0 ad_DATA ad_INIT ad_ACK ad_HEARTBEAT ad_HEARTBEAT_ACK h0 n0 (some (.ref ad_DATA)) T1.heap _
    rw [e1]
    exact ⟨congrArg some (by unfold own_exp; repeat (first | rw [if_pos (by omega)] | rw [if_neg (by omega)])), N0, rfl⟩
  · skip
    have hi1 : ¬ p0.toInt = 0 := fun q => hc1 (Int32.toInt_inj.mp q)
    refine own_go (fun t_ kt_ => XS.ifYes X0.here hx rfl (pc0 := 1) (pc' := 8) rfl (hb hby d1_1) rfl ((if0 _ _).trans (feq hc1).2) (by decide) (by decide) kt_) ?_
    show own_Go p e below s _ _ _ (s₁.setTop (mkF m 8 #[.val (.int p0)] []))
    refine own_go (fun t_ kt_ => XS.iloadN X0.here hx rfl (hb hby d1_8) rfl kt_) ?_
    show own_Go p e below s _ _ _ (s₁.setTop (mkF m 9 #[.val (.int p0)] [(.int p0)]))
    refine own_go (fun t_ kt_ => XS.iconst X0.here hx rfl (hb hby d1_9) kt_) ?_
    show own_Go p e below s _ _ _ (s₁.setTop (mkF m 10 #[.val (.int p0)] [(.int (1 : Int32)), (.int p0)]))
    by_cases hc10 : p0 = (1 : Int32)
    · skip
      have hi10 : p0.toInt = 1 := congrArg Int32.toInt hc10
      refine own_go (fun t_ kt_ => XS.icmpNo X0.here hx rfl (hb hby d1_10) rfl (teq hc10).2 kt_) ?_
      show own_Go p e below s _ _ _ (s₁.setTop (mkF m 13 #[.val (.int p0)] []))
      obtain ⟨T2, X2, e2, st2⟩ := getS2 X0 hx hZ hown (host := "") (Or.inl (hw _ (List.mem_of_getElem? (i := 26) rfl))) Via.refl e0 S_INIT (g := (mkF m 13 #[.val (.int p0)] [])) rfl (hb hby d1_13)
      refine own_go (fun t_ kt_ => st2 _ kt_) ?_
      show own_Go p e below s _ _ _ (T2.setTop (mkF m 16 #[.val (.int p0)] [(.ref ad_INIT)]))
      refine own_ret X2 (v := some (.ref ad_INIT)) (fun h => by rw [hret] at h; cases h) hlk ?_ (by decide) (by decide) (fun fs hr => X2.areturnOut hx rfl hret rfl (hb hby d1_16) hr)
      show Q1 Z p0 ad_DATA ad_INIT ad_ACK ad_HEARTBEAT ad_HEARTBEAT_ACK h0 n0 (some (.ref ad_INIT)) T2.heap _
      rw [e2]
      exact ⟨congrArg some (by unfold own_exp; repeat (first | rw [if_pos (by omega)] | rw [if_neg (by omega)])), N0, rfl⟩
    · skip
      have hi10 : ¬ p0.toInt = 1 := fun q => hc10 (Int32.toInt_inj.mp q)
      refine own_go (fun t_ kt_ => XS.icmpYes X0.here hx rfl (pc0 := 10) (pc' := 17) rfl (hb hby d1_10) rfl (feq hc10).2 (by decide) (by decide) kt_) ?_
      show own_Go p e below s _ _ _ (s₁.setTop (mkF m 17 #[.val (.int p0)] []))
      refine own_go (fun t_ kt_ => XS.iloadN X0.here hx rfl (hb hby d1_17) rfl kt_) ?_
      show own_Go p e below s _ _ _ (s₁.setTop (mkF m 18 #[.val (.int p0)] [(.int p0)]))
      refine own_go (fun t_ kt_ => XS.iconst X0.here hx rfl (hb hby d1_18) kt_) ?_
      show own_Go p e below s _ _ _ (s₁.setTop (mkF m 19 #[.val (.int p0)] [(.int (3 : Int32)), (.int p0)]))
      by_cases hc19 : p0 = (3 : Int32)
      · skip
        have hi19 : p0.toInt = 3 := congrArg Int32.toInt hc19
        refine own_go (fun t_ kt_ => XS.icmpNo X0.here hx rfl (hb hby d1_19) rfl (teq hc19).2 kt_) ?_
        show own_Go p e below s _ _ _ (s₁.setTop (mkF m 22 #[.val (.int p0)] []))
        obtain ⟨T3, X3, e3, st3⟩ := getS2 X0 hx hZ hown (host := "") (Or.inl (hw _ (List.mem_of_getElem? (i := 23) rfl))) Via.refl e0 S_ACK (g := (mkF m 22 #[.val (.int p0)] [])) rfl (hb hby d1_22)
        refine own_go (fun t_ kt_ => st3 _ kt_) ?_
        show own_Go p e below s _ _ _ (T3.setTop (mkF m 25 #[.val (.int p0)] [(.ref ad_ACK)]))
        refine own_ret X3 (v := some (.ref ad_ACK)) (fun h => by rw [hret] at h; cases h) hlk ?_ (by decide) (by decide) (fun fs hr => X3.areturnOut hx rfl hret rfl (hb hby d1_25) hr)
        show Q1 Z p0 ad_DATA ad_INIT ad_ACK ad_HEARTBEAT ad_HEARTBEAT_ACK h0 n0 (some (.ref ad_ACK)) T3.heap _
        rw [e3]
        exact ⟨congrArg some (by unfold own_exp; repeat (first | rw [if_pos (by omega)] | rw [if_neg (by omega)])), N0, rfl⟩
      · skip
        have hi19 : ¬ p0.toInt = 3 := fun q => hc19 (Int32.toInt_inj.mp q)
        refine own_go (fun t_ kt_ => XS.icmpYes X0.here hx rfl (pc0 := 19) (pc' := 26) rfl (hb hby d1_19) rfl (feq hc19).2 (by decide) (by decide) kt_) ?_
        show own_Go p e below s _ _ _ (s₁.setTop (mkF m 26 #[.val (.int p0)] []))
        refine own_go (fun t_ kt_ => XS.iloadN X0.here hx rfl (hb hby d1_26) rfl kt_) ?_
        show own_Go p e below s _ _ _ (s₁.setTop (mkF m 27 #[.val (.int p0)] [(.int p0)]))
        refine own_go (fun t_ kt_ => XS.iconst X0.here hx rfl (hb hby d1_27) kt_) ?_
        show own_Go p e below s _ _ _ (s₁.setTop (mkF m 28 #[.val (.int p0)] [(.int (4 : Int32)), (.int p0)]))
        by_cases hc28 : p0 = (4 : Int32)
        · skip
          have hi28 : p0.toInt = 4 := congrArg Int32.toInt hc28
          refine own_go (fun t_ kt_ => XS.icmpNo X0.here hx rfl (hb hby d1_28) rfl (teq hc28).2 kt_) ?_
          show own_Go p e below s _ _ _ (s₁.setTop (mkF m 31 #[.val (.int p0)] []))
          obtain ⟨T4, X4, e4, st4⟩ := getS2 X0 hx hZ hown (host := "") (Or.inl (hw _ (List.mem_of_getElem? (i := 24) rfl))) Via.refl e0 S_HEARTBEAT (g := (mkF m 31 #[.val (.int p0)] [])) rfl (hb hby d1_31)
          refine own_go (fun t_ kt_ => st4 _ kt_) ?_
          show own_Go p e below s _ _ _ (T4.setTop (mkF m 34 #[.val (.int p0)] [(.ref ad_HEARTBEAT)]))
          refine own_ret X4 (v := some (.ref ad_HEARTBEAT)) (fun h => by rw [hret] at h; cases h) hlk ?_ (by decide) (by decide) (fun fs hr => X4.areturnOut hx rfl hret rfl (hb hby d1_34) hr)
          show Q1 Z p0 ad_DATA ad_INIT ad_ACK ad_HEARTBEAT ad_HEARTBEAT_ACK h0 n0 (some (.ref ad_HEARTBEAT)) T4.heap _
          rw [e4]
          exact ⟨congrArg some (by unfold own_exp; repeat (first | rw [if_pos (by omega)] | rw [if_neg (by omega)])), N0, rfl⟩
        · skip
          have hi28 : ¬ p0.toInt = 4 := fun q => hc28 (Int32.toInt_inj.mp q)
          refine own_go (fun t_ kt_ => XS.icmpYes X0.here hx rfl (pc0 := 28) (pc' := 35) rfl (hb hby d1_28) rfl (feq hc28).2 (by decide) (by decide) kt_) ?_
          show own_Go p e below s _ _ _ (s₁.setTop (mkF m 35 #[.val (.int p0)] []))
          refine own_go (fun t_ kt_ => XS.iloadN X0.here hx rfl (hb hby d1_35) rfl kt_) ?_
          show own_Go p e below s _ _ _ (s₁.setTop (mkF m 36 #[.val (.int p0)] [(.int p0)]))
          refine own_go (fun t_ kt_ => XS.iconst X0.here hx rfl (hb hby d1_36) kt_) ?_
          show own_Go p e below s _ _ _ (s₁.setTop (mkF m 37 #[.val (.int p0)] [(.int (5 : Int32)), (.int p0)]))
          by_cases hc37 : p0 = (5 : Int32)
          · skip
            have hi37 : p0.toInt = 5 := congrArg Int32.toInt hc37
            refine own_go (fun t_ kt_ => XS.icmpNo X0.here hx rfl (hb hby d1_37) rfl (teq hc37).2 kt_) ?_
            show own_Go p e below s _ _ _ (s₁.setTop (mkF m 40 #[.val (.int p0)] []))
            obtain ⟨T5, X5, e5, st5⟩ := getS2 X0 hx hZ hown (host := "") (Or.inl (hw _ (List.mem_of_getElem? (i := 25) rfl))) Via.refl e0 S_HEARTBEAT_ACK (g := (mkF m 40 #[.val (.int p0)] [])) rfl (hb hby d1_40)
            refine own_go (fun t_ kt_ => st5 _ kt_) ?_
            show own_Go p e below s _ _ _ (T5.setTop (mkF m 43 #[.val (.int p0)] [(.ref ad_HEARTBEAT_ACK)]))
            refine own_ret X5 (v := some (.ref ad_HEARTBEAT_ACK)) (fun h => by rw [hret] at h; cases h) hlk ?_ (by decide) (by decide) (fun fs hr => X5.areturnOut hx rfl hret rfl (hb hby d1_43) hr)
            show Q1 Z p0 ad_DATA ad_INIT ad_ACK ad_HEARTBEAT ad_HEARTBEAT_ACK h0 n0 (some (.ref ad_HEARTBEAT_ACK)) T5.heap _
            rw [e5]
            exact ⟨congrArg some (by unfold own_exp; repeat (first | rw [if_pos (by omega)] | rw [if_neg (by omega)])), N0, rfl⟩
          · skip
            have hi37 : ¬ p0.toInt = 5 := fun q => hc37 (Int32.toInt_inj.mp q)
            refine own_go (fun t_ kt_ => XS.icmpYes X0.here hx rfl (pc0 := 37) (pc' := 44) rfl (hb hby d1_37) rfl (feq hc37).2 (by decide) (by decide) kt_) ?_
            show own_Go p e below s _ _ _ (s₁.setTop (mkF m 44 #[.val (.int p0)] []))
            refine own_go (fun t_ kt_ => XS.aconstNull X0.here hx rfl (hb hby d1_44) kt_) ?_
            show own_Go p e below s _ _ _ (s₁.setTop (mkF m 45 #[.val (.int p0)] [.null]))
            refine own_ret X0 (v := some .null) (fun h => by rw [hret] at h; cases h) hlk ?_ (by decide) (by decide) (fun fs hr => X0.areturnOut hx rfl hret rfl (hb hby d1_45) hr)
            show Q1 Z p0 ad_DATA ad_INIT ad_ACK ad_HEARTBEAT ad_HEARTBEAT_ACK h0 n0 (some .null) s₁.heap _
            rw [e0]
            exact ⟨congrArg some (by unfold own_exp; repeat (first | rw [if_pos (by omega)] | rw [if_neg (by omega)])), N0, rfl⟩
theorem pn_1 : plainName "com/example/framer/framer/chunk/ChunkType" = true := by first | (simp [plainName, overriddenIn]; done) | decide +kernel
theorem d2_0 : decode prog_10_method_5_code 0 = .ok (.getstatic 42, 3) := by decide +kernel
theorem d2_3 : decode prog_10_method_5_code 3 = .ok (.astore_n 1, 1) := by decide +kernel
theorem d2_4 : decode prog_10_method_5_code 4 = .ok (.aload_n 1, 1) := by decide +kernel
theorem d2_5 : decode prog_10_method_5_code 5 = .ok (.arraylength, 1) := by decide +kernel
theorem d2_6 : decode prog_10_method_5_code 6 = .ok (.istore_n 2, 1) := by decide +kernel
theorem d2_7 : decode prog_10_method_5_code 7 = .ok (.iconst 0, 1) := by decide +kernel
theorem d2_8 : decode prog_10_method_5_code 8 = .ok (.istore_n 3, 1) := by decide +kernel
theorem d2_9 : decode prog_10_method_5_code 9 = .ok (.iload_n 3, 1) := by decide +kernel
theorem d2_10 : decode prog_10_method_5_code 10 = .ok (.iload_n 2, 1) := by decide +kernel
theorem d2_11 : decode prog_10_method_5_code 11 = .ok (.if_icmp .ge 26, 3) := by decide +kernel
theorem d2_14 : decode prog_10_method_5_code 14 = .ok (.aload_n 1, 1) := by decide +kernel
theorem d2_15 : decode prog_10_method_5_code 15 = .ok (.iload_n 3, 1) := by decide +kernel
theorem d2_16 : decode prog_10_method_5_code 16 = .ok (.aaload, 1) := by decide +kernel
theorem d2_17 : decode prog_10_method_5_code 17 = .ok (.astore 4, 2) := by decide +kernel
theorem d2_19 : decode prog_10_method_5_code 19 = .ok (.aload 4, 2) := by decide +kernel
theorem d2_21 : decode prog_10_method_5_code 21 = .ok (.getfield 38, 3) := by decide +kernel
theorem d2_24 : decode prog_10_method_5_code 24 = .ok (.iload_n 0, 1) := by decide +kernel
theorem d2_25 : decode prog_10_method_5_code 25 = .ok (.if_icmp .ne 6, 3) := by decide +kernel
theorem d2_28 : decode prog_10_method_5_code 28 = .ok (.aload 4, 2) := by decide +kernel
theorem d2_30 : decode prog_10_method_5_code 30 = .ok (.areturn, 1) := by decide +kernel
theorem d2_31 : decode prog_10_method_5_code 31 = .ok (.iinc 3 1, 3) := by decide +kernel
theorem d2_34 : decode prog_10_method_5_code 34 = .ok (.goto (-25), 3) := by decide +kernel
theorem d2_37 : decode prog_10_method_5_code 37 = .ok (.aconst_null, 1) := by decide +kernel
theorem d2_38 : decode prog_10_method_5_code 38 = .ok (.areturn, 1) := by decide +kernel
theorem ef_2 (m : MethodId) (p0 : Int32) : entryFrame m #[(.int p0)] 5 = mkF m 0 #[.val (.int p0), .unset, .unset, .unset, .unset] [] := by first | (simp [entryFrame, mkF, argsToLocals, Value.category]; done) | rfl
def Q2 (Z : State) (p0 : Int32) (ad_DATA : Addr) (ad_INIT : Addr) (ad_ACK : Addr) (ad_HEARTBEAT : Addr) (ad_HEARTBEAT_ACK : Addr) (ta : Addr) (h0 : Heap) (n0 : Nat) (v : Option Value) (h : Heap) (L : List Loc) : Prop := v = some (own_exp p0.toInt ad_DATA ad_INIT ad_ACK ad_HEARTBEAT ad_HEARTBEAT_ACK) ∧ Fr n0 L ∧ h = h0
set_option maxRecDepth 65536 in
set_option maxHeartbeats 40000000 in
theorem rm2 (l : Launch) (Z : State) (a0 : Array Value) (hw : ∀ d ∈ tables_1, d.before a0 Z = true) (ws : List Jvm.Cond) (p0 : Int32) (ad_DATA : Addr) (ad_INIT : Addr) (ad_ACK : Addr) (ad_HEARTBEAT : Addr) (ad_HEARTBEAT_ACK : Addr) (ta : Addr) (h0 : Heap) (n0 : Nat) (Z0 : n0 ≤ h0.size) (F_DATA : Fld Z h0 ad_DATA "com/example/framer/framer/chunk/ChunkType" "code" "I" (.int (0 : Int32))) (F_INIT : Fld Z h0 ad_INIT "com/example/framer/framer/chunk/ChunkType" "code" "I" (.int (1 : Int32))) (F_ACK : Fld Z h0 ad_ACK "com/example/framer/framer/chunk/ChunkType" "code" "I" (.int (3 : Int32))) (F_HEARTBEAT : Fld Z h0 ad_HEARTBEAT "com/example/framer/framer/chunk/ChunkType" "code" "I" (.int (4 : Int32))) (F_HEARTBEAT_ACK : Fld Z h0 ad_HEARTBEAT_ACK "com/example/framer/framer/chunk/ChunkType" "code" "I" (.int (5 : Int32))) (AT : own_Ary Z h0 ta (.object "com/example/framer/framer/chunk/ChunkType") 5 (own_f5 ad_DATA ad_INIT ad_ACK ad_HEARTBEAT ad_HEARTBEAT_ACK)) (ST : Sta Z h0 "com/example/framer/framer/chunk/ChunkType" "TYPES" "[Lcom/example/framer/framer/chunk/ChunkType;" (.ref ta)) :
    MetFree l (⟨"com/example/framer/framer/chunk/ChunkType", "of", "(I)Lcom/example/framer/framer/chunk/ChunkType;"⟩ : MethodName) (head1 (Jvm.Cond.code (⟨"com/example/framer/framer/chunk/ChunkType", "of", "(I)Lcom/example/framer/framer/chunk/ChunkType;"⟩ : MethodName) prog_10_method_5_code 5 (some (.object "com/example/framer/framer/chunk/ChunkType")) :: ws) ({ frames := 0, cells := 0, slots := 0, locals := 0 } : Room)) (fun a U => a = #[(.int p0)] ∧ Z.Warmed39 U.vm ∧ U.heap = h0) (fun _ _ _ _ _ => True) (fun _ U o U' => ∃ v L, o = .returned v ∧ Q2 Z p0 ad_DATA ad_INIT ad_ACK ad_HEARTBEAT ad_HEARTBEAT_ACK ta h0 n0 v U'.heap L ∧ FrameEnd U o U' L (({ frames := 0, cells := 0, slots := 0, locals := 0 } : Room)).cells (({ frames := 0, cells := 0, slots := 0, locals := 0 } : Room)).slots) := by
  refine MetFree.of_bodySF (plainFor_of_name pn_1) hisR ?_
  intro p e s m args below meth c s₁ Bd hml0 hP hK
  obtain ⟨rfl, hZ, hh⟩ := hP
  have hx := Bd.exec
  have hby := Bd.bytes
  have hml : c.maxLocals = 5 := hml0
  have hown : s.vm.findClass "com/example/framer/framer/chunk/ChunkType" = some m.cls := findClass_of_methodNamed Bd.named
  have hnm := (name_of_methodNamed Bd.named Bd.method).1
  have hlk : meth.locks = false := Bd.notSynchronized
  have X0 : Stand p l e ({ frames := 0, cells := 0, slots := 0, locals := 0 } : Room) s m #[(.int p0)] below meth c s₁ [] 0 0 := Stand.of_body Bd
  have e0 : s₁.heap = h0 := by rw [← hh, Bd.state]; rfl
  have N0 := Fr.nil n0
  have hret := Bd.returns
  show own_Go p e below s (Q2 Z p0 ad_DATA ad_INIT ad_ACK ad_HEARTBEAT ad_HEARTBEAT_ACK ta h0 n0) _ _ (s₁.setTop (entryFrame m #[(.int p0)] 5))
  refine own_go (fun t k => castTop (ef_2 m p0) k) ?_
  show own_Go p e below s _ _ _ (s₁.setTop (mkF m 0 #[.val (.int p0), .unset, .unset, .unset, .unset] []))
  obtain ⟨T1, X1, e1, st1⟩ := getS2 X0 hx hZ hown (host := "") (Or.inl (hw _ (List.mem_of_getElem? (i := 10) rfl))) Via.refl e0 ST (g := (mkF m 0 #[.val (.int p0), .unset, .unset, .unset, .unset] [])) rfl (hb hby d2_0)
  refine own_go (fun t_ kt_ => st1 _ kt_) ?_
  show own_Go p e below s _ _ _ (T1.setTop (mkF m 3 #[.val (.int p0), .unset, .unset, .unset, .unset] [(.ref ta)]))
  refine own_go (fun t_ kt_ => XS.astoreN X1.here hx rfl (hb hby d2_3) rfl rfl (l' := #[.val (.int p0), .val (.ref ta), .unset, .unset, .unset]) rfl kt_) ?_
  show own_Go p e below s _ _ _ (T1.setTop (mkF m 4 #[.val (.int p0), .val (.ref ta), .unset, .unset, .unset] []))
  refine own_go (fun t_ kt_ => XS.aloadN X1.here hx rfl (hb hby d2_4) rfl rfl kt_) ?_
  show own_Go p e below s _ _ _ (T1.setTop (mkF m 5 #[.val (.int p0), .val (.ref ta), .unset, .unset, .unset] [(.ref ta)]))
  obtain ⟨c2, Ar2, S2, G2⟩ := id AT
  have q2 : c2.slots.size.toInt32 = (5 : Int32) := (congrArg Nat.toInt32 S2).trans (by decide)
  refine own_go (fun t_ kt_ => X1.arraylength hx (by rw [e1]; exact Ar2.1) (State.isArrayOf_alike hZ.alike Ar2.2.1) (g := (mkF m 5 #[.val (.int p0), .val (.ref ta), .unset, .unset, .unset] [(.ref ta)])) rfl rfl (hb hby d2_5) _ (by rw [q2]; exact kt_)) ?_
  show own_Go p e below s _ _ _ (T1.setTop (mkF m 6 #[.val (.int p0), .val (.ref ta), .unset, .unset, .unset] [(.int (5 : Int32))]))
  refine own_go (fun t_ kt_ => XS.istoreN X1.here hx rfl (hb hby d2_6) rfl (l' := #[.val (.int p0), .val (.ref ta), .val (.int (5 : Int32)), .unset, .unset]) rfl kt_) ?_
  show own_Go p e below s _ _ _ (T1.setTop (mkF m 7 #[.val (.int p0), .val (.ref ta), .val (.int (5 : Int32)), .unset, .unset] []))
  refine own_go (fun t_ kt_ => XS.iconst X1.here hx rfl (hb hby d2_7) kt_) ?_
  show own_Go p e below s _ _ _ (T1.setTop (mkF m 8 #[.val (.int p0), .val (.ref ta), .val (.int (5 : Int32)), .unset, .unset] [(.int (0 : Int32))]))
  refine own_go (fun t_ kt_ => XS.istoreN X1.here hx rfl (hb hby d2_8) rfl (l' := #[.val (.int p0), .val (.ref ta), .val (.int (5 : Int32)), .val (.int (0 : Int32)), .unset]) rfl kt_) ?_
  show own_Go p e below s _ _ _ (T1.setTop (mkF m 9 #[.val (.int p0), .val (.ref ta), .val (.int (5 : Int32)), .val (.int (0 : Int32)), .unset] []))
  refine own_go (fun t_ kt_ => XS.iloadN X1.here hx rfl (hb hby d2_9) rfl kt_) ?_
  show own_Go p e below s _ _ _ (T1.setTop (mkF m 10 #[.val (.int p0), .val (.ref ta), .val (.int (5 : Int32)), .val (.int (0 : Int32)), .unset] [(.int (0 : Int32))]))
  refine own_go (fun t_ kt_ => XS.iloadN X1.here hx rfl (hb hby d2_10) rfl kt_) ?_
  show own_Go p e below s _ _ _ (T1.setTop (mkF m 11 #[.val (.int p0), .val (.ref ta), .val (.int (5 : Int32)), .val (.int (0 : Int32)), .unset] [(.int (5 : Int32)), (.int (0 : Int32))]))
  refine own_go (fun t_ kt_ => XS.icmpNo X1.here hx rfl (hb hby d2_11) rfl (tlt (by decide)).2.1 kt_) ?_
  show own_Go p e below s _ _ _ (T1.setTop (mkF m 14 #[.val (.int p0), .val (.ref ta), .val (.int (5 : Int32)), .val (.int (0 : Int32)), .unset] []))
  refine own_go (fun t_ kt_ => XS.aloadN X1.here hx rfl (hb hby d2_14) rfl rfl kt_) ?_
  show own_Go p e below s _ _ _ (T1.setTop (mkF m 15 #[.val (.int p0), .val (.ref ta), .val (.int (5 : Int32)), .val (.int (0 : Int32)), .unset] [(.ref ta)]))
  refine own_go (fun t_ kt_ => XS.iloadN X1.here hx rfl (hb hby d2_15) rfl kt_) ?_
  show own_Go p e below s _ _ _ (T1.setTop (mkF m 16 #[.val (.int p0), .val (.ref ta), .val (.int (5 : Int32)), .val (.int (0 : Int32)), .unset] [(.int (0 : Int32)), (.ref ta)]))
  obtain ⟨c3, Ar3, S3, G3⟩ := id AT
  have q3 : c3.slots[((0 : Int32)).toNatClampNeg]? = some (.ref ad_DATA) := by rw [own_cl (j := (0 : Int32)) (i := 0) (by decide)]; exact (G3 _ (by decide)).trans (congrArg some (rfl))
  refine own_go (fun t_ kt_ => X1.aaload hx (j := (0 : Int32)) (v := (.ref ad_DATA)) (by rw [e1]; exact Ar3.1) (State.isArrayOf_alike hZ.alike Ar3.2.1) rfl Ar3.2.2 (own_in (i := 0) S3 (by decide) (by decide)) q3 (g := (mkF m 16 #[.val (.int p0), .val (.ref ta), .val (.int (5 : Int32)), .val (.int (0 : Int32)), .unset] [(.int (0 : Int32)), (.ref ta)])) rfl rfl (hb hby d2_16) _ kt_) ?_
  show own_Go p e below s _ _ _ (T1.setTop (mkF m 17 #[.val (.int p0), .val (.ref ta), .val (.int (5 : Int32)), .val (.int (0 : Int32)), .unset] [(.ref ad_DATA)]))
  refine own_go (fun t_ kt_ => XS.astore X1.here hx rfl (hb hby d2_17) rfl rfl (l' := #[.val (.int p0), .val (.ref ta), .val (.int (5 : Int32)), .val (.int (0 : Int32)), .val (.ref ad_DATA)]) rfl kt_) ?_
  show own_Go p e below s _ _ _ (T1.setTop (mkF m 19 #[.val (.int p0), .val (.ref ta), .val (.int (5 : Int32)), .val (.int (0 : Int32)), .val (.ref ad_DATA)] []))
  refine own_go (fun t_ kt_ => XS.aload X1.here hx rfl (hb hby d2_19) rfl rfl kt_) ?_
  show own_Go p e below s _ _ _ (T1.setTop (mkF m 21 #[.val (.int p0), .val (.ref ta), .val (.int (5 : Int32)), .val (.int (0 : Int32)), .val (.ref ad_DATA)] [(.ref ad_DATA)]))
  obtain ⟨T4, X4, e4, st4⟩ := getF X1 hx hZ hown (host := "") (Or.inl (hw _ (List.mem_of_getElem? (i := 12) rfl))) Via.refl e1 F_DATA (g := (mkF m 21 #[.val (.int p0), .val (.ref ta), .val (.int (5 : Int32)), .val (.int (0 : Int32)), .val (.ref ad_DATA)] [(.ref ad_DATA)])) rfl rfl (hb hby d2_21)
  refine own_go (fun t_ kt_ => st4 _ kt_) ?_
  show own_Go p e below s _ _ _ (T4.setTop (mkF m 24 #[.val (.int p0), .val (.ref ta), .val (.int (5 : Int32)), .val (.int (0 : Int32)), .val (.ref ad_DATA)] [(.int (0 : Int32))]))
  refine own_go (fun t_ kt_ => XS.iloadN X4.here hx rfl (hb hby d2_24) rfl kt_) ?_
  show own_Go p e below s _ _ _ (T4.setTop (mkF m 25 #[.val (.int p0), .val (.ref ta), .val (.int (5 : Int32)), .val (.int (0 : Int32)), .val (.ref ad_DATA)] [(.int p0), (.int (0 : Int32))]))
  by_cases hc25 : (0 : Int32) = p0
  · skip
    have hi25 : 0 = p0.toInt := congrArg Int32.toInt hc25
    refine own_go (fun t_ kt_ => XS.icmpNo X4.here hx rfl (hb hby d2_25) rfl (teq hc25).2 kt_) ?_
    show own_Go p e below s _ _ _ (T4.setTop (mkF m 28 #[.val (.int p0), .val (.ref ta), .val (.int (5 : Int32)), .val (.int (0 : Int32)), .val (.ref ad_DATA)] []))
    refine own_go (fun t_ kt_ => XS.aload X4.here hx rfl (hb hby d2_28) rfl rfl kt_) ?_
    show own_Go p e below s _ _ _ (T4.setTop (mkF m 30 #[.val (.int p0), .val (.ref ta), .val (.int (5 : Int32)), .val (.int (0 : Int32)), .val (.ref ad_DATA)] [(.ref ad_DATA)]))
    refine own_ret X4 (v := some (.ref ad_DATA)) (fun h => by rw [hret] at h; cases h) hlk ?_ (by decide) (by decide) (fun fs hr => X4.areturnOut hx rfl hret rfl (hb hby d2_30) hr)
    show Q2 Z p0 ad_DATA ad_INIT ad_ACK ad_HEARTBEAT ad_HEARTBEAT_ACK ta h0 n0 (some (.ref ad_DATA)) T4.heap _
    rw [e4]
    exact ⟨congrArg some (by unfold own_exp; repeat (first | rw [if_pos (by omega)] | rw [if_neg (by omega)])), N0, rfl⟩
  · skip
    have hi25 : ¬ 0 = p0.toInt := fun q => hc25 (Int32.toInt_inj.mp q)
    refine own_go (fun t_ kt_ => XS.icmpYes X4.here hx rfl (pc0 := 25) (pc' := 31) rfl (hb hby d2_25) rfl (feq hc25).2 (by decide) (by decide) kt_) ?_
    show own_Go p e below s _ _ _ (T4.setTop (mkF m 31 #[.val (.int p0), .val (.ref ta), .val (.int (5 : Int32)), .val (.int (0 : Int32)), .val (.ref ad_DATA)] []))
    refine own_go (fun t_ kt_ => XS.iinc X4.here hx rfl (hb hby d2_31) rfl (l' := #[.val (.int p0), .val (.ref ta), .val (.int (5 : Int32)), .val (.int (1 : Int32)), .val (.ref ad_DATA)]) rfl kt_) ?_
    show own_Go p e below s _ _ _ (T4.setTop (mkF m 34 #[.val (.int p0), .val (.ref ta), .val (.int (5 : Int32)), .val (.int (1 : Int32)), .val (.ref ad_DATA)] []))
    refine own_go (fun t_ kt_ => XS.goto X4.here hx rfl (pc0 := 34) (pc' := 9) rfl (hb hby d2_34) (by decide) (by decide) kt_) ?_
    show own_Go p e below s _ _ _ (T4.setTop (mkF m 9 #[.val (.int p0), .val (.ref ta), .val (.int (5 : Int32)), .val (.int (1 : Int32)), .val (.ref ad_DATA)] []))
    refine own_go (fun t_ kt_ => XS.iloadN X4.here hx rfl (hb hby d2_9) rfl kt_) ?_
    show own_Go p e below s _ _ _ (T4.setTop (mkF m 10 #[.val (.int p0), .val (.ref ta), .val (.int (5 : Int32)), .val (.int (1 : Int32)), .val (.ref ad_DATA)] [(.int (1 : Int32))]))
    refine own_go (fun t_ kt_ => XS.iloadN X4.here hx rfl (hb hby d2_10) rfl kt_) ?_
    show own_Go p e below s _ _ _ (T4.setTop (mkF m 11 #[.val (.int p0), .val (.ref ta), .val (.int (5 : Int32)), .val (.int (1 : Int32)), .val (.ref ad_DATA)] [(.int (5 : Int32)), (.int (1 : Int32))]))
    refine own_go (fun t_ kt_ => XS.icmpNo X4.here hx rfl (hb hby d2_11) rfl (tlt (by decide)).2.1 kt_) ?_
    show own_Go p e below s _ _ _ (T4.setTop (mkF m 14 #[.val (.int p0), .val (.ref ta), .val (.int (5 : Int32)), .val (.int (1 : Int32)), .val (.ref ad_DATA)] []))
    refine own_go (fun t_ kt_ => XS.aloadN X4.here hx rfl (hb hby d2_14) rfl rfl kt_) ?_
    show own_Go p e below s _ _ _ (T4.setTop (mkF m 15 #[.val (.int p0), .val (.ref ta), .val (.int (5 : Int32)), .val (.int (1 : Int32)), .val (.ref ad_DATA)] [(.ref ta)]))
    refine own_go (fun t_ kt_ => XS.iloadN X4.here hx rfl (hb hby d2_15) rfl kt_) ?_
    show own_Go p e below s _ _ _ (T4.setTop (mkF m 16 #[.val (.int p0), .val (.ref ta), .val (.int (5 : Int32)), .val (.int (1 : Int32)), .val (.ref ad_DATA)] [(.int (1 : Int32)), (.ref ta)]))
    obtain ⟨c5, Ar5, S5, G5⟩ := id AT
    have q5 : c5.slots[((1 : Int32)).toNatClampNeg]? = some (.ref ad_INIT) := by rw [own_cl (j := (1 : Int32)) (i := 1) (by decide)]; exact (G5 _ (by decide)).trans (congrArg some (rfl))
    refine own_go (fun t_ kt_ => X4.aaload hx (j := (1 : Int32)) (v := (.ref ad_INIT)) (by rw [e4]; exact Ar5.1) (State.isArrayOf_alike hZ.alike Ar5.2.1) rfl Ar5.2.2 (own_in (i := 1) S5 (by decide) (by decide)) q5 (g := (mkF m 16 #[.val (.int p0), .val (.ref ta), .val (.int (5 : Int32)), .val (.int (1 : Int32)), .val (.ref ad_DATA)] [(.int (1 : Int32)), (.ref ta)])) rfl rfl (hb hby d2_16) _ kt_) ?_
    show own_Go p e below s _ _ _ (T4.setTop (mkF m 17 #[.val (.int p0), .val (.ref ta), .val (.int (5 : Int32)), .val (.int (1 : Int32)), .val (.ref ad_DATA)] [(.ref ad_INIT)]))
    refine own_go (fun t_ kt_ => XS.astore X4.here hx rfl (hb hby d2_17) rfl rfl (l' := #[.val (.int p0), .val (.ref ta), .val (.int (5 : Int32)), .val (.int (1 : Int32)), .val (.ref ad_INIT)]) rfl kt_) ?_
    show own_Go p e below s _ _ _ (T4.setTop (mkF m 19 #[.val (.int p0), .val (.ref ta), .val (.int (5 : Int32)), .val (.int (1 : Int32)), .val (.ref ad_INIT)] []))
    refine own_go (fun t_ kt_ => XS.aload X4.here hx rfl (hb hby d2_19) rfl rfl kt_) ?_
    show own_Go p e below s _ _ _ (T4.setTop (mkF m 21 #[.val (.int p0), .val (.ref ta), .val (.int (5 : Int32)), .val (.int (1 : Int32)), .val (.ref ad_INIT)] [(.ref ad_INIT)]))
    obtain ⟨T6, X6, e6, st6⟩ := getF X4 hx hZ hown (host := "") (Or.inl (hw _ (List.mem_of_getElem? (i := 12) rfl))) Via.refl e4 F_INIT (g := (mkF m 21 #[.val (.int p0), .val (.ref ta), .val (.int (5 : Int32)), .val (.int (1 : Int32)), .val (.ref ad_INIT)] [(.ref ad_INIT)])) rfl rfl (hb hby d2_21)
    refine own_go (fun t_ kt_ => st6 _ kt_) ?_
    show own_Go p e below s _ _ _ (T6.setTop (mkF m 24 #[.val (.int p0), .val (.ref ta), .val (.int (5 : Int32)), .val (.int (1 : Int32)), .val (.ref ad_INIT)] [(.int (1 : Int32))]))
    refine own_go (fun t_ kt_ => XS.iloadN X6.here hx rfl (hb hby d2_24) rfl kt_) ?_
    show own_Go p e below s _ _ _ (T6.setTop (mkF m 25 #[.val (.int p0), .val (.ref ta), .val (.int (5 : Int32)), .val (.int (1 : Int32)), .val (.ref ad_INIT)] [(.int p0), (.int (1 : Int32))]))
    by_cases hc25 : (1 : Int32) = p0
    · skip
      have hi25 : 1 = p0.toInt := congrArg Int32.toInt hc25
      refine own_go (fun t_ kt_ => XS.icmpNo X6.here hx rfl (hb hby d2_25) rfl (teq hc25).2 kt_) ?_
      show own_Go p e below s _ _ _ (T6.setTop (mkF m 28 #[.val (.int p0), .val (.ref ta), .val (.int (5 : Int32)), .val (.int (1 : Int32)), .val (.ref ad_INIT)] []))
      refine own_go (fun t_ kt_ => XS.aload X6.here hx rfl (hb hby d2_28) rfl rfl kt_) ?_
      show own_Go p e below s _ _ _ (T6.setTop (mkF m 30 #[.val (.int p0), .val (.ref ta), .val (.int (5 : Int32)), .val (.int (1 : Int32)), .val (.ref ad_INIT)] [(.ref ad_INIT)]))
      refine own_ret X6 (v := some (.ref ad_INIT)) (fun h => by rw [hret] at h; cases h) hlk ?_ (by decide) (by decide) (fun fs hr => X6.areturnOut hx rfl hret rfl (hb hby d2_30) hr)
      show Q2 Z p0 ad_DATA ad_INIT ad_ACK ad_HEARTBEAT ad_HEARTBEAT_ACK ta h0 n0 (some (.ref ad_INIT)) T6.heap _
      rw [e6]
      exact ⟨congrArg some (by unfold own_exp; repeat (first | rw [if_pos (by omega)] | rw [if_neg (by omega)])), N0, rfl⟩
    · skip
      have hi25 : ¬ 1 = p0.toInt := fun q => hc25 (Int32.toInt_inj.mp q)
      refine own_go (fun t_ kt_ => XS.icmpYes X6.here hx rfl (pc0 := 25) (pc' := 31) rfl (hb hby d2_25) rfl (feq hc25).2 (by decide) (by decide) kt_) ?_
      show own_Go p e below s _ _ _ (T6.setTop (mkF m 31 #[.val (.int p0), .val (.ref ta), .val (.int (5 : Int32)), .val (.int (1 : Int32)), .val (.ref ad_INIT)] []))
      refine own_go (fun t_ kt_ => XS.iinc X6.here hx rfl (hb hby d2_31) rfl (l' := #[.val (.int p0), .val (.ref ta), .val (.int (5 : Int32)), .val (.int (2 : Int32)), .val (.ref ad_INIT)]) rfl kt_) ?_
      show own_Go p e below s _ _ _ (T6.setTop (mkF m 34 #[.val (.int p0), .val (.ref ta), .val (.int (5 : Int32)), .val (.int (2 : Int32)), .val (.ref ad_INIT)] []))
      refine own_go (fun t_ kt_ => XS.goto X6.here hx rfl (pc0 := 34) (pc' := 9) rfl (hb hby d2_34) (by decide) (by decide) kt_) ?_
      show own_Go p e below s _ _ _ (T6.setTop (mkF m 9 #[.val (.int p0), .val (.ref ta), .val (.int (5 : Int32)), .val (.int (2 : Int32)), .val (.ref ad_INIT)] []))
      refine own_go (fun t_ kt_ => XS.iloadN X6.here hx rfl (hb hby d2_9) rfl kt_) ?_
      show own_Go p e below s _ _ _ (T6.setTop (mkF m 10 #[.val (.int p0), .val (.ref ta), .val (.int (5 : Int32)), .val (.int (2 : Int32)), .val (.ref ad_INIT)] [(.int (2 : Int32))]))
      refine own_go (fun t_ kt_ => XS.iloadN X6.here hx rfl (hb hby d2_10) rfl kt_) ?_
      show own_Go p e below s _ _ _ (T6.setTop (mkF m 11 #[.val (.int p0), .val (.ref ta), .val (.int (5 : Int32)), .val (.int (2 : Int32)), .val (.ref ad_INIT)] [(.int (5 : Int32)), (.int (2 : Int32))]))
      refine own_go (fun t_ kt_ => XS.icmpNo X6.here hx rfl (hb hby d2_11) rfl (tlt (by decide)).2.1 kt_) ?_
      show own_Go p e below s _ _ _ (T6.setTop (mkF m 14 #[.val (.int p0), .val (.ref ta), .val (.int (5 : Int32)), .val (.int (2 : Int32)), .val (.ref ad_INIT)] []))
      refine own_go (fun t_ kt_ => XS.aloadN X6.here hx rfl (hb hby d2_14) rfl rfl kt_) ?_
      show own_Go p e below s _ _ _ (T6.setTop (mkF m 15 #[.val (.int p0), .val (.ref ta), .val (.int (5 : Int32)), .val (.int (2 : Int32)), .val (.ref ad_INIT)] [(.ref ta)]))
      refine own_go (fun t_ kt_ => XS.iloadN X6.here hx rfl (hb hby d2_15) rfl kt_) ?_
      show own_Go p e below s _ _ _ (T6.setTop (mkF m 16 #[.val (.int p0), .val (.ref ta), .val (.int (5 : Int32)), .val (.int (2 : Int32)), .val (.ref ad_INIT)] [(.int (2 : Int32)), (.ref ta)]))
      obtain ⟨c7, Ar7, S7, G7⟩ := id AT
      have q7 : c7.slots[((2 : Int32)).toNatClampNeg]? = some (.ref ad_ACK) := by rw [own_cl (j := (2 : Int32)) (i := 2) (by decide)]; exact (G7 _ (by decide)).trans (congrArg some (rfl))
      refine own_go (fun t_ kt_ => X6.aaload hx (j := (2 : Int32)) (v := (.ref ad_ACK)) (by rw [e6]; exact Ar7.1) (State.isArrayOf_alike hZ.alike Ar7.2.1) rfl Ar7.2.2 (own_in (i := 2) S7 (by decide) (by decide)) q7 (g := (mkF m 16 #[.val (.int p0), .val (.ref ta), .val (.int (5 : Int32)), .val (.int (2 : Int32)), .val (.ref ad_INIT)] [(.int (2 : Int32)), (.ref ta)])) rfl rfl (hb hby d2_16) _ kt_) ?_
      show own_Go p e below s _ _ _ (T6.setTop (mkF m 17 #[.val (.int p0), .val (.ref ta), .val (.int (5 : Int32)), .val (.int (2 : Int32)), .val (.ref ad_INIT)] [(.ref ad_ACK)]))
      refine own_go (fun t_ kt_ => XS.astore X6.here hx rfl (hb hby d2_17) rfl rfl (l' := #[.val (.int p0), .val (.ref ta), .val (.int (5 : Int32)), .val (.int (2 : Int32)), .val (.ref ad_ACK)]) rfl kt_) ?_
      show own_Go p e below s _ _ _ (T6.setTop (mkF m 19 #[.val (.int p0), .val (.ref ta), .val (.int (5 : Int32)), .val (.int (2 : Int32)), .val (.ref ad_ACK)] []))
      refine own_go (fun t_ kt_ => XS.aload X6.here hx rfl (hb hby d2_19) rfl rfl kt_) ?_
      show own_Go p e below s _ _ _ (T6.setTop (mkF m 21 #[.val (.int p0), .val (.ref ta), .val (.int (5 : Int32)), .val (.int (2 : Int32)), .val (.ref ad_ACK)] [(.ref ad_ACK)]))
      obtain ⟨T8, X8, e8, st8⟩ := getF X6 hx hZ hown (host := "") (Or.inl (hw _ (List.mem_of_getElem? (i := 12) rfl))) Via.refl e6 F_ACK (g := (mkF m 21 #[.val (.int p0), .val (.ref ta), .val (.int (5 : Int32)), .val (.int (2 : Int32)), .val (.ref ad_ACK)] [(.ref ad_ACK)])) rfl rfl (hb hby d2_21)
      refine own_go (fun t_ kt_ => st8 _ kt_) ?_
      show own_Go p e below s _ _ _ (T8.setTop (mkF m 24 #[.val (.int p0), .val (.ref ta), .val (.int (5 : Int32)), .val (.int (2 : Int32)), .val (.ref ad_ACK)] [(.int (3 : Int32))]))
      refine own_go (fun t_ kt_ => XS.iloadN X8.here hx rfl (hb hby d2_24) rfl kt_) ?_
      show own_Go p e below s _ _ _ (T8.setTop (mkF m 25 #[.val (.int p0), .val (.ref ta), .val (.int (5 : Int32)), .val (.int (2 : Int32)), .val (.ref ad_ACK)] [(.int p0), (.int (3 : Int32))]))
      by_cases hc25 : (3 : Int32) = p0
      · skip
        have hi25 : 3 = p0.toInt := congrArg Int32.toInt hc25
        refine own_go (fun t_ kt_ => XS.icmpNo X8.here hx rfl (hb hby d2_25) rfl (teq hc25).2 kt_) ?_
        show own_Go p e below s _ _ _ (T8.setTop (mkF m 28 #[.val (.int p0), .val (.ref ta), .val (.int (5 : Int32)), .val (.int (2 : Int32)), .val (.ref ad_ACK)] []))
        refine own_go (fun t_ kt_ => XS.aload X8.here hx rfl (hb hby d2_28) rfl rfl kt_) ?_
        show own_Go p e below s _ _ _ (T8.setTop (mkF m 30 #[.val (.int p0), .val (.ref ta), .val (.int (5 : Int32)), .val (.int (2 : Int32)), .val (.ref ad_ACK)] [(.ref ad_ACK)]))
        refine own_ret X8 (v := some (.ref ad_ACK)) (fun h => by rw [hret] at h; cases h) hlk ?_ (by decide) (by decide) (fun fs hr => X8.areturnOut hx rfl hret rfl (hb hby d2_30) hr)
        show Q2 Z p0 ad_DATA ad_INIT ad_ACK ad_HEARTBEAT ad_HEARTBEAT_ACK ta h0 n0 (some (.ref ad_ACK)) T8.heap _
        rw [e8]
        exact ⟨congrArg some (by unfold own_exp; repeat (first | rw [if_pos (by omega)] | rw [if_neg (by omega)])), N0, rfl⟩
      · skip
        have hi25 : ¬ 3 = p0.toInt := fun q => hc25 (Int32.toInt_inj.mp q)
        refine own_go (fun t_ kt_ => XS.icmpYes X8.here hx rfl (pc0 := 25) (pc' := 31) rfl (hb hby d2_25) rfl (feq hc25).2 (by decide) (by decide) kt_) ?_
        show own_Go p e below s _ _ _ (T8.setTop (mkF m 31 #[.val (.int p0), .val (.ref ta), .val (.int (5 : Int32)), .val (.int (2 : Int32)), .val (.ref ad_ACK)] []))
        refine own_go (fun t_ kt_ => XS.iinc X8.here hx rfl (hb hby d2_31) rfl (l' := #[.val (.int p0), .val (.ref ta), .val (.int (5 : Int32)), .val (.int (3 : Int32)), .val (.ref ad_ACK)]) rfl kt_) ?_
        show own_Go p e below s _ _ _ (T8.setTop (mkF m 34 #[.val (.int p0), .val (.ref ta), .val (.int (5 : Int32)), .val (.int (3 : Int32)), .val (.ref ad_ACK)] []))
        refine own_go (fun t_ kt_ => XS.goto X8.here hx rfl (pc0 := 34) (pc' := 9) rfl (hb hby d2_34) (by decide) (by decide) kt_) ?_
        show own_Go p e below s _ _ _ (T8.setTop (mkF m 9 #[.val (.int p0), .val (.ref ta), .val (.int (5 : Int32)), .val (.int (3 : Int32)), .val (.ref ad_ACK)] []))
        refine own_go (fun t_ kt_ => XS.iloadN X8.here hx rfl (hb hby d2_9) rfl kt_) ?_
        show own_Go p e below s _ _ _ (T8.setTop (mkF m 10 #[.val (.int p0), .val (.ref ta), .val (.int (5 : Int32)), .val (.int (3 : Int32)), .val (.ref ad_ACK)] [(.int (3 : Int32))]))
        refine own_go (fun t_ kt_ => XS.iloadN X8.here hx rfl (hb hby d2_10) rfl kt_) ?_
        show own_Go p e below s _ _ _ (T8.setTop (mkF m 11 #[.val (.int p0), .val (.ref ta), .val (.int (5 : Int32)), .val (.int (3 : Int32)), .val (.ref ad_ACK)] [(.int (5 : Int32)), (.int (3 : Int32))]))
        refine own_go (fun t_ kt_ => XS.icmpNo X8.here hx rfl (hb hby d2_11) rfl (tlt (by decide)).2.1 kt_) ?_
        show own_Go p e below s _ _ _ (T8.setTop (mkF m 14 #[.val (.int p0), .val (.ref ta), .val (.int (5 : Int32)), .val (.int (3 : Int32)), .val (.ref ad_ACK)] []))
        refine own_go (fun t_ kt_ => XS.aloadN X8.here hx rfl (hb hby d2_14) rfl rfl kt_) ?_
        show own_Go p e below s _ _ _ (T8.setTop (mkF m 15 #[.val (.int p0), .val (.ref ta), .val (.int (5 : Int32)), .val (.int (3 : Int32)), .val (.ref ad_ACK)] [(.ref ta)]))
        refine own_go (fun t_ kt_ => XS.iloadN X8.here hx rfl (hb hby d2_15) rfl kt_) ?_
        show own_Go p e below s _ _ _ (T8.setTop (mkF m 16 #[.val (.int p0), .val (.ref ta), .val (.int (5 : Int32)), .val (.int (3 : Int32)), .val (.ref ad_ACK)] [(.int (3 : Int32)), (.ref ta)]))
        obtain ⟨c9, Ar9, S9, G9⟩ := id AT
        have q9 : c9.slots[((3 : Int32)).toNatClampNeg]? = some (.ref ad_HEARTBEAT) := by rw [own_cl (j := (3 : Int32)) (i := 3) (by decide)]; exact (G9 _ (by decide)).trans (congrArg some (rfl))
        refine own_go (fun t_ kt_ => X8.aaload hx (j := (3 : Int32)) (v := (.ref ad_HEARTBEAT)) (by rw [e8]; exact Ar9.1) (State.isArrayOf_alike hZ.alike Ar9.2.1) rfl Ar9.2.2 (own_in (i := 3) S9 (by decide) (by decide)) q9 (g := (mkF m 16 #[.val (.int p0), .val (.ref ta), .val (.int (5 : Int32)), .val (.int (3 : Int32)), .val (.ref ad_ACK)] [(.int (3 : Int32)), (.ref ta)])) rfl rfl (hb hby d2_16) _ kt_) ?_
        show own_Go p e below s _ _ _ (T8.setTop (mkF m 17 #[.val (.int p0), .val (.ref ta), .val (.int (5 : Int32)), .val (.int (3 : Int32)), .val (.ref ad_ACK)] [(.ref ad_HEARTBEAT)]))
        refine own_go (fun t_ kt_ => XS.astore X8.here hx rfl (hb hby d2_17) rfl rfl (l' := #[.val (.int p0), .val (.ref ta), .val (.int (5 : Int32)), .val (.int (3 : Int32)), .val (.ref ad_HEARTBEAT)]) rfl kt_) ?_
        show own_Go p e below s _ _ _ (T8.setTop (mkF m 19 #[.val (.int p0), .val (.ref ta), .val (.int (5 : Int32)), .val (.int (3 : Int32)), .val (.ref ad_HEARTBEAT)] []))
        refine own_go (fun t_ kt_ => XS.aload X8.here hx rfl (hb hby d2_19) rfl rfl kt_) ?_
        show own_Go p e below s _ _ _ (T8.setTop (mkF m 21 #[.val (.int p0), .val (.ref ta), .val (.int (5 : Int32)), .val (.int (3 : Int32)), .val (.ref ad_HEARTBEAT)] [(.ref ad_HEARTBEAT)]))
        obtain ⟨T10, X10, e10, st10⟩ := getF X8 hx hZ hown (host := "") (Or.inl (hw _ (List.mem_of_getElem? (i := 12) rfl))) Via.refl e8 F_HEARTBEAT (g := (mkF m 21 #[.val (.int p0), .val (.ref ta), .val (.int (5 : Int32)), .val (.int (3 : Int32)), .val (.ref ad_HEARTBEAT)] [(.ref ad_HEARTBEAT)])) rfl rfl (hb hby d2_21)
        refine own_go (fun t_ kt_ => st10 _ kt_) ?_
        show own_Go p e below s _ _ _ (T10.setTop (mkF m 24 #[.val (.int p0), .val (.ref ta), .val (.int (5 : Int32)), .val (.int (3 : Int32)), .val (.ref ad_HEARTBEAT)] [(.int (4 : Int32))]))
        refine own_go (fun t_ kt_ => XS.iloadN X10.here hx rfl (hb hby d2_24) rfl kt_) ?_
        show own_Go p e below s _ _ _ (T10.setTop (mkF m 25 #[.val (.int p0), .val (.ref ta), .val (.int (5 : Int32)), .val (.int (3 : Int32)), .val (.ref ad_HEARTBEAT)] [(.int p0), (.int (4 : Int32))]))
        by_cases hc25 : (4 : Int32) = p0
        · skip
          have hi25 : 4 = p0.toInt := congrArg Int32.toInt hc25
          refine own_go (fun t_ kt_ => XS.icmpNo X10.here hx rfl (hb hby d2_25) rfl (teq hc25).2 kt_) ?_
          show own_Go p e below s _ _ _ (T10.setTop (mkF m 28 #[.val (.int p0), .val (.ref ta), .val (.int (5 : Int32)), .val (.int (3 : Int32)), .val (.ref ad_HEARTBEAT)] []))
          refine own_go (fun t_ kt_ => XS.aload X10.here hx rfl (hb hby d2_28) rfl rfl kt_) ?_
          show own_Go p e below s _ _ _ (T10.setTop (mkF m 30 #[.val (.int p0), .val (.ref ta), .val (.int (5 : Int32)), .val (.int (3 : Int32)), .val (.ref ad_HEARTBEAT)] [(.ref ad_HEARTBEAT)]))
          refine own_ret X10 (v := some (.ref ad_HEARTBEAT)) (fun h => by rw [hret] at h; cases h) hlk ?_ (by decide) (by decide) (fun fs hr => X10.areturnOut hx rfl hret rfl (hb hby d2_30) hr)
          show Q2 Z p0 ad_DATA ad_INIT ad_ACK ad_HEARTBEAT ad_HEARTBEAT_ACK ta h0 n0 (some (.ref ad_HEARTBEAT)) T10.heap _
          rw [e10]
          exact ⟨congrArg some (by unfold own_exp; repeat (first | rw [if_pos (by omega)] | rw [if_neg (by omega)])), N0, rfl⟩
        · skip
          have hi25 : ¬ 4 = p0.toInt := fun q => hc25 (Int32.toInt_inj.mp q)
          refine own_go (fun t_ kt_ => XS.icmpYes X10.here hx rfl (pc0 := 25) (pc' := 31) rfl (hb hby d2_25) rfl (feq hc25).2 (by decide) (by decide) kt_) ?_
          show own_Go p e below s _ _ _ (T10.setTop (mkF m 31 #[.val (.int p0), .val (.ref ta), .val (.int (5 : Int32)), .val (.int (3 : Int32)), .val (.ref ad_HEARTBEAT)] []))
          refine own_go (fun t_ kt_ => XS.iinc X10.here hx rfl (hb hby d2_31) rfl (l' := #[.val (.int p0), .val (.ref ta), .val (.int (5 : Int32)), .val (.int (4 : Int32)), .val (.ref ad_HEARTBEAT)]) rfl kt_) ?_
          show own_Go p e below s _ _ _ (T10.setTop (mkF m 34 #[.val (.int p0), .val (.ref ta), .val (.int (5 : Int32)), .val (.int (4 : Int32)), .val (.ref ad_HEARTBEAT)] []))
          refine own_go (fun t_ kt_ => XS.goto X10.here hx rfl (pc0 := 34) (pc' := 9) rfl (hb hby d2_34) (by decide) (by decide) kt_) ?_
          show own_Go p e below s _ _ _ (T10.setTop (mkF m 9 #[.val (.int p0), .val (.ref ta), .val (.int (5 : Int32)), .val (.int (4 : Int32)), .val (.ref ad_HEARTBEAT)] []))
          refine own_go (fun t_ kt_ => XS.iloadN X10.here hx rfl (hb hby d2_9) rfl kt_) ?_
          show own_Go p e below s _ _ _ (T10.setTop (mkF m 10 #[.val (.int p0), .val (.ref ta), .val (.int (5 : Int32)), .val (.int (4 : Int32)), .val (.ref ad_HEARTBEAT)] [(.int (4 : Int32))]))
          refine own_go (fun t_ kt_ => XS.iloadN X10.here hx rfl (hb hby d2_10) rfl kt_) ?_
          show own_Go p e below s _ _ _ (T10.setTop (mkF m 11 #[.val (.int p0), .val (.ref ta), .val (.int (5 : Int32)), .val (.int (4 : Int32)), .val (.ref ad_HEARTBEAT)] [(.int (5 : Int32)), (.int (4 : Int32))]))
          refine own_go (fun t_ kt_ => XS.icmpNo X10.here hx rfl (hb hby d2_11) rfl (tlt (by decide)).2.1 kt_) ?_
          show own_Go p e below s _ _ _ (T10.setTop (mkF m 14 #[.val (.int p0), .val (.ref ta), .val (.int (5 : Int32)), .val (.int (4 : Int32)), .val (.ref ad_HEARTBEAT)] []))
          refine own_go (fun t_ kt_ => XS.aloadN X10.here hx rfl (hb hby d2_14) rfl rfl kt_) ?_
          show own_Go p e below s _ _ _ (T10.setTop (mkF m 15 #[.val (.int p0), .val (.ref ta), .val (.int (5 : Int32)), .val (.int (4 : Int32)), .val (.ref ad_HEARTBEAT)] [(.ref ta)]))
          refine own_go (fun t_ kt_ => XS.iloadN X10.here hx rfl (hb hby d2_15) rfl kt_) ?_
          show own_Go p e below s _ _ _ (T10.setTop (mkF m 16 #[.val (.int p0), .val (.ref ta), .val (.int (5 : Int32)), .val (.int (4 : Int32)), .val (.ref ad_HEARTBEAT)] [(.int (4 : Int32)), (.ref ta)]))
          obtain ⟨c11, Ar11, S11, G11⟩ := id AT
          have q11 : c11.slots[((4 : Int32)).toNatClampNeg]? = some (.ref ad_HEARTBEAT_ACK) := by rw [own_cl (j := (4 : Int32)) (i := 4) (by decide)]; exact (G11 _ (by decide)).trans (congrArg some (rfl))
          refine own_go (fun t_ kt_ => X10.aaload hx (j := (4 : Int32)) (v := (.ref ad_HEARTBEAT_ACK)) (by rw [e10]; exact Ar11.1) (State.isArrayOf_alike hZ.alike Ar11.2.1) rfl Ar11.2.2 (own_in (i := 4) S11 (by decide) (by decide)) q11 (g := (mkF m 16 #[.val (.int p0), .val (.ref ta), .val (.int (5 : Int32)), .val (.int (4 : Int32)), .val (.ref ad_HEARTBEAT)] [(.int (4 : Int32)), (.ref ta)])) rfl rfl (hb hby d2_16) _ kt_) ?_
          show own_Go p e below s _ _ _ (T10.setTop (mkF m 17 #[.val (.int p0), .val (.ref ta), .val (.int (5 : Int32)), .val (.int (4 : Int32)), .val (.ref ad_HEARTBEAT)] [(.ref ad_HEARTBEAT_ACK)]))
          refine own_go (fun t_ kt_ => XS.astore X10.here hx rfl (hb hby d2_17) rfl rfl (l' := #[.val (.int p0), .val (.ref ta), .val (.int (5 : Int32)), .val (.int (4 : Int32)), .val (.ref ad_HEARTBEAT_ACK)]) rfl kt_) ?_
          show own_Go p e below s _ _ _ (T10.setTop (mkF m 19 #[.val (.int p0), .val (.ref ta), .val (.int (5 : Int32)), .val (.int (4 : Int32)), .val (.ref ad_HEARTBEAT_ACK)] []))
          refine own_go (fun t_ kt_ => XS.aload X10.here hx rfl (hb hby d2_19) rfl rfl kt_) ?_
          show own_Go p e below s _ _ _ (T10.setTop (mkF m 21 #[.val (.int p0), .val (.ref ta), .val (.int (5 : Int32)), .val (.int (4 : Int32)), .val (.ref ad_HEARTBEAT_ACK)] [(.ref ad_HEARTBEAT_ACK)]))
          obtain ⟨T12, X12, e12, st12⟩ := getF X10 hx hZ hown (host := "") (Or.inl (hw _ (List.mem_of_getElem? (i := 12) rfl))) Via.refl e10 F_HEARTBEAT_ACK (g := (mkF m 21 #[.val (.int p0), .val (.ref ta), .val (.int (5 : Int32)), .val (.int (4 : Int32)), .val (.ref ad_HEARTBEAT_ACK)] [(.ref ad_HEARTBEAT_ACK)])) rfl rfl (hb hby d2_21)
          refine own_go (fun t_ kt_ => st12 _ kt_) ?_
          show own_Go p e below s _ _ _ (T12.setTop (mkF m 24 #[.val (.int p0), .val (.ref ta), .val (.int (5 : Int32)), .val (.int (4 : Int32)), .val (.ref ad_HEARTBEAT_ACK)] [(.int (5 : Int32))]))
          refine own_go (fun t_ kt_ => XS.iloadN X12.here hx rfl (hb hby d2_24) rfl kt_) ?_
          show own_Go p e below s _ _ _ (T12.setTop (mkF m 25 #[.val (.int p0), .val (.ref ta), .val (.int (5 : Int32)), .val (.int (4 : Int32)), .val (.ref ad_HEARTBEAT_ACK)] [(.int p0), (.int (5 : Int32))]))
          by_cases hc25 : (5 : Int32) = p0
          · skip
            have hi25 : 5 = p0.toInt := congrArg Int32.toInt hc25
            refine own_go (fun t_ kt_ => XS.icmpNo X12.here hx rfl (hb hby d2_25) rfl (teq hc25).2 kt_) ?_
            show own_Go p e below s _ _ _ (T12.setTop (mkF m 28 #[.val (.int p0), .val (.ref ta), .val (.int (5 : Int32)), .val (.int (4 : Int32)), .val (.ref ad_HEARTBEAT_ACK)] []))
            refine own_go (fun t_ kt_ => XS.aload X12.here hx rfl (hb hby d2_28) rfl rfl kt_) ?_
            show own_Go p e below s _ _ _ (T12.setTop (mkF m 30 #[.val (.int p0), .val (.ref ta), .val (.int (5 : Int32)), .val (.int (4 : Int32)), .val (.ref ad_HEARTBEAT_ACK)] [(.ref ad_HEARTBEAT_ACK)]))
            refine own_ret X12 (v := some (.ref ad_HEARTBEAT_ACK)) (fun h => by rw [hret] at h; cases h) hlk ?_ (by decide) (by decide) (fun fs hr => X12.areturnOut hx rfl hret rfl (hb hby d2_30) hr)
            show Q2 Z p0 ad_DATA ad_INIT ad_ACK ad_HEARTBEAT ad_HEARTBEAT_ACK ta h0 n0 (some (.ref ad_HEARTBEAT_ACK)) T12.heap _
            rw [e12]
            exact ⟨congrArg some (by unfold own_exp; repeat (first | rw [if_pos (by omega)] | rw [if_neg (by omega)])), N0, rfl⟩
          · skip
            have hi25 : ¬ 5 = p0.toInt := fun q => hc25 (Int32.toInt_inj.mp q)
            refine own_go (fun t_ kt_ => XS.icmpYes X12.here hx rfl (pc0 := 25) (pc' := 31) rfl (hb hby d2_25) rfl (feq hc25).2 (by decide) (by decide) kt_) ?_
            show own_Go p e below s _ _ _ (T12.setTop (mkF m 31 #[.val (.int p0), .val (.ref ta), .val (.int (5 : Int32)), .val (.int (4 : Int32)), .val (.ref ad_HEARTBEAT_ACK)] []))
            refine own_go (fun t_ kt_ => XS.iinc X12.here hx rfl (hb hby d2_31) rfl (l' := #[.val (.int p0), .val (.ref ta), .val (.int (5 : Int32)), .val (.int (5 : Int32)), .val (.ref ad_HEARTBEAT_ACK)]) rfl kt_) ?_
            show own_Go p e below s _ _ _ (T12.setTop (mkF m 34 #[.val (.int p0), .val (.ref ta), .val (.int (5 : Int32)), .val (.int (5 : Int32)), .val (.ref ad_HEARTBEAT_ACK)] []))
            refine own_go (fun t_ kt_ => XS.goto X12.here hx rfl (pc0 := 34) (pc' := 9) rfl (hb hby d2_34) (by decide) (by decide) kt_) ?_
            show own_Go p e below s _ _ _ (T12.setTop (mkF m 9 #[.val (.int p0), .val (.ref ta), .val (.int (5 : Int32)), .val (.int (5 : Int32)), .val (.ref ad_HEARTBEAT_ACK)] []))
            refine own_go (fun t_ kt_ => XS.iloadN X12.here hx rfl (hb hby d2_9) rfl kt_) ?_
            show own_Go p e below s _ _ _ (T12.setTop (mkF m 10 #[.val (.int p0), .val (.ref ta), .val (.int (5 : Int32)), .val (.int (5 : Int32)), .val (.ref ad_HEARTBEAT_ACK)] [(.int (5 : Int32))]))
            refine own_go (fun t_ kt_ => XS.iloadN X12.here hx rfl (hb hby d2_10) rfl kt_) ?_
            show own_Go p e below s _ _ _ (T12.setTop (mkF m 11 #[.val (.int p0), .val (.ref ta), .val (.int (5 : Int32)), .val (.int (5 : Int32)), .val (.ref ad_HEARTBEAT_ACK)] [(.int (5 : Int32)), (.int (5 : Int32))]))
            refine own_go (fun t_ kt_ => XS.icmpYes X12.here hx rfl (pc0 := 11) (pc' := 37) rfl (hb hby d2_11) rfl (flt (by decide)).2.1 (by decide) (by decide) kt_) ?_
            show own_Go p e below s _ _ _ (T12.setTop (mkF m 37 #[.val (.int p0), .val (.ref ta), .val (.int (5 : Int32)), .val (.int (5 : Int32)), .val (.ref ad_HEARTBEAT_ACK)] []))
            refine own_go (fun t_ kt_ => XS.aconstNull X12.here hx rfl (hb hby d2_37) kt_) ?_
            show own_Go p e below s _ _ _ (T12.setTop (mkF m 38 #[.val (.int p0), .val (.ref ta), .val (.int (5 : Int32)), .val (.int (5 : Int32)), .val (.ref ad_HEARTBEAT_ACK)] [.null]))
            refine own_ret X12 (v := some .null) (fun h => by rw [hret] at h; cases h) hlk ?_ (by decide) (by decide) (fun fs hr => X12.areturnOut hx rfl hret rfl (hb hby d2_38) hr)
            show Q2 Z p0 ad_DATA ad_INIT ad_ACK ad_HEARTBEAT ad_HEARTBEAT_ACK ta h0 n0 (some .null) T12.heap _
            rw [e12]
            exact ⟨congrArg some (by unfold own_exp; repeat (first | rw [if_pos (by omega)] | rw [if_neg (by omega)])), N0, rfl⟩
theorem d3_0 : decode prog_10_method_4_code 0 = .ok (.aload_n 0, 1) := by decide +kernel
theorem d3_1 : decode prog_10_method_4_code 1 = .ok (.getfield 38, 3) := by decide +kernel
theorem d3_4 : decode prog_10_method_4_code 4 = .ok (.ireturn, 1) := by decide +kernel
theorem ef_3 (m : MethodId) (r0 : Addr) : entryFrame m #[(.ref r0)] 1 = mkF m 0 #[.val (.ref r0)] [] := by first | (simp [entryFrame, mkF, argsToLocals, Value.category]; done) | rfl
def Q3 (Z : State) (r0 : Addr) (cd : Int32) (h0 : Heap) (n0 : Nat) (v : Option Value) (h : Heap) (L : List Loc) : Prop := v = some (.int cd) ∧ Fr n0 L ∧ h = h0
set_option maxRecDepth 65536 in
set_option maxHeartbeats 40000000 in
theorem rm3 (l : Launch) (Z : State) (a0 : Array Value) (hw : ∀ d ∈ tables_1, d.before a0 Z = true) (ws : List Jvm.Cond) (r0 : Addr) (cd : Int32) (h0 : Heap) (n0 : Nat) (Z0 : n0 ≤ h0.size) (F0 : Fld Z h0 r0 "com/example/framer/framer/chunk/ChunkType" "code" "I" (.int cd)) :
    MetFree l (⟨"com/example/framer/framer/chunk/ChunkType", "code", "()I"⟩ : MethodName) (head1 (Jvm.Cond.code (⟨"com/example/framer/framer/chunk/ChunkType", "code", "()I"⟩ : MethodName) prog_10_method_4_code 1 (some .int) :: ws) ({ frames := 0, cells := 0, slots := 0, locals := 0 } : Room)) (fun a U => a = #[(.ref r0)] ∧ Z.Warmed39 U.vm ∧ U.heap = h0) (fun _ _ _ _ _ => True) (fun _ U o U' => ∃ v L, o = .returned v ∧ Q3 Z r0 cd h0 n0 v U'.heap L ∧ FrameEnd U o U' L (({ frames := 0, cells := 0, slots := 0, locals := 0 } : Room)).cells (({ frames := 0, cells := 0, slots := 0, locals := 0 } : Room)).slots) := by
  refine MetFree.of_bodySF (plainFor_of_name pn_1) hisR ?_
  intro p e s m args below meth c s₁ Bd hml0 hP hK
  obtain ⟨rfl, hZ, hh⟩ := hP
  have hx := Bd.exec
  have hby := Bd.bytes
  have hml : c.maxLocals = 1 := hml0
  have hown : s.vm.findClass "com/example/framer/framer/chunk/ChunkType" = some m.cls := findClass_of_methodNamed Bd.named
  have hnm := (name_of_methodNamed Bd.named Bd.method).1
  have hlk : meth.locks = false := Bd.notSynchronized
  have X0 : Stand p l e ({ frames := 0, cells := 0, slots := 0, locals := 0 } : Room) s m #[(.ref r0)] below meth c s₁ [] 0 0 := Stand.of_body Bd
  have e0 : s₁.heap = h0 := by rw [← hh, Bd.state]; rfl
  have N0 := Fr.nil n0
  have hret := Bd.returns
  show own_Go p e below s (Q3 Z r0 cd h0 n0) _ _ (s₁.setTop (entryFrame m #[(.ref r0)] 1))
  refine own_go (fun t k => castTop (ef_3 m r0) k) ?_
  show own_Go p e below s _ _ _ (s₁.setTop (mkF m 0 #[.val (.ref r0)] []))
  refine own_go (fun t_ kt_ => XS.aloadN X0.here hx rfl (hb hby d3_0) rfl rfl kt_) ?_
  show own_Go p e below s _ _ _ (s₁.setTop (mkF m 1 #[.val (.ref r0)] [(.ref r0)]))
  obtain ⟨T1, X1, e1, st1⟩ := getF X0 hx hZ hown (host := "") (Or.inl (hw _ (List.mem_of_getElem? (i := 12) rfl))) Via.refl e0 F0 (g := (mkF m 1 #[.val (.ref r0)] [(.ref r0)])) rfl rfl (hb hby d3_1)
  refine own_go (fun t_ kt_ => st1 _ kt_) ?_
  show own_Go p e below s _ _ _ (T1.setTop (mkF m 4 #[.val (.ref r0)] [(.int cd)]))
  refine own_ret X1 (v := some (.int cd)) (fun h => by rw [hret] at h; cases h) hlk ?_ (by decide) (by decide) (fun fs hr => retI X1 hx hret (hb hby d3_4) hr)
  show Q3 Z r0 cd h0 n0 (some (.int cd)) T1.heap _
  rw [e1]
  exact ⟨rfl, N0, rfl⟩
theorem pd_0 : parseMethodDescriptor "(I)Lcom/example/framer/framer/chunk/ChunkType;" = some ⟨[.int], some (.object "com/example/framer/framer/chunk/ChunkType")⟩ := by decide +kernel
theorem pd_1 : parseMethodDescriptor "()I" = some ⟨[], some .int⟩ := by decide +kernel
theorem ef_0 (m : MethodId) (p0 : Int32) (p1 : Int32) : entryFrame m #[(.int p0), (.int p1)] maxLocals = mkF m 0 #[.val (.int p0), .val (.int p1), .unset, .unset, .unset, .unset] [] := by first | (simp [entryFrame, mkF, argsToLocals, Value.category, maxLocals]; done) | rfl
def Q0 (Z : State) (p0 : Int32) (p1 : Int32) (ad_DATA : Addr) (ad_INIT : Addr) (ad_ACK : Addr) (ad_HEARTBEAT : Addr) (ad_HEARTBEAT_ACK : Addr) (ta : Addr) (h0 : Heap) (n0 : Nat) (v : Option Value) (h : Heap) (L : List Loc) : Prop := v = some (.int 1) ∧ Fr n0 L
set_option maxRecDepth 65536 in
set_option maxHeartbeats 40000000 in
theorem rm0 (l : Launch) (Z : State) (a0 : Array Value) (hw : ∀ d ∈ tables_1, d.before a0 Z = true) (ws : List Jvm.Cond) (p0 : Int32) (p1 : Int32) (ad_DATA : Addr) (ad_INIT : Addr) (ad_ACK : Addr) (ad_HEARTBEAT : Addr) (ad_HEARTBEAT_ACK : Addr) (ta : Addr) (h0 : Heap) (n0 : Nat) (Z0 : n0 ≤ h0.size) (S_DATA : Sta Z h0 "com/example/framer/framer/chunk/ChunkType" "DATA" "Lcom/example/framer/framer/chunk/ChunkType;" (.ref ad_DATA)) (S_INIT : Sta Z h0 "com/example/framer/framer/chunk/ChunkType" "INIT" "Lcom/example/framer/framer/chunk/ChunkType;" (.ref ad_INIT)) (S_ACK : Sta Z h0 "com/example/framer/framer/chunk/ChunkType" "ACK" "Lcom/example/framer/framer/chunk/ChunkType;" (.ref ad_ACK)) (S_HEARTBEAT : Sta Z h0 "com/example/framer/framer/chunk/ChunkType" "HEARTBEAT" "Lcom/example/framer/framer/chunk/ChunkType;" (.ref ad_HEARTBEAT)) (S_HEARTBEAT_ACK : Sta Z h0 "com/example/framer/framer/chunk/ChunkType" "HEARTBEAT_ACK" "Lcom/example/framer/framer/chunk/ChunkType;" (.ref ad_HEARTBEAT_ACK)) (F_DATA : Fld Z h0 ad_DATA "com/example/framer/framer/chunk/ChunkType" "code" "I" (.int (0 : Int32))) (F_INIT : Fld Z h0 ad_INIT "com/example/framer/framer/chunk/ChunkType" "code" "I" (.int (1 : Int32))) (F_ACK : Fld Z h0 ad_ACK "com/example/framer/framer/chunk/ChunkType" "code" "I" (.int (3 : Int32))) (F_HEARTBEAT : Fld Z h0 ad_HEARTBEAT "com/example/framer/framer/chunk/ChunkType" "code" "I" (.int (4 : Int32))) (F_HEARTBEAT_ACK : Fld Z h0 ad_HEARTBEAT_ACK "com/example/framer/framer/chunk/ChunkType" "code" "I" (.int (5 : Int32))) (AT : own_Ary Z h0 ta (.object "com/example/framer/framer/chunk/ChunkType") 5 (own_f5 ad_DATA ad_INIT ad_ACK ad_HEARTBEAT ad_HEARTBEAT_ACK)) (ST : Sta Z h0 "com/example/framer/framer/chunk/ChunkType" "TYPES" "[Lcom/example/framer/framer/chunk/ChunkType;" (.ref ta)) (E_DATA : Exa Z h0 ad_DATA "com/example/framer/framer/chunk/ChunkType") (E_INIT : Exa Z h0 ad_INIT "com/example/framer/framer/chunk/ChunkType") (E_ACK : Exa Z h0 ad_ACK "com/example/framer/framer/chunk/ChunkType") (E_HEARTBEAT : Exa Z h0 ad_HEARTBEAT "com/example/framer/framer/chunk/ChunkType") (E_HEARTBEAT_ACK : Exa Z h0 ad_HEARTBEAT_ACK "com/example/framer/framer/chunk/ChunkType") :
    MetFree l x (head1 (Jvm.Cond.code x code maxLocals ret :: ws) room_1) (fun a U => a = #[(.int p0), (.int p1)] ∧ Z.Warmed39 U.vm ∧ U.heap = h0) (fun _ _ _ _ _ => True) (fun _ U o U' => ∃ v L, o = .returned v ∧ Q0 Z p0 p1 ad_DATA ad_INIT ad_ACK ad_HEARTBEAT ad_HEARTBEAT_ACK ta h0 n0 v U'.heap L ∧ FrameEnd U o U' L (room_1).cells (room_1).slots) := by
  refine MetFree.of_bodySF (plainFor_of_name pn_0) hisR ?_
  intro p e s m args below meth c s₁ Bd hml0 hP hK
  obtain ⟨rfl, hZ, hh⟩ := hP
  have hx := Bd.exec
  have hby := Bd.bytes
  have hml : c.maxLocals = 6 := hml0
  have hown : s.vm.findClass "com/example/framer/framer/chunk/ChunkTypeOfPinLaw" = some m.cls := findClass_of_methodNamed Bd.named
  have hnm := (name_of_methodNamed Bd.named Bd.method).1
  have hlk : meth.locks = false := Bd.notSynchronized
  have X0 : Stand p l e room_1 s m #[(.int p0), (.int p1)] below meth c s₁ [] 0 0 := Stand.of_body Bd
  have e0 : s₁.heap = h0 := by rw [← hh, Bd.state]; rfl
  have N0 := Fr.nil n0
  have hret := Bd.returns
  show own_Go p e below s (Q0 Z p0 p1 ad_DATA ad_INIT ad_ACK ad_HEARTBEAT ad_HEARTBEAT_ACK ta h0 n0) _ _ (s₁.setTop (entryFrame m #[(.int p0), (.int p1)] maxLocals))
  refine own_go (fun t k => castTop (ef_0 m p0 p1) k) ?_
  show own_Go p e below s _ _ _ (s₁.setTop (mkF m 0 #[.val (.int p0), .val (.int p1), .unset, .unset, .unset, .unset] []))
  refine own_go (fun t_ kt_ => XS.iloadN X0.here hx rfl (hb hby at_0) rfl kt_) ?_
  show own_Go p e below s _ _ _ (s₁.setTop (mkF m 1 #[.val (.int p0), .val (.int p1), .unset, .unset, .unset, .unset] [(.int p1)]))
  refine own_go (fun t_ kt_ => XS.iconst X0.here hx rfl (hb hby at_1) kt_) ?_
  show own_Go p e below s _ _ _ (s₁.setTop (mkF m 2 #[.val (.int p0), .val (.int p1), .unset, .unset, .unset, .unset] [(.int (1 : Int32)), (.int p1)]))
  refine own_go (fun t_ kt_ => XS.iand X0.here hx rfl (hb hby at_2) rfl kt_) ?_
  show own_Go p e below s _ _ _ (s₁.setTop (mkF m 3 #[.val (.int p0), .val (.int p1), .unset, .unset, .unset, .unset] [(.int (p1 &&& (1 : Int32)))]))
  have J11 : ∀ (T1 : State) (locs1 : List Loc) (X1 : Stand p l e room_1 s m #[(.int p0), (.int p1)] below meth c T1 locs1 0 0) (e1 : T1.heap = h0) (N1 : Fr n0 locs1) (wz : Int32), own_Go p e below s (Q0 Z p0 p1 ad_DATA ad_INIT ad_ACK ad_HEARTBEAT ad_HEARTBEAT_ACK ta h0 n0) (room_1).cells (room_1).slots (T1.setTop (mkF m 11 #[.val (.int p0), .val (.int p1), .unset, .unset, .unset, .unset] [(.int wz)])) := by
    intro T1 locs1 X1 e1 N1 wz
    refine own_go (fun t_ kt_ => XS.istoreN X1.here hx rfl (hb hby at_11) rfl (l' := #[.val (.int p0), .val (.int p1), .val (.int wz), .unset, .unset, .unset]) rfl kt_) ?_
    show own_Go p e below s _ _ _ (T1.setTop (mkF m 12 #[.val (.int p0), .val (.int p1), .val (.int wz), .unset, .unset, .unset] []))
    refine own_go (fun t_ kt_ => XS.iloadN X1.here hx rfl (hb hby at_12) rfl kt_) ?_
    show own_Go p e below s _ _ _ (T1.setTop (mkF m 13 #[.val (.int p0), .val (.int p1), .val (.int wz), .unset, .unset, .unset] [(.int wz)]))
    have J24 : ∀ (T2 : State) (locs2 : List Loc) (X2 : Stand p l e room_1 s m #[(.int p0), (.int p1)] below meth c T2 locs2 0 0) (e2 : T2.heap = h0) (N2 : Fr n0 locs2) (cz : Int32), own_Go p e below s (Q0 Z p0 p1 ad_DATA ad_INIT ad_ACK ad_HEARTBEAT ad_HEARTBEAT_ACK ta h0 n0) (room_1).cells (room_1).slots (T2.setTop (mkF m 24 #[.val (.int p0), .val (.int p1), .val (.int wz), .unset, .unset, .unset] [(.int cz)])) := by
      intro T2 locs2 X2 e2 N2 cz
      refine own_go (fun t_ kt_ => XS.istoreN X2.here hx rfl (hb hby at_24) rfl (l' := #[.val (.int p0), .val (.int p1), .val (.int wz), .val (.int cz), .unset, .unset]) rfl kt_) ?_
      show own_Go p e below s _ _ _ (T2.setTop (mkF m 25 #[.val (.int p0), .val (.int p1), .val (.int wz), .val (.int cz), .unset, .unset] []))
      obtain ⟨cv, hcv⟩ : ∃ z, z = cz := ⟨_, rfl⟩
      rw [← hcv]
      show own_Go p e below s _ _ _ (T2.setTop (mkF m 25 #[.val (.int p0), .val (.int p1), .val (.int wz), .val (.int cv), .unset, .unset] []))
      rcases (by omega : cv.toInt = 0 ∨ cv.toInt = 1 ∨ cv.toInt = 3 ∨ cv.toInt = 4 ∨ cv.toInt = 5 ∨ (cv.toInt ≠ 0 ∧ cv.toInt ≠ 1 ∧ cv.toInt ≠ 3 ∧ cv.toInt ≠ 4 ∧ cv.toInt ≠ 5)) with hcv | hcv | hcv | hcv | hcv | hcv
      · skip
        have hE : own_exp cv.toInt ad_DATA ad_INIT ad_ACK ad_HEARTBEAT ad_HEARTBEAT_ACK = (.ref ad_DATA) := by unfold own_exp; repeat (first | rw [if_pos (by omega)] | rw [if_neg (by omega)])
        refine own_go (fun t_ kt_ => XS.iloadN X2.here hx rfl (hb hby at_25) rfl kt_) ?_
        show own_Go p e below s _ _ _ (T2.setTop (mkF m 26 #[.val (.int p0), .val (.int p1), .val (.int wz), .val (.int cv), .unset, .unset] [(.int cv)]))
        obtain ⟨_, _, ⟨T3, L3, k3, n3⟩, -, X3, ⟨Lc3, hQ3, l3, y3, z3⟩, st3⟩ := Jvm.LawKit.callS X2 hx (y := (⟨"com/example/framer/framer/chunk/ChunkTypeOfPinLaw", "expected", "(I)Lcom/example/framer/framer/chunk/ChunkType;"⟩ : MethodName)) hown (mvT hZ (hw _ (List.mem_of_getElem? (i := 0) rfl))) (mvT hZ (hw _ (List.mem_of_getElem? (i := 1) rfl))) (mvT hZ (hw _ (List.mem_of_getElem? (i := 2) rfl))) (mvT hZ (hw _ (List.mem_of_getElem? (i := 3) rfl))) (by decide) (backOf (W := 0) (rm1 l Z a0 hw [] (cv) (ad_DATA) (ad_INIT) (ad_ACK) (ad_HEARTBEAT) (ad_HEARTBEAT_ACK) h0 n0 Z0 S_DATA S_INIT S_ACK S_HEARTBEAT S_HEARTBEAT_ACK) hZ (hw _ (List.mem_of_getElem? (i := 3) rfl)) (hw _ (List.mem_of_getElem? (i := 2) rfl)) (by decide) (by decide)) (g := (mkF m 26 #[.val (.int p0), .val (.int p1), .val (.int wz), .val (.int cv), .unset, .unset] [(.int cv)])) rfl (by rw [hml]; rfl) (argsL := [(.int cv)]) (rest := []) (lenOf pd_0 rfl) rfl (by show 2 * 0 + _ ≤ _; exact Nat.le_of_eq rfl) (hb hby at_26) (fun _ _ => ⟨rfl, e2, (by decide : 0 + 0 ≤ _), (by decide : 0 + 0 ≤ _)⟩)
        dsimp only [Pt.U, Pt.locs, Pt.cells, Pt.slots] at X3 l3 y3 z3 st3 hQ3
        subst l3 y3 z3
        obtain ⟨hv3, Nq3, eh3⟩ := hQ3
        rw [hE] at hv3
        subst hv3
        have N3 := Fr.app N2 Nq3
        refine own_go (fun t_ kt_ => st3 _ kt_) ?_
        have e3 : T3.heap = h0 := eh3
        show own_Go p e below s _ _ _ (T3.setTop (mkF m 29 #[.val (.int p0), .val (.int p1), .val (.int wz), .val (.int cv), .unset, .unset] [(.ref ad_DATA)]))
        refine own_go (fun t_ kt_ => XS.astore X3.here hx rfl (hb hby at_29) rfl rfl (l' := #[.val (.int p0), .val (.int p1), .val (.int wz), .val (.int cv), .val (.ref ad_DATA), .unset]) rfl kt_) ?_
        show own_Go p e below s _ _ _ (T3.setTop (mkF m 31 #[.val (.int p0), .val (.int p1), .val (.int wz), .val (.int cv), .val (.ref ad_DATA), .unset] []))
        refine own_go (fun t_ kt_ => XS.iloadN X3.here hx rfl (hb hby at_31) rfl kt_) ?_
        show own_Go p e below s _ _ _ (T3.setTop (mkF m 32 #[.val (.int p0), .val (.int p1), .val (.int wz), .val (.int cv), .val (.ref ad_DATA), .unset] [(.int cv)]))
        obtain ⟨_, _, ⟨T4, L4, k4, n4⟩, -, X4, ⟨Lc4, hQ4, l4, y4, z4⟩, st4⟩ := Jvm.LawKit.callS X3 hx (y := (⟨"com/example/framer/framer/chunk/ChunkType", "of", "(I)Lcom/example/framer/framer/chunk/ChunkType;"⟩ : MethodName)) hown (mvT hZ (hw _ (List.mem_of_getElem? (i := 7) rfl))) (mvT hZ (hw _ (List.mem_of_getElem? (i := 8) rfl))) (mvT hZ (hw _ (List.mem_of_getElem? (i := 5) rfl))) (mvT hZ (hw _ (List.mem_of_getElem? (i := 9) rfl))) (by decide) (backOf (W := 0) (rm2 l Z a0 hw [] (cv) (ad_DATA) (ad_INIT) (ad_ACK) (ad_HEARTBEAT) (ad_HEARTBEAT_ACK) (ta) h0 n0 Z0 F_DATA F_INIT F_ACK F_HEARTBEAT F_HEARTBEAT_ACK AT ST) hZ (hw _ (List.mem_of_getElem? (i := 9) rfl)) (hw _ (List.mem_of_getElem? (i := 5) rfl)) (by decide) (by decide)) (g := (mkF m 32 #[.val (.int p0), .val (.int p1), .val (.int wz), .val (.int cv), .val (.ref ad_DATA), .unset] [(.int cv)])) rfl (by rw [hml]; rfl) (argsL := [(.int cv)]) (rest := []) (lenOf pd_0 rfl) rfl (by show 2 * 0 + _ ≤ _; exact Nat.le_of_eq rfl) (hb hby at_32) (fun _ _ => ⟨rfl, e3, (by decide : 0 + 0 ≤ _), (by decide : 0 + 0 ≤ _)⟩)
        dsimp only [Pt.U, Pt.locs, Pt.cells, Pt.slots] at X4 l4 y4 z4 st4 hQ4
        subst l4 y4 z4
        obtain ⟨hv4, Nq4, eh4⟩ := hQ4
        rw [hE] at hv4
        subst hv4
        have N4 := Fr.app N3 Nq4
        refine own_go (fun t_ kt_ => st4 _ kt_) ?_
        have e4 : T4.heap = h0 := eh4
        show own_Go p e below s _ _ _ (T4.setTop (mkF m 35 #[.val (.int p0), .val (.int p1), .val (.int wz), .val (.int cv), .val (.ref ad_DATA), .unset] [(.ref ad_DATA)]))
        refine own_go (fun t_ kt_ => XS.astore X4.here hx rfl (hb hby at_35) rfl rfl (l' := #[.val (.int p0), .val (.int p1), .val (.int wz), .val (.int cv), .val (.ref ad_DATA), .val (.ref ad_DATA)]) rfl kt_) ?_
        show own_Go p e below s _ _ _ (T4.setTop (mkF m 37 #[.val (.int p0), .val (.int p1), .val (.int wz), .val (.int cv), .val (.ref ad_DATA), .val (.ref ad_DATA)] []))
        refine own_go (fun t_ kt_ => XS.aload X4.here hx rfl (hb hby at_37) rfl rfl kt_) ?_
        show own_Go p e below s _ _ _ (T4.setTop (mkF m 39 #[.val (.int p0), .val (.int p1), .val (.int wz), .val (.int cv), .val (.ref ad_DATA), .val (.ref ad_DATA)] [(.ref ad_DATA)]))
        refine own_go (fun t_ kt_ => XS.aload X4.here hx rfl (hb hby at_39) rfl rfl kt_) ?_
        show own_Go p e below s _ _ _ (T4.setTop (mkF m 41 #[.val (.int p0), .val (.int p1), .val (.int wz), .val (.int cv), .val (.ref ad_DATA), .val (.ref ad_DATA)] [(.ref ad_DATA), (.ref ad_DATA)]))
        refine own_go (fun t_ kt_ => Jvm.RoadKit.acmp (g := (mkF m 41 #[.val (.int p0), .val (.int p1), .val (.int wz), .val (.int cv), .val (.ref ad_DATA), .val (.ref ad_DATA)] [(.ref ad_DATA), (.ref ad_DATA)])) X4 hx rfl rfl rfl (pc0 := 41) (pc' := 46) (same := true) rfl (hb hby at_41) rfl (decide_eq_true rfl) (by decide) (by decide) kt_) ?_
        show own_Go p e below s _ _ _ (T4.setTop (mkF m 46 #[.val (.int p0), .val (.int p1), .val (.int wz), .val (.int cv), .val (.ref ad_DATA), .val (.ref ad_DATA)] []))
        refine own_go (fun t_ kt_ => XS.aload X4.here hx rfl (hb hby at_46) rfl rfl kt_) ?_
        show own_Go p e below s _ _ _ (T4.setTop (mkF m 48 #[.val (.int p0), .val (.int p1), .val (.int wz), .val (.int cv), .val (.ref ad_DATA), .val (.ref ad_DATA)] [(.ref ad_DATA)]))
        refine own_go (fun t_ kt_ => XS.ifnullNo X4.here hx rfl (hb hby at_48) rfl kt_) ?_
        show own_Go p e below s _ _ _ (T4.setTop (mkF m 51 #[.val (.int p0), .val (.int p1), .val (.int wz), .val (.int cv), .val (.ref ad_DATA), .val (.ref ad_DATA)] []))
        refine own_go (fun t_ kt_ => XS.aload X4.here hx rfl (hb hby at_51) rfl rfl kt_) ?_
        show own_Go p e below s _ _ _ (T4.setTop (mkF m 53 #[.val (.int p0), .val (.int p1), .val (.int wz), .val (.int cv), .val (.ref ad_DATA), .val (.ref ad_DATA)] [(.ref ad_DATA)]))
        obtain ⟨cq5, kq5, q5a, q5b, q5c⟩ := isOf hZ e4 E_DATA
        obtain ⟨_, _, ⟨T5, L5, k5, n5⟩, -, X5, ⟨Lc5, hQ5, l5, y5, z5⟩, st5⟩ := X4.virtualBack hx (y := (⟨"com/example/framer/framer/chunk/ChunkType", "code", "()I"⟩ : MethodName)) (z := (⟨"com/example/framer/framer/chunk/ChunkType", "code", "()I"⟩ : MethodName)) hown (mvT hZ (hw _ (List.mem_of_getElem? (i := 14) rfl))) (mvT hZ (hw _ (List.mem_of_getElem? (i := 15) rfl))) (notFace_of_selects (args := #[]) (mvT hZ (hw _ (List.mem_of_getElem? (i := 17) rfl)))) (mvT hZ (hw _ (List.mem_of_getElem? (i := 17) rfl))) (mvT hZ (hw _ (List.mem_of_getElem? (i := 16) rfl))) (by decide) (backOf (W := 0) (rm3 l Z a0 hw [] (ad_DATA) ((0 : Int32)) h0 n0 Z0 F_DATA) hZ (hw _ (List.mem_of_getElem? (i := 18) rfl)) (hw _ (List.mem_of_getElem? (i := 5) rfl)) (by decide) (by decide)) q5a q5c (g := (mkF m 53 #[.val (.int p0), .val (.int p1), .val (.int wz), .val (.int cv), .val (.ref ad_DATA), .val (.ref ad_DATA)] [(.ref ad_DATA)])) rfl (by rw [hml]; rfl) (Steps.refl _) (argsL := []) (rest := []) (lenOf pd_1 rfl) rfl (by show 2 * 0 + _ ≤ _; exact Nat.le_of_eq rfl) (hb hby at_53) (fun _ _ => ⟨rfl, e4, (by decide : 0 + 0 ≤ _), (by decide : 0 + 0 ≤ _)⟩)
        dsimp only [Pt.U, Pt.locs, Pt.cells, Pt.slots] at X5 l5 y5 z5 st5 hQ5
        subst l5 y5 z5
        obtain ⟨rfl, Nq5, eh5⟩ := hQ5
        have N5 := Fr.app N4 Nq5
        refine own_go (fun t_ kt_ => st5.trans kt_) ?_
        have e5 : T5.heap = h0 := eh5
        show own_Go p e below s _ _ _ (T5.setTop (mkF m 56 #[.val (.int p0), .val (.int p1), .val (.int wz), .val (.int cv), .val (.ref ad_DATA), .val (.ref ad_DATA)] [(.int (0 : Int32))]))
        refine own_go (fun t_ kt_ => XS.iloadN X5.here hx rfl (hb hby at_56) rfl kt_) ?_
        show own_Go p e below s _ _ _ (T5.setTop (mkF m 57 #[.val (.int p0), .val (.int p1), .val (.int wz), .val (.int cv), .val (.ref ad_DATA), .val (.ref ad_DATA)] [(.int cv), (.int (0 : Int32))]))
        refine own_go (fun t_ kt_ => XS.icmpYes X5.here hx rfl (pc0 := 57) (pc' := 62) rfl (hb hby at_57) rfl (teq (Int32.toInt_inj.mp (by rw [hcv]; decide))).1 (by decide) (by decide) kt_) ?_
        show own_Go p e below s _ _ _ (T5.setTop (mkF m 62 #[.val (.int p0), .val (.int p1), .val (.int wz), .val (.int cv), .val (.ref ad_DATA), .val (.ref ad_DATA)] []))
        refine own_go (fun t_ kt_ => XS.iconst X5.here hx rfl (hb hby at_62) kt_) ?_
        show own_Go p e below s _ _ _ (T5.setTop (mkF m 63 #[.val (.int p0), .val (.int p1), .val (.int wz), .val (.int cv), .val (.ref ad_DATA), .val (.ref ad_DATA)] [(.int (1 : Int32))]))
        refine own_ret X5 (v := some (.int (1 : Int32))) (fun h => by rw [hret] at h; cases h) hlk ?_ (by decide) (by decide) (fun fs hr => retN X5 hx (t := .boolean) hret (by simp) (hb hby at_63) hr)
        show Q0 Z p0 p1 ad_DATA ad_INIT ad_ACK ad_HEARTBEAT ad_HEARTBEAT_ACK ta h0 n0 (some (.int (1 : Int32))) T5.heap _
        rw [e5]
        exact ⟨rfl, N5⟩
      · skip
        have hE : own_exp cv.toInt ad_DATA ad_INIT ad_ACK ad_HEARTBEAT ad_HEARTBEAT_ACK = (.ref ad_INIT) := by unfold own_exp; repeat (first | rw [if_pos (by omega)] | rw [if_neg (by omega)])
        refine own_go (fun t_ kt_ => XS.iloadN X2.here hx rfl (hb hby at_25) rfl kt_) ?_
        show own_Go p e below s _ _ _ (T2.setTop (mkF m 26 #[.val (.int p0), .val (.int p1), .val (.int wz), .val (.int cv), .unset, .unset] [(.int cv)]))
        obtain ⟨_, _, ⟨T6, L6, k6, n6⟩, -, X6, ⟨Lc6, hQ6, l6, y6, z6⟩, st6⟩ := Jvm.LawKit.callS X2 hx (y := (⟨"com/example/framer/framer/chunk/ChunkTypeOfPinLaw", "expected", "(I)Lcom/example/framer/framer/chunk/ChunkType;"⟩ : MethodName)) hown (mvT hZ (hw _ (List.mem_of_getElem? (i := 0) rfl))) (mvT hZ (hw _ (List.mem_of_getElem? (i := 1) rfl))) (mvT hZ (hw _ (List.mem_of_getElem? (i := 2) rfl))) (mvT hZ (hw _ (List.mem_of_getElem? (i := 3) rfl))) (by decide) (backOf (W := 0) (rm1 l Z a0 hw [] (cv) (ad_DATA) (ad_INIT) (ad_ACK) (ad_HEARTBEAT) (ad_HEARTBEAT_ACK) h0 n0 Z0 S_DATA S_INIT S_ACK S_HEARTBEAT S_HEARTBEAT_ACK) hZ (hw _ (List.mem_of_getElem? (i := 3) rfl)) (hw _ (List.mem_of_getElem? (i := 2) rfl)) (by decide) (by decide)) (g := (mkF m 26 #[.val (.int p0), .val (.int p1), .val (.int wz), .val (.int cv), .unset, .unset] [(.int cv)])) rfl (by rw [hml]; rfl) (argsL := [(.int cv)]) (rest := []) (lenOf pd_0 rfl) rfl (by show 2 * 0 + _ ≤ _; exact Nat.le_of_eq rfl) (hb hby at_26) (fun _ _ => ⟨rfl, e2, (by decide : 0 + 0 ≤ _), (by decide : 0 + 0 ≤ _)⟩)
        dsimp only [Pt.U, Pt.locs, Pt.cells, Pt.slots] at X6 l6 y6 z6 st6 hQ6
        subst l6 y6 z6
        obtain ⟨hv6, Nq6, eh6⟩ := hQ6
        rw [hE] at hv6
        subst hv6
        have N6 := Fr.app N2 Nq6
        refine own_go (fun t_ kt_ => st6 _ kt_) ?_
        have e6 : T6.heap = h0 := eh6
        show own_Go p e below s _ _ _ (T6.setTop (mkF m 29 #[.val (.int p0), .val (.int p1), .val (.int wz), .val (.int cv), .unset, .unset] [(.ref ad_INIT)]))
        refine own_go (fun t_ kt_ => XS.astore X6.here hx rfl (hb hby at_29) rfl rfl (l' := #[.val (.int p0), .val (.int p1), .val (.int wz), .val (.int cv), .val (.ref ad_INIT), .unset]) rfl kt_) ?_
        show own_Go p e below s _ _ _ (T6.setTop (mkF m 31 #[.val (.int p0), .val (.int p1), .val (.int wz), .val (.int cv), .val (.ref ad_INIT), .unset] []))
        refine own_go (fun t_ kt_ => XS.iloadN X6.here hx rfl (hb hby at_31) rfl kt_) ?_
        show own_Go p e below s _ _ _ (T6.setTop (mkF m 32 #[.val (.int p0), .val (.int p1), .val (.int wz), .val (.int cv), .val (.ref ad_INIT), .unset] [(.int cv)]))
        obtain ⟨_, _, ⟨T7, L7, k7, n7⟩, -, X7, ⟨Lc7, hQ7, l7, y7, z7⟩, st7⟩ := Jvm.LawKit.callS X6 hx (y := (⟨"com/example/framer/framer/chunk/ChunkType", "of", "(I)Lcom/example/framer/framer/chunk/ChunkType;"⟩ : MethodName)) hown (mvT hZ (hw _ (List.mem_of_getElem? (i := 7) rfl))) (mvT hZ (hw _ (List.mem_of_getElem? (i := 8) rfl))) (mvT hZ (hw _ (List.mem_of_getElem? (i := 5) rfl))) (mvT hZ (hw _ (List.mem_of_getElem? (i := 9) rfl))) (by decide) (backOf (W := 0) (rm2 l Z a0 hw [] (cv) (ad_DATA) (ad_INIT) (ad_ACK) (ad_HEARTBEAT) (ad_HEARTBEAT_ACK) (ta) h0 n0 Z0 F_DATA F_INIT F_ACK F_HEARTBEAT F_HEARTBEAT_ACK AT ST) hZ (hw _ (List.mem_of_getElem? (i := 9) rfl)) (hw _ (List.mem_of_getElem? (i := 5) rfl)) (by decide) (by decide)) (g := (mkF m 32 #[.val (.int p0), .val (.int p1), .val (.int wz), .val (.int cv), .val (.ref ad_INIT), .unset] [(.int cv)])) rfl (by rw [hml]; rfl) (argsL := [(.int cv)]) (rest := []) (lenOf pd_0 rfl) rfl (by show 2 * 0 + _ ≤ _; exact Nat.le_of_eq rfl) (hb hby at_32) (fun _ _ => ⟨rfl, e6, (by decide : 0 + 0 ≤ _), (by decide : 0 + 0 ≤ _)⟩)
        dsimp only [Pt.U, Pt.locs, Pt.cells, Pt.slots] at X7 l7 y7 z7 st7 hQ7
        subst l7 y7 z7
        obtain ⟨hv7, Nq7, eh7⟩ := hQ7
        rw [hE] at hv7
        subst hv7
        have N7 := Fr.app N6 Nq7
        refine own_go (fun t_ kt_ => st7 _ kt_) ?_
        have e7 : T7.heap = h0 := eh7
        show own_Go p e below s _ _ _ (T7.setTop (mkF m 35 #[.val (.int p0), .val (.int p1), .val (.int wz), .val (.int cv), .val (.ref ad_INIT), .unset] [(.ref ad_INIT)]))
        refine own_go (fun t_ kt_ => XS.astore X7.here hx rfl (hb hby at_35) rfl rfl (l' := #[.val (.int p0), .val (.int p1), .val (.int wz), .val (.int cv), .val (.ref ad_INIT), .val (.ref ad_INIT)]) rfl kt_) ?_
        show own_Go p e below s _ _ _ (T7.setTop (mkF m 37 #[.val (.int p0), .val (.int p1), .val (.int wz), .val (.int cv), .val (.ref ad_INIT), .val (.ref ad_INIT)] []))
        refine own_go (fun t_ kt_ => XS.aload X7.here hx rfl (hb hby at_37) rfl rfl kt_) ?_
        show own_Go p e below s _ _ _ (T7.setTop (mkF m 39 #[.val (.int p0), .val (.int p1), .val (.int wz), .val (.int cv), .val (.ref ad_INIT), .val (.ref ad_INIT)] [(.ref ad_INIT)]))
        refine own_go (fun t_ kt_ => XS.aload X7.here hx rfl (hb hby at_39) rfl rfl kt_) ?_
        show own_Go p e below s _ _ _ (T7.setTop (mkF m 41 #[.val (.int p0), .val (.int p1), .val (.int wz), .val (.int cv), .val (.ref ad_INIT), .val (.ref ad_INIT)] [(.ref ad_INIT), (.ref ad_INIT)]))
        refine own_go (fun t_ kt_ => Jvm.RoadKit.acmp (g := (mkF m 41 #[.val (.int p0), .val (.int p1), .val (.int wz), .val (.int cv), .val (.ref ad_INIT), .val (.ref ad_INIT)] [(.ref ad_INIT), (.ref ad_INIT)])) X7 hx rfl rfl rfl (pc0 := 41) (pc' := 46) (same := true) rfl (hb hby at_41) rfl (decide_eq_true rfl) (by decide) (by decide) kt_) ?_
        show own_Go p e below s _ _ _ (T7.setTop (mkF m 46 #[.val (.int p0), .val (.int p1), .val (.int wz), .val (.int cv), .val (.ref ad_INIT), .val (.ref ad_INIT)] []))
        refine own_go (fun t_ kt_ => XS.aload X7.here hx rfl (hb hby at_46) rfl rfl kt_) ?_
        show own_Go p e below s _ _ _ (T7.setTop (mkF m 48 #[.val (.int p0), .val (.int p1), .val (.int wz), .val (.int cv), .val (.ref ad_INIT), .val (.ref ad_INIT)] [(.ref ad_INIT)]))
        refine own_go (fun t_ kt_ => XS.ifnullNo X7.here hx rfl (hb hby at_48) rfl kt_) ?_
        show own_Go p e below s _ _ _ (T7.setTop (mkF m 51 #[.val (.int p0), .val (.int p1), .val (.int wz), .val (.int cv), .val (.ref ad_INIT), .val (.ref ad_INIT)] []))
        refine own_go (fun t_ kt_ => XS.aload X7.here hx rfl (hb hby at_51) rfl rfl kt_) ?_
        show own_Go p e below s _ _ _ (T7.setTop (mkF m 53 #[.val (.int p0), .val (.int p1), .val (.int wz), .val (.int cv), .val (.ref ad_INIT), .val (.ref ad_INIT)] [(.ref ad_INIT)]))
        obtain ⟨cq8, kq8, q8a, q8b, q8c⟩ := isOf hZ e7 E_INIT
        obtain ⟨_, _, ⟨T8, L8, k8, n8⟩, -, X8, ⟨Lc8, hQ8, l8, y8, z8⟩, st8⟩ := X7.virtualBack hx (y := (⟨"com/example/framer/framer/chunk/ChunkType", "code", "()I"⟩ : MethodName)) (z := (⟨"com/example/framer/framer/chunk/ChunkType", "code", "()I"⟩ : MethodName)) hown (mvT hZ (hw _ (List.mem_of_getElem? (i := 14) rfl))) (mvT hZ (hw _ (List.mem_of_getElem? (i := 15) rfl))) (notFace_of_selects (args := #[]) (mvT hZ (hw _ (List.mem_of_getElem? (i := 17) rfl)))) (mvT hZ (hw _ (List.mem_of_getElem? (i := 17) rfl))) (mvT hZ (hw _ (List.mem_of_getElem? (i := 16) rfl))) (by decide) (backOf (W := 0) (rm3 l Z a0 hw [] (ad_INIT) ((1 : Int32)) h0 n0 Z0 F_INIT) hZ (hw _ (List.mem_of_getElem? (i := 18) rfl)) (hw _ (List.mem_of_getElem? (i := 5) rfl)) (by decide) (by decide)) q8a q8c (g := (mkF m 53 #[.val (.int p0), .val (.int p1), .val (.int wz), .val (.int cv), .val (.ref ad_INIT), .val (.ref ad_INIT)] [(.ref ad_INIT)])) rfl (by rw [hml]; rfl) (Steps.refl _) (argsL := []) (rest := []) (lenOf pd_1 rfl) rfl (by show 2 * 0 + _ ≤ _; exact Nat.le_of_eq rfl) (hb hby at_53) (fun _ _ => ⟨rfl, e7, (by decide : 0 + 0 ≤ _), (by decide : 0 + 0 ≤ _)⟩)
        dsimp only [Pt.U, Pt.locs, Pt.cells, Pt.slots] at X8 l8 y8 z8 st8 hQ8
        subst l8 y8 z8
        obtain ⟨rfl, Nq8, eh8⟩ := hQ8
        have N8 := Fr.app N7 Nq8
        refine own_go (fun t_ kt_ => st8.trans kt_) ?_
        have e8 : T8.heap = h0 := eh8
        show own_Go p e below s _ _ _ (T8.setTop (mkF m 56 #[.val (.int p0), .val (.int p1), .val (.int wz), .val (.int cv), .val (.ref ad_INIT), .val (.ref ad_INIT)] [(.int (1 : Int32))]))
        refine own_go (fun t_ kt_ => XS.iloadN X8.here hx rfl (hb hby at_56) rfl kt_) ?_
        show own_Go p e below s _ _ _ (T8.setTop (mkF m 57 #[.val (.int p0), .val (.int p1), .val (.int wz), .val (.int cv), .val (.ref ad_INIT), .val (.ref ad_INIT)] [(.int cv), (.int (1 : Int32))]))
        refine own_go (fun t_ kt_ => XS.icmpYes X8.here hx rfl (pc0 := 57) (pc' := 62) rfl (hb hby at_57) rfl (teq (Int32.toInt_inj.mp (by rw [hcv]; decide))).1 (by decide) (by decide) kt_) ?_
        show own_Go p e below s _ _ _ (T8.setTop (mkF m 62 #[.val (.int p0), .val (.int p1), .val (.int wz), .val (.int cv), .val (.ref ad_INIT), .val (.ref ad_INIT)] []))
        refine own_go (fun t_ kt_ => XS.iconst X8.here hx rfl (hb hby at_62) kt_) ?_
        show own_Go p e below s _ _ _ (T8.setTop (mkF m 63 #[.val (.int p0), .val (.int p1), .val (.int wz), .val (.int cv), .val (.ref ad_INIT), .val (.ref ad_INIT)] [(.int (1 : Int32))]))
        refine own_ret X8 (v := some (.int (1 : Int32))) (fun h => by rw [hret] at h; cases h) hlk ?_ (by decide) (by decide) (fun fs hr => retN X8 hx (t := .boolean) hret (by simp) (hb hby at_63) hr)
        show Q0 Z p0 p1 ad_DATA ad_INIT ad_ACK ad_HEARTBEAT ad_HEARTBEAT_ACK ta h0 n0 (some (.int (1 : Int32))) T8.heap _
        rw [e8]
        exact ⟨rfl, N8⟩
      · skip
        have hE : own_exp cv.toInt ad_DATA ad_INIT ad_ACK ad_HEARTBEAT ad_HEARTBEAT_ACK = (.ref ad_ACK) := by unfold own_exp; repeat (first | rw [if_pos (by omega)] | rw [if_neg (by omega)])
        refine own_go (fun t_ kt_ => XS.iloadN X2.here hx rfl (hb hby at_25) rfl kt_) ?_
        show own_Go p e below s _ _ _ (T2.setTop (mkF m 26 #[.val (.int p0), .val (.int p1), .val (.int wz), .val (.int cv), .unset, .unset] [(.int cv)]))
        obtain ⟨_, _, ⟨T9, L9, k9, n9⟩, -, X9, ⟨Lc9, hQ9, l9, y9, z9⟩, st9⟩ := Jvm.LawKit.callS X2 hx (y := (⟨"com/example/framer/framer/chunk/ChunkTypeOfPinLaw", "expected", "(I)Lcom/example/framer/framer/chunk/ChunkType;"⟩ : MethodName)) hown (mvT hZ (hw _ (List.mem_of_getElem? (i := 0) rfl))) (mvT hZ (hw _ (List.mem_of_getElem? (i := 1) rfl))) (mvT hZ (hw _ (List.mem_of_getElem? (i := 2) rfl))) (mvT hZ (hw _ (List.mem_of_getElem? (i := 3) rfl))) (by decide) (backOf (W := 0) (rm1 l Z a0 hw [] (cv) (ad_DATA) (ad_INIT) (ad_ACK) (ad_HEARTBEAT) (ad_HEARTBEAT_ACK) h0 n0 Z0 S_DATA S_INIT S_ACK S_HEARTBEAT S_HEARTBEAT_ACK) hZ (hw _ (List.mem_of_getElem? (i := 3) rfl)) (hw _ (List.mem_of_getElem? (i := 2) rfl)) (by decide) (by decide)) (g := (mkF m 26 #[.val (.int p0), .val (.int p1), .val (.int wz), .val (.int cv), .unset, .unset] [(.int cv)])) rfl (by rw [hml]; rfl) (argsL := [(.int cv)]) (rest := []) (lenOf pd_0 rfl) rfl (by show 2 * 0 + _ ≤ _; exact Nat.le_of_eq rfl) (hb hby at_26) (fun _ _ => ⟨rfl, e2, (by decide : 0 + 0 ≤ _), (by decide : 0 + 0 ≤ _)⟩)
        dsimp only [Pt.U, Pt.locs, Pt.cells, Pt.slots] at X9 l9 y9 z9 st9 hQ9
        subst l9 y9 z9
        obtain ⟨hv9, Nq9, eh9⟩ := hQ9
        rw [hE] at hv9
        subst hv9
        have N9 := Fr.app N2 Nq9
        refine own_go (fun t_ kt_ => st9 _ kt_) ?_
        have e9 : T9.heap = h0 := eh9
        show own_Go p e below s _ _ _ (T9.setTop (mkF m 29 #[.val (.int p0), .val (.int p1), .val (.int wz), .val (.int cv), .unset, .unset] [(.ref ad_ACK)]))
        refine own_go (fun t_ kt_ => XS.astore X9.here hx rfl (hb hby at_29) rfl rfl (l' := #[.val (.int p0), .val (.int p1), .val (.int wz), .val (.int cv), .val (.ref ad_ACK), .unset]) rfl kt_) ?_
        show own_Go p e below s _ _ _ (T9.setTop (mkF m 31 #[.val (.int p0), .val (.int p1), .val (.int wz), .val (.int cv), .val (.ref ad_ACK), .unset] []))
        refine own_go (fun t_ kt_ => XS.iloadN X9.here hx rfl (hb hby at_31) rfl kt_) ?_
        show own_Go p e below s _ _ _ (T9.setTop (mkF m 32 #[.val (.int p0), .val (.int p1), .val (.int wz), .val (.int cv), .val (.ref ad_ACK), .unset] [(.int cv)]))
        obtain ⟨_, _, ⟨T10, L10, k10, n10⟩, -, X10, ⟨Lc10, hQ10, l10, y10, z10⟩, st10⟩ := Jvm.LawKit.callS X9 hx (y := (⟨"com/example/framer/framer/chunk/ChunkType", "of", "(I)Lcom/example/framer/framer/chunk/ChunkType;"⟩ : MethodName)) hown (mvT hZ (hw _ (List.mem_of_getElem? (i := 7) rfl))) (mvT hZ (hw _ (List.mem_of_getElem? (i := 8) rfl))) (mvT hZ (hw _ (List.mem_of_getElem? (i := 5) rfl))) (mvT hZ (hw _ (List.mem_of_getElem? (i := 9) rfl))) (by decide) (backOf (W := 0) (rm2 l Z a0 hw [] (cv) (ad_DATA) (ad_INIT) (ad_ACK) (ad_HEARTBEAT) (ad_HEARTBEAT_ACK) (ta) h0 n0 Z0 F_DATA F_INIT F_ACK F_HEARTBEAT F_HEARTBEAT_ACK AT ST) hZ (hw _ (List.mem_of_getElem? (i := 9) rfl)) (hw _ (List.mem_of_getElem? (i := 5) rfl)) (by decide) (by decide)) (g := (mkF m 32 #[.val (.int p0), .val (.int p1), .val (.int wz), .val (.int cv), .val (.ref ad_ACK), .unset] [(.int cv)])) rfl (by rw [hml]; rfl) (argsL := [(.int cv)]) (rest := []) (lenOf pd_0 rfl) rfl (by show 2 * 0 + _ ≤ _; exact Nat.le_of_eq rfl) (hb hby at_32) (fun _ _ => ⟨rfl, e9, (by decide : 0 + 0 ≤ _), (by decide : 0 + 0 ≤ _)⟩)
        dsimp only [Pt.U, Pt.locs, Pt.cells, Pt.slots] at X10 l10 y10 z10 st10 hQ10
        subst l10 y10 z10
        obtain ⟨hv10, Nq10, eh10⟩ := hQ10
        rw [hE] at hv10
        subst hv10
        have N10 := Fr.app N9 Nq10
        refine own_go (fun t_ kt_ => st10 _ kt_) ?_
        have e10 : T10.heap = h0 := eh10
        show own_Go p e below s _ _ _ (T10.setTop (mkF m 35 #[.val (.int p0), .val (.int p1), .val (.int wz), .val (.int cv), .val (.ref ad_ACK), .unset] [(.ref ad_ACK)]))
        refine own_go (fun t_ kt_ => XS.astore X10.here hx rfl (hb hby at_35) rfl rfl (l' := #[.val (.int p0), .val (.int p1), .val (.int wz), .val (.int cv), .val (.ref ad_ACK), .val (.ref ad_ACK)]) rfl kt_) ?_
        show own_Go p e below s _ _ _ (T10.setTop (mkF m 37 #[.val (.int p0), .val (.int p1), .val (.int wz), .val (.int cv), .val (.ref ad_ACK), .val (.ref ad_ACK)] []))
        refine own_go (fun t_ kt_ => XS.aload X10.here hx rfl (hb hby at_37) rfl rfl kt_) ?_
        show own_Go p e below s _ _ _ (T10.setTop (mkF m 39 #[.val (.int p0), .val (.int p1), .val (.int wz), .val (.int cv), .val (.ref ad_ACK), .val (.ref ad_ACK)] [(.ref ad_ACK)]))
        refine own_go (fun t_ kt_ => XS.aload X10.here hx rfl (hb hby at_39) rfl rfl kt_) ?_
        show own_Go p e below s _ _ _ (T10.setTop (mkF m 41 #[.val (.int p0), .val (.int p1), .val (.int wz), .val (.int cv), .val (.ref ad_ACK), .val (.ref ad_ACK)] [(.ref ad_ACK), (.ref ad_ACK)]))
        refine own_go (fun t_ kt_ => Jvm.RoadKit.acmp (g := (mkF m 41 #[.val (.int p0), .val (.int p1), .val (.int wz), .val (.int cv), .val (.ref ad_ACK), .val (.ref ad_ACK)] [(.ref ad_ACK), (.ref ad_ACK)])) X10 hx rfl rfl rfl (pc0 := 41) (pc' := 46) (same := true) rfl (hb hby at_41) rfl (decide_eq_true rfl) (by decide) (by decide) kt_) ?_
        show own_Go p e below s _ _ _ (T10.setTop (mkF m 46 #[.val (.int p0), .val (.int p1), .val (.int wz), .val (.int cv), .val (.ref ad_ACK), .val (.ref ad_ACK)] []))
        refine own_go (fun t_ kt_ => XS.aload X10.here hx rfl (hb hby at_46) rfl rfl kt_) ?_
        show own_Go p e below s _ _ _ (T10.setTop (mkF m 48 #[.val (.int p0), .val (.int p1), .val (.int wz), .val (.int cv), .val (.ref ad_ACK), .val (.ref ad_ACK)] [(.ref ad_ACK)]))
        refine own_go (fun t_ kt_ => XS.ifnullNo X10.here hx rfl (hb hby at_48) rfl kt_) ?_
        show own_Go p e below s _ _ _ (T10.setTop (mkF m 51 #[.val (.int p0), .val (.int p1), .val (.int wz), .val (.int cv), .val (.ref ad_ACK), .val (.ref ad_ACK)] []))
        refine own_go (fun t_ kt_ => XS.aload X10.here hx rfl (hb hby at_51) rfl rfl kt_) ?_
        show own_Go p e below s _ _ _ (T10.setTop (mkF m 53 #[.val (.int p0), .val (.int p1), .val (.int wz), .val (.int cv), .val (.ref ad_ACK), .val (.ref ad_ACK)] [(.ref ad_ACK)]))
        obtain ⟨cq11, kq11, q11a, q11b, q11c⟩ := isOf hZ e10 E_ACK
        obtain ⟨_, _, ⟨T11, L11, k11, n11⟩, -, X11, ⟨Lc11, hQ11, l11, y11, z11⟩, st11⟩ := X10.virtualBack hx (y := (⟨"com/example/framer/framer/chunk/ChunkType", "code", "()I"⟩ : MethodName)) (z := (⟨"com/example/framer/framer/chunk/ChunkType", "code", "()I"⟩ : MethodName)) hown (mvT hZ (hw _ (List.mem_of_getElem? (i := 14) rfl))) (mvT hZ (hw _ (List.mem_of_getElem? (i := 15) rfl))) (notFace_of_selects (args := #[]) (mvT hZ (hw _ (List.mem_of_getElem? (i := 17) rfl)))) (mvT hZ (hw _ (List.mem_of_getElem? (i := 17) rfl))) (mvT hZ (hw _ (List.mem_of_getElem? (i := 16) rfl))) (by decide) (backOf (W := 0) (rm3 l Z a0 hw [] (ad_ACK) ((3 : Int32)) h0 n0 Z0 F_ACK) hZ (hw _ (List.mem_of_getElem? (i := 18) rfl)) (hw _ (List.mem_of_getElem? (i := 5) rfl)) (by decide) (by decide)) q11a q11c (g := (mkF m 53 #[.val (.int p0), .val (.int p1), .val (.int wz), .val (.int cv), .val (.ref ad_ACK), .val (.ref ad_ACK)] [(.ref ad_ACK)])) rfl (by rw [hml]; rfl) (Steps.refl _) (argsL := []) (rest := []) (lenOf pd_1 rfl) rfl (by show 2 * 0 + _ ≤ _; exact Nat.le_of_eq rfl) (hb hby at_53) (fun _ _ => ⟨rfl, e10, (by decide : 0 + 0 ≤ _), (by decide : 0 + 0 ≤ _)⟩)
        dsimp only [Pt.U, Pt.locs, Pt.cells, Pt.slots] at X11 l11 y11 z11 st11 hQ11
        subst l11 y11 z11
        obtain ⟨rfl, Nq11, eh11⟩ := hQ11
        have N11 := Fr.app N10 Nq11
        refine own_go (fun t_ kt_ => st11.trans kt_) ?_
        have e11 : T11.heap = h0 := eh11
        show own_Go p e below s _ _ _ (T11.setTop (mkF m 56 #[.val (.int p0), .val (.int p1), .val (.int wz), .val (.int cv), .val (.ref ad_ACK), .val (.ref ad_ACK)] [(.int (3 : Int32))]))
        refine own_go (fun t_ kt_ => XS.iloadN X11.here hx rfl (hb hby at_56) rfl kt_) ?_
        show own_Go p e below s _ _ _ (T11.setTop (mkF m 57 #[.val (.int p0), .val (.int p1), .val (.int wz), .val (.int cv), .val (.ref ad_ACK), .val (.ref ad_ACK)] [(.int cv), (.int (3 : Int32))]))
        refine own_go (fun t_ kt_ => XS.icmpYes X11.here hx rfl (pc0 := 57) (pc' := 62) rfl (hb hby at_57) rfl (teq (Int32.toInt_inj.mp (by rw [hcv]; decide))).1 (by decide) (by decide) kt_) ?_
        show own_Go p e below s _ _ _ (T11.setTop (mkF m 62 #[.val (.int p0), .val (.int p1), .val (.int wz), .val (.int cv), .val (.ref ad_ACK), .val (.ref ad_ACK)] []))
        refine own_go (fun t_ kt_ => XS.iconst X11.here hx rfl (hb hby at_62) kt_) ?_
        show own_Go p e below s _ _ _ (T11.setTop (mkF m 63 #[.val (.int p0), .val (.int p1), .val (.int wz), .val (.int cv), .val (.ref ad_ACK), .val (.ref ad_ACK)] [(.int (1 : Int32))]))
        refine own_ret X11 (v := some (.int (1 : Int32))) (fun h => by rw [hret] at h; cases h) hlk ?_ (by decide) (by decide) (fun fs hr => retN X11 hx (t := .boolean) hret (by simp) (hb hby at_63) hr)
        show Q0 Z p0 p1 ad_DATA ad_INIT ad_ACK ad_HEARTBEAT ad_HEARTBEAT_ACK ta h0 n0 (some (.int (1 : Int32))) T11.heap _
        rw [e11]
        exact ⟨rfl, N11⟩
      · skip
        have hE : own_exp cv.toInt ad_DATA ad_INIT ad_ACK ad_HEARTBEAT ad_HEARTBEAT_ACK = (.ref ad_HEARTBEAT) := by unfold own_exp; repeat (first | rw [if_pos (by omega)] | rw [if_neg (by omega)])
        refine own_go (fun t_ kt_ => XS.iloadN X2.here hx rfl (hb hby at_25) rfl kt_) ?_
        show own_Go p e below s _ _ _ (T2.setTop (mkF m 26 #[.val (.int p0), .val (.int p1), .val (.int wz), .val (.int cv), .unset, .unset] [(.int cv)]))
        obtain ⟨_, _, ⟨T12, L12, k12, n12⟩, -, X12, ⟨Lc12, hQ12, l12, y12, z12⟩, st12⟩ := Jvm.LawKit.callS X2 hx (y := (⟨"com/example/framer/framer/chunk/ChunkTypeOfPinLaw", "expected", "(I)Lcom/example/framer/framer/chunk/ChunkType;"⟩ : MethodName)) hown (mvT hZ (hw _ (List.mem_of_getElem? (i := 0) rfl))) (mvT hZ (hw _ (List.mem_of_getElem? (i := 1) rfl))) (mvT hZ (hw _ (List.mem_of_getElem? (i := 2) rfl))) (mvT hZ (hw _ (List.mem_of_getElem? (i := 3) rfl))) (by decide) (backOf (W := 0) (rm1 l Z a0 hw [] (cv) (ad_DATA) (ad_INIT) (ad_ACK) (ad_HEARTBEAT) (ad_HEARTBEAT_ACK) h0 n0 Z0 S_DATA S_INIT S_ACK S_HEARTBEAT S_HEARTBEAT_ACK) hZ (hw _ (List.mem_of_getElem? (i := 3) rfl)) (hw _ (List.mem_of_getElem? (i := 2) rfl)) (by decide) (by decide)) (g := (mkF m 26 #[.val (.int p0), .val (.int p1), .val (.int wz), .val (.int cv), .unset, .unset] [(.int cv)])) rfl (by rw [hml]; rfl) (argsL := [(.int cv)]) (rest := []) (lenOf pd_0 rfl) rfl (by show 2 * 0 + _ ≤ _; exact Nat.le_of_eq rfl) (hb hby at_26) (fun _ _ => ⟨rfl, e2, (by decide : 0 + 0 ≤ _), (by decide : 0 + 0 ≤ _)⟩)
        dsimp only [Pt.U, Pt.locs, Pt.cells, Pt.slots] at X12 l12 y12 z12 st12 hQ12
        subst l12 y12 z12
        obtain ⟨hv12, Nq12, eh12⟩ := hQ12
        rw [hE] at hv12
        subst hv12
        have N12 := Fr.app N2 Nq12
        refine own_go (fun t_ kt_ => st12 _ kt_) ?_
        have e12 : T12.heap = h0 := eh12
        show own_Go p e below s _ _ _ (T12.setTop (mkF m 29 #[.val (.int p0), .val (.int p1), .val (.int wz), .val (.int cv), .unset, .unset] [(.ref ad_HEARTBEAT)]))
        refine own_go (fun t_ kt_ => XS.astore X12.here hx rfl (hb hby at_29) rfl rfl (l' := #[.val (.int p0), .val (.int p1), .val (.int wz), .val (.int cv), .val (.ref ad_HEARTBEAT), .unset]) rfl kt_) ?_
        show own_Go p e below s _ _ _ (T12.setTop (mkF m 31 #[.val (.int p0), .val (.int p1), .val (.int wz), .val (.int cv), .val (.ref ad_HEARTBEAT), .unset] []))
        refine own_go (fun t_ kt_ => XS.iloadN X12.here hx rfl (hb hby at_31) rfl kt_) ?_
        show own_Go p e below s _ _ _ (T12.setTop (mkF m 32 #[.val (.int p0), .val (.int p1), .val (.int wz), .val (.int cv), .val (.ref ad_HEARTBEAT), .unset] [(.int cv)]))
        obtain ⟨_, _, ⟨T13, L13, k13, n13⟩, -, X13, ⟨Lc13, hQ13, l13, y13, z13⟩, st13⟩ := Jvm.LawKit.callS X12 hx (y := (⟨"com/example/framer/framer/chunk/ChunkType", "of", "(I)Lcom/example/framer/framer/chunk/ChunkType;"⟩ : MethodName)) hown (mvT hZ (hw _ (List.mem_of_getElem? (i := 7) rfl))) (mvT hZ (hw _ (List.mem_of_getElem? (i := 8) rfl))) (mvT hZ (hw _ (List.mem_of_getElem? (i := 5) rfl))) (mvT hZ (hw _ (List.mem_of_getElem? (i := 9) rfl))) (by decide) (backOf (W := 0) (rm2 l Z a0 hw [] (cv) (ad_DATA) (ad_INIT) (ad_ACK) (ad_HEARTBEAT) (ad_HEARTBEAT_ACK) (ta) h0 n0 Z0 F_DATA F_INIT F_ACK F_HEARTBEAT F_HEARTBEAT_ACK AT ST) hZ (hw _ (List.mem_of_getElem? (i := 9) rfl)) (hw _ (List.mem_of_getElem? (i := 5) rfl)) (by decide) (by decide)) (g := (mkF m 32 #[.val (.int p0), .val (.int p1), .val (.int wz), .val (.int cv), .val (.ref ad_HEARTBEAT), .unset] [(.int cv)])) rfl (by rw [hml]; rfl) (argsL := [(.int cv)]) (rest := []) (lenOf pd_0 rfl) rfl (by show 2 * 0 + _ ≤ _; exact Nat.le_of_eq rfl) (hb hby at_32) (fun _ _ => ⟨rfl, e12, (by decide : 0 + 0 ≤ _), (by decide : 0 + 0 ≤ _)⟩)
        dsimp only [Pt.U, Pt.locs, Pt.cells, Pt.slots] at X13 l13 y13 z13 st13 hQ13
        subst l13 y13 z13
        obtain ⟨hv13, Nq13, eh13⟩ := hQ13
        rw [hE] at hv13
        subst hv13
        have N13 := Fr.app N12 Nq13
        refine own_go (fun t_ kt_ => st13 _ kt_) ?_
        have e13 : T13.heap = h0 := eh13
        show own_Go p e below s _ _ _ (T13.setTop (mkF m 35 #[.val (.int p0), .val (.int p1), .val (.int wz), .val (.int cv), .val (.ref ad_HEARTBEAT), .unset] [(.ref ad_HEARTBEAT)]))
        refine own_go (fun t_ kt_ => XS.astore X13.here hx rfl (hb hby at_35) rfl rfl (l' := #[.val (.int p0), .val (.int p1), .val (.int wz), .val (.int cv), .val (.ref ad_HEARTBEAT), .val (.ref ad_HEARTBEAT)]) rfl kt_) ?_
        show own_Go p e below s _ _ _ (T13.setTop (mkF m 37 #[.val (.int p0), .val (.int p1), .val (.int wz), .val (.int cv), .val (.ref ad_HEARTBEAT), .val (.ref ad_HEARTBEAT)] []))
        refine own_go (fun t_ kt_ => XS.aload X13.here hx rfl (hb hby at_37) rfl rfl kt_) ?_
        show own_Go p e below s _ _ _ (T13.setTop (mkF m 39 #[.val (.int p0), .val (.int p1), .val (.int wz), .val (.int cv), .val (.ref ad_HEARTBEAT), .val (.ref ad_HEARTBEAT)] [(.ref ad_HEARTBEAT)]))
        refine own_go (fun t_ kt_ => XS.aload X13.here hx rfl (hb hby at_39) rfl rfl kt_) ?_
        show own_Go p e below s _ _ _ (T13.setTop (mkF m 41 #[.val (.int p0), .val (.int p1), .val (.int wz), .val (.int cv), .val (.ref ad_HEARTBEAT), .val (.ref ad_HEARTBEAT)] [(.ref ad_HEARTBEAT), (.ref ad_HEARTBEAT)]))
        refine own_go (fun t_ kt_ => Jvm.RoadKit.acmp (g := (mkF m 41 #[.val (.int p0), .val (.int p1), .val (.int wz), .val (.int cv), .val (.ref ad_HEARTBEAT), .val (.ref ad_HEARTBEAT)] [(.ref ad_HEARTBEAT), (.ref ad_HEARTBEAT)])) X13 hx rfl rfl rfl (pc0 := 41) (pc' := 46) (same := true) rfl (hb hby at_41) rfl (decide_eq_true rfl) (by decide) (by decide) kt_) ?_
        show own_Go p e below s _ _ _ (T13.setTop (mkF m 46 #[.val (.int p0), .val (.int p1), .val (.int wz), .val (.int cv), .val (.ref ad_HEARTBEAT), .val (.ref ad_HEARTBEAT)] []))
        refine own_go (fun t_ kt_ => XS.aload X13.here hx rfl (hb hby at_46) rfl rfl kt_) ?_
        show own_Go p e below s _ _ _ (T13.setTop (mkF m 48 #[.val (.int p0), .val (.int p1), .val (.int wz), .val (.int cv), .val (.ref ad_HEARTBEAT), .val (.ref ad_HEARTBEAT)] [(.ref ad_HEARTBEAT)]))
        refine own_go (fun t_ kt_ => XS.ifnullNo X13.here hx rfl (hb hby at_48) rfl kt_) ?_
        show own_Go p e below s _ _ _ (T13.setTop (mkF m 51 #[.val (.int p0), .val (.int p1), .val (.int wz), .val (.int cv), .val (.ref ad_HEARTBEAT), .val (.ref ad_HEARTBEAT)] []))
        refine own_go (fun t_ kt_ => XS.aload X13.here hx rfl (hb hby at_51) rfl rfl kt_) ?_
        show own_Go p e below s _ _ _ (T13.setTop (mkF m 53 #[.val (.int p0), .val (.int p1), .val (.int wz), .val (.int cv), .val (.ref ad_HEARTBEAT), .val (.ref ad_HEARTBEAT)] [(.ref ad_HEARTBEAT)]))
        obtain ⟨cq14, kq14, q14a, q14b, q14c⟩ := isOf hZ e13 E_HEARTBEAT
        obtain ⟨_, _, ⟨T14, L14, k14, n14⟩, -, X14, ⟨Lc14, hQ14, l14, y14, z14⟩, st14⟩ := X13.virtualBack hx (y := (⟨"com/example/framer/framer/chunk/ChunkType", "code", "()I"⟩ : MethodName)) (z := (⟨"com/example/framer/framer/chunk/ChunkType", "code", "()I"⟩ : MethodName)) hown (mvT hZ (hw _ (List.mem_of_getElem? (i := 14) rfl))) (mvT hZ (hw _ (List.mem_of_getElem? (i := 15) rfl))) (notFace_of_selects (args := #[]) (mvT hZ (hw _ (List.mem_of_getElem? (i := 17) rfl)))) (mvT hZ (hw _ (List.mem_of_getElem? (i := 17) rfl))) (mvT hZ (hw _ (List.mem_of_getElem? (i := 16) rfl))) (by decide) (backOf (W := 0) (rm3 l Z a0 hw [] (ad_HEARTBEAT) ((4 : Int32)) h0 n0 Z0 F_HEARTBEAT) hZ (hw _ (List.mem_of_getElem? (i := 18) rfl)) (hw _ (List.mem_of_getElem? (i := 5) rfl)) (by decide) (by decide)) q14a q14c (g := (mkF m 53 #[.val (.int p0), .val (.int p1), .val (.int wz), .val (.int cv), .val (.ref ad_HEARTBEAT), .val (.ref ad_HEARTBEAT)] [(.ref ad_HEARTBEAT)])) rfl (by rw [hml]; rfl) (Steps.refl _) (argsL := []) (rest := []) (lenOf pd_1 rfl) rfl (by show 2 * 0 + _ ≤ _; exact Nat.le_of_eq rfl) (hb hby at_53) (fun _ _ => ⟨rfl, e13, (by decide : 0 + 0 ≤ _), (by decide : 0 + 0 ≤ _)⟩)
        dsimp only [Pt.U, Pt.locs, Pt.cells, Pt.slots] at X14 l14 y14 z14 st14 hQ14
        subst l14 y14 z14
        obtain ⟨rfl, Nq14, eh14⟩ := hQ14
        have N14 := Fr.app N13 Nq14
        refine own_go (fun t_ kt_ => st14.trans kt_) ?_
        have e14 : T14.heap = h0 := eh14
        show own_Go p e below s _ _ _ (T14.setTop (mkF m 56 #[.val (.int p0), .val (.int p1), .val (.int wz), .val (.int cv), .val (.ref ad_HEARTBEAT), .val (.ref ad_HEARTBEAT)] [(.int (4 : Int32))]))
        refine own_go (fun t_ kt_ => XS.iloadN X14.here hx rfl (hb hby at_56) rfl kt_) ?_
        show own_Go p e below s _ _ _ (T14.setTop (mkF m 57 #[.val (.int p0), .val (.int p1), .val (.int wz), .val (.int cv), .val (.ref ad_HEARTBEAT), .val (.ref ad_HEARTBEAT)] [(.int cv), (.int (4 : Int32))]))
        refine own_go (fun t_ kt_ => XS.icmpYes X14.here hx rfl (pc0 := 57) (pc' := 62) rfl (hb hby at_57) rfl (teq (Int32.toInt_inj.mp (by rw [hcv]; decide))).1 (by decide) (by decide) kt_) ?_
        show own_Go p e below s _ _ _ (T14.setTop (mkF m 62 #[.val (.int p0), .val (.int p1), .val (.int wz), .val (.int cv), .val (.ref ad_HEARTBEAT), .val (.ref ad_HEARTBEAT)] []))
        refine own_go (fun t_ kt_ => XS.iconst X14.here hx rfl (hb hby at_62) kt_) ?_
        show own_Go p e below s _ _ _ (T14.setTop (mkF m 63 #[.val (.int p0), .val (.int p1), .val (.int wz), .val (.int cv), .val (.ref ad_HEARTBEAT), .val (.ref ad_HEARTBEAT)] [(.int (1 : Int32))]))
        refine own_ret X14 (v := some (.int (1 : Int32))) (fun h => by rw [hret] at h; cases h) hlk ?_ (by decide) (by decide) (fun fs hr => retN X14 hx (t := .boolean) hret (by simp) (hb hby at_63) hr)
        show Q0 Z p0 p1 ad_DATA ad_INIT ad_ACK ad_HEARTBEAT ad_HEARTBEAT_ACK ta h0 n0 (some (.int (1 : Int32))) T14.heap _
        rw [e14]
        exact ⟨rfl, N14⟩
      · skip
        have hE : own_exp cv.toInt ad_DATA ad_INIT ad_ACK ad_HEARTBEAT ad_HEARTBEAT_ACK = (.ref ad_HEARTBEAT_ACK) := by unfold own_exp; repeat (first | rw [if_pos (by omega)] | rw [if_neg (by omega)])
        refine own_go (fun t_ kt_ => XS.iloadN X2.here hx rfl (hb hby at_25) rfl kt_) ?_
        show own_Go p e below s _ _ _ (T2.setTop (mkF m 26 #[.val (.int p0), .val (.int p1), .val (.int wz), .val (.int cv), .unset, .unset] [(.int cv)]))
        obtain ⟨_, _, ⟨T15, L15, k15, n15⟩, -, X15, ⟨Lc15, hQ15, l15, y15, z15⟩, st15⟩ := Jvm.LawKit.callS X2 hx (y := (⟨"com/example/framer/framer/chunk/ChunkTypeOfPinLaw", "expected", "(I)Lcom/example/framer/framer/chunk/ChunkType;"⟩ : MethodName)) hown (mvT hZ (hw _ (List.mem_of_getElem? (i := 0) rfl))) (mvT hZ (hw _ (List.mem_of_getElem? (i := 1) rfl))) (mvT hZ (hw _ (List.mem_of_getElem? (i := 2) rfl))) (mvT hZ (hw _ (List.mem_of_getElem? (i := 3) rfl))) (by decide) (backOf (W := 0) (rm1 l Z a0 hw [] (cv) (ad_DATA) (ad_INIT) (ad_ACK) (ad_HEARTBEAT) (ad_HEARTBEAT_ACK) h0 n0 Z0 S_DATA S_INIT S_ACK S_HEARTBEAT S_HEARTBEAT_ACK) hZ (hw _ (List.mem_of_getElem? (i := 3) rfl)) (hw _ (List.mem_of_getElem? (i := 2) rfl)) (by decide) (by decide)) (g := (mkF m 26 #[.val (.int p0), .val (.int p1), .val (.int wz), .val (.int cv), .unset, .unset] [(.int cv)])) rfl (by rw [hml]; rfl) (argsL := [(.int cv)]) (rest := []) (lenOf pd_0 rfl) rfl (by show 2 * 0 + _ ≤ _; exact Nat.le_of_eq rfl) (hb hby at_26) (fun _ _ => ⟨rfl, e2, (by decide : 0 + 0 ≤ _), (by decide : 0 + 0 ≤ _)⟩)
        dsimp only [Pt.U, Pt.locs, Pt.cells, Pt.slots] at X15 l15 y15 z15 st15 hQ15
        subst l15 y15 z15
        obtain ⟨hv15, Nq15, eh15⟩ := hQ15
        rw [hE] at hv15
        subst hv15
        have N15 := Fr.app N2 Nq15
        refine own_go (fun t_ kt_ => st15 _ kt_) ?_
        have e15 : T15.heap = h0 := eh15
        show own_Go p e below s _ _ _ (T15.setTop (mkF m 29 #[.val (.int p0), .val (.int p1), .val (.int wz), .val (.int cv), .unset, .unset] [(.ref ad_HEARTBEAT_ACK)]))
        refine own_go (fun t_ kt_ => XS.astore X15.here hx rfl (hb hby at_29) rfl rfl (l' := #[.val (.int p0), .val (.int p1), .val (.int wz), .val (.int cv), .val (.ref ad_HEARTBEAT_ACK), .unset]) rfl kt_) ?_
        show own_Go p e below s _ _ _ (T15.setTop (mkF m 31 #[.val (.int p0), .val (.int p1), .val (.int wz), .val (.int cv), .val (.ref ad_HEARTBEAT_ACK), .unset] []))
        refine own_go (fun t_ kt_ => XS.iloadN X15.here hx rfl (hb hby at_31) rfl kt_) ?_
        show own_Go p e below s _ _ _ (T15.setTop (mkF m 32 #[.val (.int p0), .val (.int p1), .val (.int wz), .val (.int cv), .val (.ref ad_HEARTBEAT_ACK), .unset] [(.int cv)]))
        obtain ⟨_, _, ⟨T16, L16, k16, n16⟩, -, X16, ⟨Lc16, hQ16, l16, y16, z16⟩, st16⟩ := Jvm.LawKit.callS X15 hx (y := (⟨"com/example/framer/framer/chunk/ChunkType", "of", "(I)Lcom/example/framer/framer/chunk/ChunkType;"⟩ : MethodName)) hown (mvT hZ (hw _ (List.mem_of_getElem? (i := 7) rfl))) (mvT hZ (hw _ (List.mem_of_getElem? (i := 8) rfl))) (mvT hZ (hw _ (List.mem_of_getElem? (i := 5) rfl))) (mvT hZ (hw _ (List.mem_of_getElem? (i := 9) rfl))) (by decide) (backOf (W := 0) (rm2 l Z a0 hw [] (cv) (ad_DATA) (ad_INIT) (ad_ACK) (ad_HEARTBEAT) (ad_HEARTBEAT_ACK) (ta) h0 n0 Z0 F_DATA F_INIT F_ACK F_HEARTBEAT F_HEARTBEAT_ACK AT ST) hZ (hw _ (List.mem_of_getElem? (i := 9) rfl)) (hw _ (List.mem_of_getElem? (i := 5) rfl)) (by decide) (by decide)) (g := (mkF m 32 #[.val (.int p0), .val (.int p1), .val (.int wz), .val (.int cv), .val (.ref ad_HEARTBEAT_ACK), .unset] [(.int cv)])) rfl (by rw [hml]; rfl) (argsL := [(.int cv)]) (rest := []) (lenOf pd_0 rfl) rfl (by show 2 * 0 + _ ≤ _; exact Nat.le_of_eq rfl) (hb hby at_32) (fun _ _ => ⟨rfl, e15, (by decide : 0 + 0 ≤ _), (by decide : 0 + 0 ≤ _)⟩)
        dsimp only [Pt.U, Pt.locs, Pt.cells, Pt.slots] at X16 l16 y16 z16 st16 hQ16
        subst l16 y16 z16
        obtain ⟨hv16, Nq16, eh16⟩ := hQ16
        rw [hE] at hv16
        subst hv16
        have N16 := Fr.app N15 Nq16
        refine own_go (fun t_ kt_ => st16 _ kt_) ?_
        have e16 : T16.heap = h0 := eh16
        show own_Go p e below s _ _ _ (T16.setTop (mkF m 35 #[.val (.int p0), .val (.int p1), .val (.int wz), .val (.int cv), .val (.ref ad_HEARTBEAT_ACK), .unset] [(.ref ad_HEARTBEAT_ACK)]))
        refine own_go (fun t_ kt_ => XS.astore X16.here hx rfl (hb hby at_35) rfl rfl (l' := #[.val (.int p0), .val (.int p1), .val (.int wz), .val (.int cv), .val (.ref ad_HEARTBEAT_ACK), .val (.ref ad_HEARTBEAT_ACK)]) rfl kt_) ?_
        show own_Go p e below s _ _ _ (T16.setTop (mkF m 37 #[.val (.int p0), .val (.int p1), .val (.int wz), .val (.int cv), .val (.ref ad_HEARTBEAT_ACK), .val (.ref ad_HEARTBEAT_ACK)] []))
        refine own_go (fun t_ kt_ => XS.aload X16.here hx rfl (hb hby at_37) rfl rfl kt_) ?_
        show own_Go p e below s _ _ _ (T16.setTop (mkF m 39 #[.val (.int p0), .val (.int p1), .val (.int wz), .val (.int cv), .val (.ref ad_HEARTBEAT_ACK), .val (.ref ad_HEARTBEAT_ACK)] [(.ref ad_HEARTBEAT_ACK)]))
        refine own_go (fun t_ kt_ => XS.aload X16.here hx rfl (hb hby at_39) rfl rfl kt_) ?_
        show own_Go p e below s _ _ _ (T16.setTop (mkF m 41 #[.val (.int p0), .val (.int p1), .val (.int wz), .val (.int cv), .val (.ref ad_HEARTBEAT_ACK), .val (.ref ad_HEARTBEAT_ACK)] [(.ref ad_HEARTBEAT_ACK), (.ref ad_HEARTBEAT_ACK)]))
        refine own_go (fun t_ kt_ => Jvm.RoadKit.acmp (g := (mkF m 41 #[.val (.int p0), .val (.int p1), .val (.int wz), .val (.int cv), .val (.ref ad_HEARTBEAT_ACK), .val (.ref ad_HEARTBEAT_ACK)] [(.ref ad_HEARTBEAT_ACK), (.ref ad_HEARTBEAT_ACK)])) X16 hx rfl rfl rfl (pc0 := 41) (pc' := 46) (same := true) rfl (hb hby at_41) rfl (decide_eq_true rfl) (by decide) (by decide) kt_) ?_
        show own_Go p e below s _ _ _ (T16.setTop (mkF m 46 #[.val (.int p0), .val (.int p1), .val (.int wz), .val (.int cv), .val (.ref ad_HEARTBEAT_ACK), .val (.ref ad_HEARTBEAT_ACK)] []))
        refine own_go (fun t_ kt_ => XS.aload X16.here hx rfl (hb hby at_46) rfl rfl kt_) ?_
        show own_Go p e below s _ _ _ (T16.setTop (mkF m 48 #[.val (.int p0), .val (.int p1), .val (.int wz), .val (.int cv), .val (.ref ad_HEARTBEAT_ACK), .val (.ref ad_HEARTBEAT_ACK)] [(.ref ad_HEARTBEAT_ACK)]))
        refine own_go (fun t_ kt_ => XS.ifnullNo X16.here hx rfl (hb hby at_48) rfl kt_) ?_
        show own_Go p e below s _ _ _ (T16.setTop (mkF m 51 #[.val (.int p0), .val (.int p1), .val (.int wz), .val (.int cv), .val (.ref ad_HEARTBEAT_ACK), .val (.ref ad_HEARTBEAT_ACK)] []))
        refine own_go (fun t_ kt_ => XS.aload X16.here hx rfl (hb hby at_51) rfl rfl kt_) ?_
        show own_Go p e below s _ _ _ (T16.setTop (mkF m 53 #[.val (.int p0), .val (.int p1), .val (.int wz), .val (.int cv), .val (.ref ad_HEARTBEAT_ACK), .val (.ref ad_HEARTBEAT_ACK)] [(.ref ad_HEARTBEAT_ACK)]))
        obtain ⟨cq17, kq17, q17a, q17b, q17c⟩ := isOf hZ e16 E_HEARTBEAT_ACK
        obtain ⟨_, _, ⟨T17, L17, k17, n17⟩, -, X17, ⟨Lc17, hQ17, l17, y17, z17⟩, st17⟩ := X16.virtualBack hx (y := (⟨"com/example/framer/framer/chunk/ChunkType", "code", "()I"⟩ : MethodName)) (z := (⟨"com/example/framer/framer/chunk/ChunkType", "code", "()I"⟩ : MethodName)) hown (mvT hZ (hw _ (List.mem_of_getElem? (i := 14) rfl))) (mvT hZ (hw _ (List.mem_of_getElem? (i := 15) rfl))) (notFace_of_selects (args := #[]) (mvT hZ (hw _ (List.mem_of_getElem? (i := 17) rfl)))) (mvT hZ (hw _ (List.mem_of_getElem? (i := 17) rfl))) (mvT hZ (hw _ (List.mem_of_getElem? (i := 16) rfl))) (by decide) (backOf (W := 0) (rm3 l Z a0 hw [] (ad_HEARTBEAT_ACK) ((5 : Int32)) h0 n0 Z0 F_HEARTBEAT_ACK) hZ (hw _ (List.mem_of_getElem? (i := 18) rfl)) (hw _ (List.mem_of_getElem? (i := 5) rfl)) (by decide) (by decide)) q17a q17c (g := (mkF m 53 #[.val (.int p0), .val (.int p1), .val (.int wz), .val (.int cv), .val (.ref ad_HEARTBEAT_ACK), .val (.ref ad_HEARTBEAT_ACK)] [(.ref ad_HEARTBEAT_ACK)])) rfl (by rw [hml]; rfl) (Steps.refl _) (argsL := []) (rest := []) (lenOf pd_1 rfl) rfl (by show 2 * 0 + _ ≤ _; exact Nat.le_of_eq rfl) (hb hby at_53) (fun _ _ => ⟨rfl, e16, (by decide : 0 + 0 ≤ _), (by decide : 0 + 0 ≤ _)⟩)
        dsimp only [Pt.U, Pt.locs, Pt.cells, Pt.slots] at X17 l17 y17 z17 st17 hQ17
        subst l17 y17 z17
        obtain ⟨rfl, Nq17, eh17⟩ := hQ17
        have N17 := Fr.app N16 Nq17
        refine own_go (fun t_ kt_ => st17.trans kt_) ?_
        have e17 : T17.heap = h0 := eh17
        show own_Go p e below s _ _ _ (T17.setTop (mkF m 56 #[.val (.int p0), .val (.int p1), .val (.int wz), .val (.int cv), .val (.ref ad_HEARTBEAT_ACK), .val (.ref ad_HEARTBEAT_ACK)] [(.int (5 : Int32))]))
        refine own_go (fun t_ kt_ => XS.iloadN X17.here hx rfl (hb hby at_56) rfl kt_) ?_
        show own_Go p e below s _ _ _ (T17.setTop (mkF m 57 #[.val (.int p0), .val (.int p1), .val (.int wz), .val (.int cv), .val (.ref ad_HEARTBEAT_ACK), .val (.ref ad_HEARTBEAT_ACK)] [(.int cv), (.int (5 : Int32))]))
        refine own_go (fun t_ kt_ => XS.icmpYes X17.here hx rfl (pc0 := 57) (pc' := 62) rfl (hb hby at_57) rfl (teq (Int32.toInt_inj.mp (by rw [hcv]; decide))).1 (by decide) (by decide) kt_) ?_
        show own_Go p e below s _ _ _ (T17.setTop (mkF m 62 #[.val (.int p0), .val (.int p1), .val (.int wz), .val (.int cv), .val (.ref ad_HEARTBEAT_ACK), .val (.ref ad_HEARTBEAT_ACK)] []))
        refine own_go (fun t_ kt_ => XS.iconst X17.here hx rfl (hb hby at_62) kt_) ?_
        show own_Go p e below s _ _ _ (T17.setTop (mkF m 63 #[.val (.int p0), .val (.int p1), .val (.int wz), .val (.int cv), .val (.ref ad_HEARTBEAT_ACK), .val (.ref ad_HEARTBEAT_ACK)] [(.int (1 : Int32))]))
        refine own_ret X17 (v := some (.int (1 : Int32))) (fun h => by rw [hret] at h; cases h) hlk ?_ (by decide) (by decide) (fun fs hr => retN X17 hx (t := .boolean) hret (by simp) (hb hby at_63) hr)
        show Q0 Z p0 p1 ad_DATA ad_INIT ad_ACK ad_HEARTBEAT ad_HEARTBEAT_ACK ta h0 n0 (some (.int (1 : Int32))) T17.heap _
        rw [e17]
        exact ⟨rfl, N17⟩
      · skip
        have hE : own_exp cv.toInt ad_DATA ad_INIT ad_ACK ad_HEARTBEAT ad_HEARTBEAT_ACK = .null := by unfold own_exp; repeat (first | rw [if_pos (by omega)] | rw [if_neg (by omega)])
        refine own_go (fun t_ kt_ => XS.iloadN X2.here hx rfl (hb hby at_25) rfl kt_) ?_
        show own_Go p e below s _ _ _ (T2.setTop (mkF m 26 #[.val (.int p0), .val (.int p1), .val (.int wz), .val (.int cv), .unset, .unset] [(.int cv)]))
        obtain ⟨_, _, ⟨T18, L18, k18, n18⟩, -, X18, ⟨Lc18, hQ18, l18, y18, z18⟩, st18⟩ := Jvm.LawKit.callS X2 hx (y := (⟨"com/example/framer/framer/chunk/ChunkTypeOfPinLaw", "expected", "(I)Lcom/example/framer/framer/chunk/ChunkType;"⟩ : MethodName)) hown (mvT hZ (hw _ (List.mem_of_getElem? (i := 0) rfl))) (mvT hZ (hw _ (List.mem_of_getElem? (i := 1) rfl))) (mvT hZ (hw _ (List.mem_of_getElem? (i := 2) rfl))) (mvT hZ (hw _ (List.mem_of_getElem? (i := 3) rfl))) (by decide) (backOf (W := 0) (rm1 l Z a0 hw [] (cv) (ad_DATA) (ad_INIT) (ad_ACK) (ad_HEARTBEAT) (ad_HEARTBEAT_ACK) h0 n0 Z0 S_DATA S_INIT S_ACK S_HEARTBEAT S_HEARTBEAT_ACK) hZ (hw _ (List.mem_of_getElem? (i := 3) rfl)) (hw _ (List.mem_of_getElem? (i := 2) rfl)) (by decide) (by decide)) (g := (mkF m 26 #[.val (.int p0), .val (.int p1), .val (.int wz), .val (.int cv), .unset, .unset] [(.int cv)])) rfl (by rw [hml]; rfl) (argsL := [(.int cv)]) (rest := []) (lenOf pd_0 rfl) rfl (by show 2 * 0 + _ ≤ _; exact Nat.le_of_eq rfl) (hb hby at_26) (fun _ _ => ⟨rfl, e2, (by decide : 0 + 0 ≤ _), (by decide : 0 + 0 ≤ _)⟩)
        dsimp only [Pt.U, Pt.locs, Pt.cells, Pt.slots] at X18 l18 y18 z18 st18 hQ18
        subst l18 y18 z18
        obtain ⟨hv18, Nq18, eh18⟩ := hQ18
        rw [hE] at hv18
        subst hv18
        have N18 := Fr.app N2 Nq18
        refine own_go (fun t_ kt_ => st18 _ kt_) ?_
        have e18 : T18.heap = h0 := eh18
        show own_Go p e below s _ _ _ (T18.setTop (mkF m 29 #[.val (.int p0), .val (.int p1), .val (.int wz), .val (.int cv), .unset, .unset] [.null]))
        refine own_go (fun t_ kt_ => XS.astore X18.here hx rfl (hb hby at_29) rfl rfl (l' := #[.val (.int p0), .val (.int p1), .val (.int wz), .val (.int cv), .val .null, .unset]) rfl kt_) ?_
        show own_Go p e below s _ _ _ (T18.setTop (mkF m 31 #[.val (.int p0), .val (.int p1), .val (.int wz), .val (.int cv), .val .null, .unset] []))
        refine own_go (fun t_ kt_ => XS.iloadN X18.here hx rfl (hb hby at_31) rfl kt_) ?_
        show own_Go p e below s _ _ _ (T18.setTop (mkF m 32 #[.val (.int p0), .val (.int p1), .val (.int wz), .val (.int cv), .val .null, .unset] [(.int cv)]))
        obtain ⟨_, _, ⟨T19, L19, k19, n19⟩, -, X19, ⟨Lc19, hQ19, l19, y19, z19⟩, st19⟩ := Jvm.LawKit.callS X18 hx (y := (⟨"com/example/framer/framer/chunk/ChunkType", "of", "(I)Lcom/example/framer/framer/chunk/ChunkType;"⟩ : MethodName)) hown (mvT hZ (hw _ (List.mem_of_getElem? (i := 7) rfl))) (mvT hZ (hw _ (List.mem_of_getElem? (i := 8) rfl))) (mvT hZ (hw _ (List.mem_of_getElem? (i := 5) rfl))) (mvT hZ (hw _ (List.mem_of_getElem? (i := 9) rfl))) (by decide) (backOf (W := 0) (rm2 l Z a0 hw [] (cv) (ad_DATA) (ad_INIT) (ad_ACK) (ad_HEARTBEAT) (ad_HEARTBEAT_ACK) (ta) h0 n0 Z0 F_DATA F_INIT F_ACK F_HEARTBEAT F_HEARTBEAT_ACK AT ST) hZ (hw _ (List.mem_of_getElem? (i := 9) rfl)) (hw _ (List.mem_of_getElem? (i := 5) rfl)) (by decide) (by decide)) (g := (mkF m 32 #[.val (.int p0), .val (.int p1), .val (.int wz), .val (.int cv), .val .null, .unset] [(.int cv)])) rfl (by rw [hml]; rfl) (argsL := [(.int cv)]) (rest := []) (lenOf pd_0 rfl) rfl (by show 2 * 0 + _ ≤ _; exact Nat.le_of_eq rfl) (hb hby at_32) (fun _ _ => ⟨rfl, e18, (by decide : 0 + 0 ≤ _), (by decide : 0 + 0 ≤ _)⟩)
        dsimp only [Pt.U, Pt.locs, Pt.cells, Pt.slots] at X19 l19 y19 z19 st19 hQ19
        subst l19 y19 z19
        obtain ⟨hv19, Nq19, eh19⟩ := hQ19
        rw [hE] at hv19
        subst hv19
        have N19 := Fr.app N18 Nq19
        refine own_go (fun t_ kt_ => st19 _ kt_) ?_
        have e19 : T19.heap = h0 := eh19
        show own_Go p e below s _ _ _ (T19.setTop (mkF m 35 #[.val (.int p0), .val (.int p1), .val (.int wz), .val (.int cv), .val .null, .unset] [.null]))
        refine own_go (fun t_ kt_ => XS.astore X19.here hx rfl (hb hby at_35) rfl rfl (l' := #[.val (.int p0), .val (.int p1), .val (.int wz), .val (.int cv), .val .null, .val .null]) rfl kt_) ?_
        show own_Go p e below s _ _ _ (T19.setTop (mkF m 37 #[.val (.int p0), .val (.int p1), .val (.int wz), .val (.int cv), .val .null, .val .null] []))
        refine own_go (fun t_ kt_ => XS.aload X19.here hx rfl (hb hby at_37) rfl rfl kt_) ?_
        show own_Go p e below s _ _ _ (T19.setTop (mkF m 39 #[.val (.int p0), .val (.int p1), .val (.int wz), .val (.int cv), .val .null, .val .null] [.null]))
        refine own_go (fun t_ kt_ => XS.aload X19.here hx rfl (hb hby at_39) rfl rfl kt_) ?_
        show own_Go p e below s _ _ _ (T19.setTop (mkF m 41 #[.val (.int p0), .val (.int p1), .val (.int wz), .val (.int cv), .val .null, .val .null] [.null, .null]))
        refine own_go (fun t_ kt_ => Jvm.RoadKit.acmp (g := (mkF m 41 #[.val (.int p0), .val (.int p1), .val (.int wz), .val (.int cv), .val .null, .val .null] [.null, .null])) X19 hx rfl rfl rfl (pc0 := 41) (pc' := 46) (same := true) rfl (hb hby at_41) rfl (decide_eq_true rfl) (by decide) (by decide) kt_) ?_
        show own_Go p e below s _ _ _ (T19.setTop (mkF m 46 #[.val (.int p0), .val (.int p1), .val (.int wz), .val (.int cv), .val .null, .val .null] []))
        refine own_go (fun t_ kt_ => XS.aload X19.here hx rfl (hb hby at_46) rfl rfl kt_) ?_
        show own_Go p e below s _ _ _ (T19.setTop (mkF m 48 #[.val (.int p0), .val (.int p1), .val (.int wz), .val (.int cv), .val .null, .val .null] [.null]))
        refine own_go (fun t_ kt_ => XS.ifnullYes X19.here hx rfl (pc0 := 48) (pc' := 62) rfl (hb hby at_48) rfl (by decide) (by decide) kt_) ?_
        show own_Go p e below s _ _ _ (T19.setTop (mkF m 62 #[.val (.int p0), .val (.int p1), .val (.int wz), .val (.int cv), .val .null, .val .null] []))
        refine own_go (fun t_ kt_ => XS.iconst X19.here hx rfl (hb hby at_62) kt_) ?_
        show own_Go p e below s _ _ _ (T19.setTop (mkF m 63 #[.val (.int p0), .val (.int p1), .val (.int wz), .val (.int cv), .val .null, .val .null] [(.int (1 : Int32))]))
        refine own_ret X19 (v := some (.int (1 : Int32))) (fun h => by rw [hret] at h; cases h) hlk ?_ (by decide) (by decide) (fun fs hr => retN X19 hx (t := .boolean) hret (by simp) (hb hby at_63) hr)
        show Q0 Z p0 p1 ad_DATA ad_INIT ad_ACK ad_HEARTBEAT ad_HEARTBEAT_ACK ta h0 n0 (some (.int (1 : Int32))) T19.heap _
        rw [e19]
        exact ⟨rfl, N19⟩
    by_cases hc13 : wz = (0 : Int32)
    · skip
      have hi13 : wz.toInt = 0 := congrArg Int32.toInt hc13
      refine own_go (fun t_ kt_ => XS.ifYes X1.here hx rfl (pc0 := 13) (pc' := 20) rfl (hb hby at_13) rfl ((if0 _ _).trans (teq hc13).1) (by decide) (by decide) kt_) ?_
      show own_Go p e below s _ _ _ (T1.setTop (mkF m 20 #[.val (.int p0), .val (.int p1), .val (.int wz), .unset, .unset, .unset] []))
      refine own_go (fun t_ kt_ => XS.iloadN X1.here hx rfl (hb hby at_20) rfl kt_) ?_
      show own_Go p e below s _ _ _ (T1.setTop (mkF m 21 #[.val (.int p0), .val (.int p1), .val (.int wz), .unset, .unset, .unset] [(.int p0)]))
      refine own_go (fun t_ kt_ => XS.bipush X1.here hx rfl (hb hby at_21) kt_) ?_
      show own_Go p e below s _ _ _ (T1.setTop (mkF m 23 #[.val (.int p0), .val (.int p1), .val (.int wz), .unset, .unset, .unset] [(.int (7 : Int32)), (.int p0)]))
      refine own_go (fun t_ kt_ => XS.iand X1.here hx rfl (hb hby at_23) rfl kt_) ?_
      show own_Go p e below s _ _ _ (T1.setTop (mkF m 24 #[.val (.int p0), .val (.int p1), .val (.int wz), .unset, .unset, .unset] [(.int (p0 &&& (7 : Int32)))]))
      exact J24 T1 _ X1 e1 N1  ((p0 &&& (7 : Int32))) 
    · skip
      have hi13 : ¬ wz.toInt = 0 := fun q => hc13 (Int32.toInt_inj.mp q)
      refine own_go (fun t_ kt_ => XS.ifNo X1.here hx rfl (hb hby at_13) rfl ((if0 _ _).trans (feq hc13).1) kt_) ?_
      show own_Go p e below s _ _ _ (T1.setTop (mkF m 16 #[.val (.int p0), .val (.int p1), .val (.int wz), .unset, .unset, .unset] []))
      refine own_go (fun t_ kt_ => XS.iloadN X1.here hx rfl (hb hby at_16) rfl kt_) ?_
      show own_Go p e below s _ _ _ (T1.setTop (mkF m 17 #[.val (.int p0), .val (.int p1), .val (.int wz), .unset, .unset, .unset] [(.int p0)]))
      refine own_go (fun t_ kt_ => XS.goto X1.here hx rfl (pc0 := 17) (pc' := 24) rfl (hb hby at_17) (by decide) (by decide) kt_) ?_
      show own_Go p e below s _ _ _ (T1.setTop (mkF m 24 #[.val (.int p0), .val (.int p1), .val (.int wz), .unset, .unset, .unset] [(.int p0)]))
      exact J24 T1 _ X1 e1 N1  (p0) 
  by_cases hc3 : (p1 &&& (1 : Int32)) = (0 : Int32)
  · skip
    have hi3 : ((p1 &&& (1 : Int32))).toInt = 0 := congrArg Int32.toInt hc3
    refine own_go (fun t_ kt_ => XS.ifYes X0.here hx rfl (pc0 := 3) (pc' := 10) rfl (hb hby at_3) rfl ((if0 _ _).trans (teq hc3).1) (by decide) (by decide) kt_) ?_
    show own_Go p e below s _ _ _ (s₁.setTop (mkF m 10 #[.val (.int p0), .val (.int p1), .unset, .unset, .unset, .unset] []))
    refine own_go (fun t_ kt_ => XS.iconst X0.here hx rfl (hb hby at_10) kt_) ?_
    show own_Go p e below s _ _ _ (s₁.setTop (mkF m 11 #[.val (.int p0), .val (.int p1), .unset, .unset, .unset, .unset] [(.int (0 : Int32))]))
    exact J11 s₁ _ X0 e0 N0  ((0 : Int32)) 
  · skip
    have hi3 : ¬ ((p1 &&& (1 : Int32))).toInt = 0 := fun q => hc3 (Int32.toInt_inj.mp q)
    refine own_go (fun t_ kt_ => XS.ifNo X0.here hx rfl (hb hby at_3) rfl ((if0 _ _).trans (feq hc3).1) kt_) ?_
    show own_Go p e below s _ _ _ (s₁.setTop (mkF m 6 #[.val (.int p0), .val (.int p1), .unset, .unset, .unset, .unset] []))
    refine own_go (fun t_ kt_ => XS.iconst X0.here hx rfl (hb hby at_6) kt_) ?_
    show own_Go p e below s _ _ _ (s₁.setTop (mkF m 7 #[.val (.int p0), .val (.int p1), .unset, .unset, .unset, .unset] [(.int (1 : Int32))]))
    refine own_go (fun t_ kt_ => XS.goto X0.here hx rfl (pc0 := 7) (pc' := 11) rfl (hb hby at_7) (by decide) (by decide) kt_) ?_
    show own_Go p e below s _ _ _ (s₁.setTop (mkF m 11 #[.val (.int p0), .val (.int p1), .unset, .unset, .unset, .unset] [(.int (1 : Int32))]))
    exact J11 s₁ _ X0 e0 N0  ((1 : Int32)) 
set_option maxRecDepth 65536 in
set_option maxHeartbeats 40000000 in
theorem comes_1 {Post : Tables → Env → Array Value → State → Outcome → State → Prop} (hpost : ∀ tb e args s v u, (limb_1_1.after args s (.returned v) u = true ∧ limb_1_2.after args s (.returned v) u = true ∧ True) → FrameEnd s (.returned v) u (Jvm.fieldLocs frame_1_writes args s ++ Jvm.arrayLocs frame_1_arrays args s ++ Jvm.staticLocs frame_1_statics s) 0 0 → Post tb e args s (.returned v) u) :
    ArmFor flags0 classFile x code maxLocals ret World_1 tables_1 room_1 Calls_1 rest_1 Pre_1 Post := by
  intro l hfl _ _ p e ha hc hk s m args below hf hA hF happ hP
  obtain ⟨hcalls, hrest, hpre⟩ := hP
  obtain ⟨-, -, -, hnamed, -, -, -, hat⟩ := (Spec.applies_iff hf).mp happ
  obtain ⟨hg, hn⟩ := and_e (Cond.before_iff.mp (show (Jvm.Cond.and given_1 narrow_1).before args s = true from hpre))
  obtain ⟨g1, g2⟩ := and_e hg
  obtain ⟨g3, g4⟩ := and_e g2
  obtain ⟨w0, w1, rfl⟩ : ∃ w0 w1 : Value, args = #[w0, w1] := by
    have hs : args.size = 2 := by simpa [Cond.value, given_1] using g1
    obtain ⟨L⟩ := args
    match L, hs with
    | [w0, w1], _ => exact ⟨w0, w1, rfl⟩
  have hw := fun d (hd : d ∈ tables_1) => atoms_spec (ws := Jvm.Cond.code x code maxLocals ret :: tables_1) hat d (List.mem_cons_of_mem _ hd)
  have hfit : Fit s := fun {y c} hc i hi => by
    obtain ⟨ha, rfl⟩ := Array.getElem?_eq_some_iff.mp hc
    have q := List.all_eq_true.mp ((Array.all_eq_true_iff_forall_mem.mp hF) _ (Array.getElem_mem ha)) i (List.mem_range.mpr hi)
    simpa [Array.getElem?_eq_getElem hi] using q
  obtain ⟨i0, ei0⟩ := is_v g3
  obtain rfl : w0 = (.int i0) := Option.some.inj ei0
  obtain ⟨i1, ei1⟩ := is_v g4
  obtain rfl : w1 = (.int i1) := Option.some.inj ei1
  obtain ⟨u1, u2⟩ := and_e hn
  obtain ⟨u3, u4⟩ := and_e u2
  obtain ⟨u5, u6⟩ := and_e u4
  obtain ⟨u7, u8⟩ := and_e u6
  obtain ⟨u9, u10⟩ := and_e u8
  obtain ⟨u11, u12⟩ := and_e u10
  obtain ⟨u13, u14⟩ := and_e u12
  obtain ⟨u15, u16⟩ := and_e u14
  obtain ⟨u17, u18⟩ := and_e u16
  obtain ⟨u19, u20⟩ := and_e u18
  obtain ⟨u21, u22⟩ := and_e u20
  obtain ⟨u23, u24⟩ := and_e u22
  obtain ⟨u25, u26⟩ := and_e u24
  obtain ⟨u27, u28⟩ := and_e u26
  obtain ⟨u29, u30⟩ := and_e u28
  obtain ⟨u31, u32⟩ := and_e u30
  obtain ⟨ad_DATA, es_DATA⟩ := exa_v u1
  have S_DATA := Sta.start es_DATA (Or.inr ⟨(hw _ (List.mem_of_getElem? (i := 5) rfl)), (hw _ (List.mem_of_getElem? (i := 6) rfl))⟩)
  have E_DATA := Exa.start es_DATA u1
  obtain ⟨ad_TYPES, es_TYPES⟩ := arr_v u3
  have S_TYPES := Sta.start es_TYPES (Or.inr ⟨(hw _ (List.mem_of_getElem? (i := 5) rfl)), (hw _ (List.mem_of_getElem? (i := 11) rfl))⟩)
  obtain ⟨ce_TYPES, Ar_TYPES⟩ := Arr.start es_TYPES u3
  obtain ⟨ad_INIT, es_INIT⟩ := exa_v u11
  have S_INIT := Sta.start es_INIT (Or.inr ⟨(hw _ (List.mem_of_getElem? (i := 5) rfl)), (hw _ (List.mem_of_getElem? (i := 19) rfl))⟩)
  have E_INIT := Exa.start es_INIT u11
  obtain ⟨ad_ACK, es_ACK⟩ := exa_v u17
  have S_ACK := Sta.start es_ACK (Or.inr ⟨(hw _ (List.mem_of_getElem? (i := 5) rfl)), (hw _ (List.mem_of_getElem? (i := 20) rfl))⟩)
  have E_ACK := Exa.start es_ACK u17
  obtain ⟨ad_HEARTBEAT, es_HEARTBEAT⟩ := exa_v u23
  have S_HEARTBEAT := Sta.start es_HEARTBEAT (Or.inr ⟨(hw _ (List.mem_of_getElem? (i := 5) rfl)), (hw _ (List.mem_of_getElem? (i := 21) rfl))⟩)
  have E_HEARTBEAT := Exa.start es_HEARTBEAT u23
  obtain ⟨ad_HEARTBEAT_ACK, es_HEARTBEAT_ACK⟩ := exa_v u29
  have S_HEARTBEAT_ACK := Sta.start es_HEARTBEAT_ACK (Or.inr ⟨(hw _ (List.mem_of_getElem? (i := 5) rfl)), (hw _ (List.mem_of_getElem? (i := 22) rfl))⟩)
  have E_HEARTBEAT_ACK := Exa.start es_HEARTBEAT_ACK u29
  have F_DATA_code : Fld s s.heap ad_DATA "com/example/framer/framer/chunk/ChunkType" "code" "I" (.int (0 : Int32)) := Fld.start ((fld_at es_DATA).symm.trans (eqv_i (Term.int_eval _) u9))
  have F_INIT_code : Fld s s.heap ad_INIT "com/example/framer/framer/chunk/ChunkType" "code" "I" (.int (1 : Int32)) := Fld.start ((fld_at es_INIT).symm.trans (eqv_i (Term.int_eval _) u15))
  have F_ACK_code : Fld s s.heap ad_ACK "com/example/framer/framer/chunk/ChunkType" "code" "I" (.int (3 : Int32)) := Fld.start ((fld_at es_ACK).symm.trans (eqv_i (Term.int_eval _) u21))
  have F_HEARTBEAT_code : Fld s s.heap ad_HEARTBEAT "com/example/framer/framer/chunk/ChunkType" "code" "I" (.int (4 : Int32)) := Fld.start ((fld_at es_HEARTBEAT).symm.trans (eqv_i (Term.int_eval _) u27))
  have F_HEARTBEAT_ACK_code : Fld s s.heap ad_HEARTBEAT_ACK "com/example/framer/framer/chunk/ChunkType" "code" "I" (.int (5 : Int32)) := Fld.start ((fld_at es_HEARTBEAT_ACK).symm.trans (eqv_i (Term.int_eval _) u32))
  have sz_T := own_size (n := 5) es_TYPES Ar_TYPES u5 (by decide)
  have el_0 := own_elem (i := 0) es_TYPES Ar_TYPES (by decide) (own_eqR es_DATA u7)
  have el_1 := own_elem (i := 1) es_TYPES Ar_TYPES (by decide) (own_eqR es_INIT u13)
  have el_2 := own_elem (i := 2) es_TYPES Ar_TYPES (by decide) (own_eqR es_ACK u19)
  have el_3 := own_elem (i := 3) es_TYPES Ar_TYPES (by decide) (own_eqR es_HEARTBEAT u25)
  have el_4 := own_elem (i := 4) es_TYPES Ar_TYPES (by decide) (own_eqR es_HEARTBEAT_ACK u31)
  have AT : own_Ary s s.heap ad_TYPES (.object "com/example/framer/framer/chunk/ChunkType") 5 (own_f5 ad_DATA ad_INIT ad_ACK ad_HEARTBEAT ad_HEARTBEAT_ACK) := ⟨ce_TYPES, Ar_TYPES, sz_T, fun j hj => by
    rcases (by omega : j = 0 ∨ j = 1 ∨ j = 2 ∨ j = 3 ∨ j = 4) with rfl | rfl | rfl | rfl | rfl
    · exact el_0
    · exact el_1
    · exact el_2
    · exact el_3
    · exact el_4⟩
  obtain ⟨n, o, h1, h2, h3, _, L, rfl, ⟨rfl, N⟩, hq⟩ := rm0 l s _ hw tables_1 i0 i1 ad_DATA ad_INIT ad_ACK ad_HEARTBEAT ad_HEARTBEAT_ACK ad_TYPES s.heap s.heap.size (Nat.le_refl _) S_DATA S_INIT S_ACK S_HEARTBEAT S_HEARTBEAT_ACK F_DATA_code F_INIT_code F_ACK_code F_HEARTBEAT_code F_HEARTBEAT_ACK_code AT S_TYPES E_DATA E_INIT E_ACK E_HEARTBEAT E_HEARTBEAT_ACK p e ha hc hk s m _ below hf ((Spec.applies_iff_loose hf).mp happ).1 ⟨rfl, State.Warmed39.refl s, rfl⟩ trivial
  refine ⟨n, _, h1, h2, h3, hpost _ _ _ _ _ _ ⟨Cond.after_iff.mpr rfl, Cond.after_iff.mpr (eq_i res_at (Term.int_eval (1)) rfl), trivial⟩ ⟨hq.1, hq.2.1, (hq.2.2.sift fun y hy => Or.inr (N y hy)).mono (by decide) (by decide)⟩⟩
theorem main_1_1 : Claimed_1_1 := comes_1 fun _ _ _ _ _ _ h hF => ⟨h.1, hF⟩
theorem main_1_2 : Claimed_1_2 := comes_1 fun _ _ _ _ _ _ h hF => ⟨h.2.1, hF⟩
end Jvm.Pilot.@@N@@
namespace Jvm.Pilot.@@N@@
open Jvm Jvm.ClassFile Sem Op Lib Jvm.Free Jvm.Stand Jvm.Pilot.@@N@@.Jvm.D
/-! MADE BY PROGRAM (witnessworld.py) out of the Statement's table words and the real class files: 13 classes; the members and pool entries that the words name. The judged class is class 1, her method 2. -/
namespace start1
open Jvm.ClassFile
def u (s : String) : CpInfo := .utf8 (stringToUtf16 s)
/-- a pool by its gaps: so many unusable entries, then the entry; so many at the end -/
def gap : Nat → List CpInfo → List CpInfo
  | 0, r => r
  | n + 1, r => .unusable :: gap n r
def poolList (es : List (Nat × CpInfo)) (last : Nat) : List CpInfo := es.foldr (fun e r => gap e.1 (e.2 :: r)) (gap last [])
def pool (es : List (Nat × CpInfo)) (last : Nat) : Array CpInfo := ⟨poolList es last⟩
def fileOf (pool : Array CpInfo) (this : Nat) (attrs : Array Attribute := #[]) (ms : Array MethodInfo := #[]) (fl : Nat := 33) (sup : Nat := 0) (ifs : Array Nat := #[]) (fds : Array FieldInfo := #[]) : ClassFile where
  minorVersion := 0
  majorVersion := 65
  constantPool := pool
  accessFlags := fl
  thisClass := this
  superClass := sup
  interfaces := ifs
  fields := fds
  methods := ms
  attributes := attrs
def plain (name : String) (sup : Option ClassId) : Class where
  name := name
  kind := .ordinary
  loader := none
  accessFlags := 33
  super := sup
  interfaces := #[]
  cf := none
  fields := #[]
  methods := #[]
  instanceTypes := #[]
  staticTypes := #[]
  resolved := #[]
  callSites := []
  init := .initialized
  statics := none
  mirror := none

def pool0 : Array CpInfo := pool [(5, u "<init>"), (0, u "()V"), (1, .class_ 10), (1, u "java/lang/Object")] 113

def k0m0 : Method := { name := "<init>", desc := "()V", sig := { parameters := [], returnType := none }, accessFlags := 1, code := none }
/-- java/lang/Object -/
def k0 : Class := { plain "java/lang/Object" none with
  accessFlags := 33
  interfaces := #[]
  cf := some (fileOf pool0 8 #[] #[{ accessFlags := 1, nameIndex := 5, descriptorIndex := 6, attributes := #[] }] 33 0 #[] #[])
  fields := #[]
  methods := #[k0m0]
  instanceTypes := #[]
  staticTypes := #[]
  resolved := Array.replicate 124 none
  statics := none }

def pool1 : Array CpInfo := pool [(2, .class_ 4), (1, u "java/lang/Object"), (0, u "<init>"), (0, u "()V"), (0, .fieldref 8 9), (0, .class_ 10), (0, .nameAndType 11 12), (0, u "com/example/framer/framer/chunk/ChunkType"), (0, u "DATA"), (0, u "Lcom/example/framer/framer/chunk/ChunkType;"), (0, .fieldref 8 14), (0, .nameAndType 15 12), (0, u "INIT"), (0, .fieldref 8 17), (0, .nameAndType 18 12), (0, u "ACK"), (0, .fieldref 8 20), (0, .nameAndType 21 12), (0, u "HEARTBEAT"), (0, .fieldref 8 23), (0, .nameAndType 24 12), (0, u "HEARTBEAT_ACK"), (0, .methodref 26 27), (0, .class_ 28), (0, .nameAndType 29 30), (0, u "com/example/framer/framer/chunk/ChunkTypeOfPinLaw"), (0, u "expected"), (0, u "(I)Lcom/example/framer/framer/chunk/ChunkType;"), (0, .methodref 8 32), (0, .nameAndType 33 30), (0, u "of"), (0, .methodref 8 35), (0, .nameAndType 36 37), (0, u "code"), (0, u "()I"), (3, u "law"), (0, u "(II)Z")] 2

def k1m0 : Method := { name := "<init>", desc := "()V", sig := { parameters := [], returnType := none }, accessFlags := 1, code := none }
def k1c1 : Code := { maxStack := 2, maxLocals := 1, code := method_2_code, exceptionTable := #[], attributes := #[] }
def k1m1 : Method := { name := "expected", desc := "(I)Lcom/example/framer/framer/chunk/ChunkType;", sig := { parameters := [.int], returnType := some (.object "com/example/framer/framer/chunk/ChunkType") }, accessFlags := 10, code := some k1c1 }
def k1c2 : Code := { maxStack := 2, maxLocals := 6, code := code, exceptionTable := #[], attributes := #[] }
def k1m2 : Method := { name := "law", desc := "(II)Z", sig := { parameters := [.int, .int], returnType := some .boolean }, accessFlags := 9, code := some k1c2 }
/-- com/example/framer/framer/chunk/ChunkTypeOfPinLaw -/
def k1 : Class := { plain "com/example/framer/framer/chunk/ChunkTypeOfPinLaw" (some 0) with
  accessFlags := 49
  interfaces := #[]
  cf := some (fileOf pool1 26 #[] #[{ accessFlags := 1, nameIndex := 5, descriptorIndex := 6, attributes := #[] }, { accessFlags := 10, nameIndex := 29, descriptorIndex := 30, attributes := #[] }, { accessFlags := 9, nameIndex := 41, descriptorIndex := 42, attributes := #[] }] 49 2 #[] #[])
  fields := #[]
  methods := #[k1m0, k1m1, k1m2]
  instanceTypes := #[]
  staticTypes := #[]
  resolved := Array.replicate 45 none
  statics := none }

def pool2 : Array CpInfo := pool [(1, .class_ 2), (0, u "java/lang/constant/Constable"), (0, .class_ 4), (0, u "java/lang/Object")] 6

/-- java/lang/constant/Constable -/
def k2 : Class := { plain "java/lang/constant/Constable" (some 0) with
  accessFlags := 1537
  interfaces := #[]
  cf := some (fileOf pool2 1 #[] #[] 1537 3 #[] #[])
  fields := #[]
  methods := #[]
  instanceTypes := #[]
  staticTypes := #[]
  resolved := Array.replicate 11 none
  statics := none }

def pool3 : Array CpInfo := pool [(1, .class_ 2), (0, u "java/lang/Comparable"), (0, .class_ 4), (0, u "java/lang/Object")] 7

/-- java/lang/Comparable -/
def k3 : Class := { plain "java/lang/Comparable" (some 0) with
  accessFlags := 1537
  interfaces := #[]
  cf := some (fileOf pool3 1 #[] #[] 1537 3 #[] #[])
  fields := #[]
  methods := #[]
  instanceTypes := #[]
  staticTypes := #[]
  resolved := Array.replicate 12 none
  statics := none }

def pool4 : Array CpInfo := pool [(1, .class_ 2), (0, u "java/io/Serializable"), (0, .class_ 4), (0, u "java/lang/Object")] 2

/-- java/io/Serializable -/
def k4 : Class := { plain "java/io/Serializable" (some 0) with
  accessFlags := 1537
  interfaces := #[]
  cf := some (fileOf pool4 1 #[] #[] 1537 3 #[] #[])
  fields := #[]
  methods := #[]
  instanceTypes := #[]
  staticTypes := #[]
  resolved := Array.replicate 7 none
  statics := none }

def pool5 : Array CpInfo := pool [(2, .class_ 4), (1, u "java/lang/Enum"), (0, u "name"), (0, u "Ljava/lang/String;"), (2, u "ordinal"), (0, u "I"), (1, .class_ 14), (1, u "java/lang/Object"), (4, u "hash"), (86, .class_ 108), (1, u "java/lang/Enum$EnumDesc"), (2, .class_ 112), (0, u "java/lang/constant/Constable"), (0, .class_ 114), (0, u "java/lang/Comparable"), (0, .class_ 116), (0, u "java/io/Serializable")] 87

/-- java/lang/Enum -/
def k5 : Class := { plain "java/lang/Enum" (some 0) with
  accessFlags := 1057
  interfaces := #[2, 3, 4]
  cf := some (fileOf pool5 2 #[.nestMembers #[106]] #[] 1057 12 #[111, 113, 115] #[{ accessFlags := 18, nameIndex := 5, descriptorIndex := 6, attributes := #[] }, { accessFlags := 18, nameIndex := 9, descriptorIndex := 10, attributes := #[] }, { accessFlags := 2, nameIndex := 19, descriptorIndex := 10, attributes := #[] }])
  fields := #[{ name := "name", type := (.object "java/lang/String"), accessFlags := 18, slot := 0, constantValue := 0 }, { name := "ordinal", type := .int, accessFlags := 18, slot := 1, constantValue := 0 }, { name := "hash", type := .int, accessFlags := 2, slot := 2, constantValue := 0 }]
  methods := #[]
  instanceTypes := #[(.object "java/lang/String"), .int, .int]
  staticTypes := #[]
  resolved := Array.replicate 204 none
  statics := none }

def pool6 : Array CpInfo := pool [(1, .class_ 2), (0, u "com/example/framer/framer/chunk/ChunkType"), (2, u "DATA"), (0, u "Lcom/example/framer/framer/chunk/ChunkType;"), (2, u "INIT"), (2, u "ACK"), (2, u "HEARTBEAT"), (2, u "HEARTBEAT_ACK"), (2, u "$VALUES"), (0, u "[Lcom/example/framer/framer/chunk/ChunkType;"), (6, .class_ 31), (1, u "java/lang/Enum"), (6, .fieldref 1 39), (0, .nameAndType 40 41), (0, u "code"), (0, u "I"), (0, .fieldref 1 43), (0, .nameAndType 44 22), (0, u "TYPES"), (21, u "()I"), (0, u "of"), (0, u "(I)Lcom/example/framer/framer/chunk/ChunkType;")] 6

def k6c0 : Code := { maxStack := 1, maxLocals := 1, code := prog_10_method_4_code, exceptionTable := #[], attributes := #[] }
def k6m0 : Method := { name := "code", desc := "()I", sig := { parameters := [], returnType := some .int }, accessFlags := 1, code := some k6c0 }
def k6c1 : Code := { maxStack := 2, maxLocals := 5, code := prog_10_method_5_code, exceptionTable := #[], attributes := #[] }
def k6m1 : Method := { name := "of", desc := "(I)Lcom/example/framer/framer/chunk/ChunkType;", sig := { parameters := [.int], returnType := some (.object "com/example/framer/framer/chunk/ChunkType") }, accessFlags := 9, code := some k6c1 }
/-- com/example/framer/framer/chunk/ChunkType -/
def k6 : Class := { plain "com/example/framer/framer/chunk/ChunkType" (some 5) with
  accessFlags := 16433
  interfaces := #[]
  cf := some (fileOf pool6 1 #[] #[{ accessFlags := 1, nameIndex := 40, descriptorIndex := 66, attributes := #[] }, { accessFlags := 9, nameIndex := 67, descriptorIndex := 68, attributes := #[] }] 16433 29 #[] #[{ accessFlags := 16409, nameIndex := 5, descriptorIndex := 6, attributes := #[] }, { accessFlags := 16409, nameIndex := 9, descriptorIndex := 6, attributes := #[] }, { accessFlags := 16409, nameIndex := 12, descriptorIndex := 6, attributes := #[] }, { accessFlags := 16409, nameIndex := 15, descriptorIndex := 6, attributes := #[] }, { accessFlags := 16409, nameIndex := 18, descriptorIndex := 6, attributes := #[] }, { accessFlags := 26, nameIndex := 44, descriptorIndex := 22, attributes := #[] }, { accessFlags := 18, nameIndex := 40, descriptorIndex := 41, attributes := #[] }, { accessFlags := 4122, nameIndex := 21, descriptorIndex := 22, attributes := #[] }])
  fields := #[{ name := "DATA", type := (.object "com/example/framer/framer/chunk/ChunkType"), accessFlags := 16409, slot := 0, constantValue := 0 }, { name := "INIT", type := (.object "com/example/framer/framer/chunk/ChunkType"), accessFlags := 16409, slot := 1, constantValue := 0 }, { name := "ACK", type := (.object "com/example/framer/framer/chunk/ChunkType"), accessFlags := 16409, slot := 2, constantValue := 0 }, { name := "HEARTBEAT", type := (.object "com/example/framer/framer/chunk/ChunkType"), accessFlags := 16409, slot := 3, constantValue := 0 }, { name := "HEARTBEAT_ACK", type := (.object "com/example/framer/framer/chunk/ChunkType"), accessFlags := 16409, slot := 4, constantValue := 0 }, { name := "TYPES", type := (.array (.object "com/example/framer/framer/chunk/ChunkType")), accessFlags := 26, slot := 5, constantValue := 0 }, { name := "code", type := .int, accessFlags := 18, slot := 3, constantValue := 0 }, { name := "$VALUES", type := (.array (.object "com/example/framer/framer/chunk/ChunkType")), accessFlags := 4122, slot := 6, constantValue := 0 }]
  methods := #[k6m0, k6m1]
  instanceTypes := #[(.object "java/lang/String"), .int, .int, .int]
  staticTypes := #[(.object "com/example/framer/framer/chunk/ChunkType"), (.object "com/example/framer/framer/chunk/ChunkType"), (.object "com/example/framer/framer/chunk/ChunkType"), (.object "com/example/framer/framer/chunk/ChunkType"), (.object "com/example/framer/framer/chunk/ChunkType"), (.array (.object "com/example/framer/framer/chunk/ChunkType")), (.array (.object "com/example/framer/framer/chunk/ChunkType"))]
  resolved := Array.replicate 75 none
  statics := some 0 }

def pool7 : Array CpInfo := pool [(1, u "java/lang/Cloneable"), (0, .class_ 1), (0, u "java/lang/Object"), (0, .class_ 3)] 3

/-- java/lang/Cloneable -/
def k7 : Class := { plain "java/lang/Cloneable" (some 0) with
  accessFlags := 1537
  interfaces := #[]
  cf := some (fileOf pool7 2 #[] #[] 1537 4 #[] #[])
  fields := #[]
  methods := #[]
  instanceTypes := #[]
  staticTypes := #[]
  resolved := Array.replicate 8 none
  statics := none }

/-- the primitive byte -/
def k8 : Class := { plain "byte" none with kind := .primitive 'B', accessFlags := 0x411 }
/-- [B -/
def k9 : Class := { plain "[B" (some 0) with kind := .array 8 .byte, interfaces := #[7, 4], accessFlags := 1041 }

/-- the primitive int -/
def k10 : Class := { plain "int" none with kind := .primitive 'I', accessFlags := 0x411 }
/-- [I -/
def k11 : Class := { plain "[I" (some 0) with kind := .array 10 .int, interfaces := #[7, 4], accessFlags := 1041 }

/-- [Lcom/example/framer/framer/chunk/ChunkType; -/
def k12 : Class := { plain "[Lcom/example/framer/framer/chunk/ChunkType;" (some 0) with kind := .array 6 (.object "com/example/framer/framer/chunk/ChunkType"), interfaces := #[7, 4], accessFlags := 1041 }

def heap : Heap := #[{ cls := 6, slots := #[.ref 2, .ref 3, .ref 4, .ref 5, .ref 6, .ref 1, .null], vm := .statics 6 },
  { cls := 12, slots := #[.ref 2, .ref 3, .ref 4, .ref 5, .ref 6], vm := .none },
  { cls := 6, slots := #[.null, .int 0, .int 0, .int 0], vm := .none },
  { cls := 6, slots := #[.null, .int 1, .int 0, .int 1], vm := .none },
  { cls := 6, slots := #[.null, .int 2, .int 0, .int 3], vm := .none },
  { cls := 6, slots := #[.null, .int 3, .int 0, .int 4], vm := .none },
  { cls := 6, slots := #[.null, .int 4, .int 0, .int 5], vm := .none }]
def classes : Array Class := #[k0, k1, k2, k3, k4, k5, k6, k7, k8, k9, k10, k11, k12]
def interned : List (Array UInt16 × Addr) := []
def slotsUsed : Nat := 32
def theMethod : MethodId := ⟨1, 2⟩
def args0 : Array Value := #[.int 5, .int 3]
def aboutOver (below : List Frame) : State where
  vm := { classes := classes, interned := interned.toArray }
  heap := heap
  slotsUsed := slotsUsed
  threads := #[{ frames := .invoking theMethod args0 :: below }]
def below0 : List Frame := [.native { method := ⟨0, 0⟩, args := #[] }]
def about1 : State := aboutOver below0
def p0 : Program := .bare "" "" ""
def e0 : Env := launch0.env 0 0 0
theorem w_frames : about1.frames = Frame.invoking theMethod args0 :: below0 := rfl
set_option maxRecDepth 65536 in
theorem w_args : argsFit about1.vm theMethod args0 = true := by decide +kernel
set_option maxRecDepth 65536 in
theorem w_heap : heapFits about1 = true := by decide +kernel
set_option maxRecDepth 65536 in
theorem w_runnable : about1.curStatus? = some .runnable := by decide +kernel
set_option maxRecDepth 65536 in
theorem w_alone : about1.alone = true := by decide +kernel
set_option maxRecDepth 65536 in
theorem w_named : about1.methodNamed? x = some theMethod := by decide +kernel
set_option maxRecDepth 65536 in
theorem w_hears : about1.hears theMethod below0 = true := by decide +kernel
set_option maxRecDepth 65536 in
theorem w_ripe : about1.ripe theMethod args0 below0 = true := by decide +kernel
theorem w_running : about1.status = .running := rfl
set_option maxRecDepth 65536 in
theorem w_room : about1.hasRoom e0.platform room_1 = true :=
  launch0.hasRoom_least _ room_1 (by decide +kernel) (by decide +kernel) (by decide +kernel) (by decide +kernel) (by decide +kernel) (by decide +kernel)
theorem allAtoms_all (ts : List Jvm.Cond) (a : Array Jvm.Value) (st : Jvm.State) : (allAtoms ts).before a st = ts.all (fun c => c.before a st) := by
  induction ts with
  | nil => rfl
  | cons c t ih =>
    show (Jvm.Cond.and c (allAtoms t)).before a st = _
    rw [Jvm.Cond.before_and, ih, List.all_cons]
def words1 : List Jvm.Cond := Jvm.Cond.code x code maxLocals ret :: tables_1
/-- a 'code' word, met by the world's own term for the bytes: nothing is compared byte by byte -/
theorem code_word {y : MethodName} {bytes : ByteArray} {mx : Nat} {rt : Option FieldType} {a : Array Value} {s : State} {m : MethodId} {meth : Method} {c : Code} (h1 : s.methodNamed? y = some m) (h2 : s.vm.method? m = some meth) (h3 : meth.code = some c) (h4 : c.code = bytes)
    (h5 : (c.maxLocals == mx && c.exceptionTable.isEmpty && decide (c.maxStack ≤ mostOperands) && decide (meth.sig.returnType = rt) && !meth.locks && decide (parseMethodDescriptor y.desc = some meth.sig)) = true) : (Jvm.Cond.code y bytes mx rt).before a s = true := by
  simp only [Bool.and_eq_true, beq_iff_eq, Bool.not_eq_true', decide_eq_true_eq] at h5
  obtain ⟨⟨⟨⟨⟨g1, g2⟩, g3⟩, g4⟩, g5⟩, g6⟩ := h5
  simp [Cond.before, Cond.holds, Cond.value, h1, h2, h3, h4, g1, g2, g3, g4, g5, g6]
def isCode : Jvm.Cond → Bool
  | .code _ _ _ _ => true
  | _ => false
theorem all_split {L : List Jvm.Cond} {P : Jvm.Cond → Bool} (h1 : L.all (fun c => isCode c || P c) = true) (h2 : ∀ c ∈ L.filter isCode, P c = true) : L.all P = true := by
  refine List.all_eq_true.mpr fun c hc => ?_
  have h := List.all_eq_true.mp h1 c hc
  rcases Bool.eq_false_or_eq_true (isCode c) with hi | hi
  · exact h2 c (List.mem_filter.mpr ⟨hc, hi⟩)
  · simpa [hi] using h
set_option maxRecDepth 65536 in
theorem w_c0 : (Jvm.Cond.code x code maxLocals ret).before args0 about1 = true := code_word (m := ⟨1, 2⟩) (meth := k1m2) (c := k1c2) (by decide +kernel) rfl rfl rfl (by decide +kernel)
set_option maxRecDepth 65536 in
theorem w_c1 : (Jvm.Cond.code ({ cls := "com/example/framer/framer/chunk/ChunkTypeOfPinLaw", name := "expected", desc := "(I)Lcom/example/framer/framer/chunk/ChunkType;" } : Jvm.MethodName) method_2_code (1 : Nat) (Option.some (Jvm.ClassFile.FieldType.object "com/example/framer/framer/chunk/ChunkType"))).before args0 about1 = true := code_word (m := ⟨1, 1⟩) (meth := k1m1) (c := k1c1) (by decide +kernel) rfl rfl rfl (by decide +kernel)
set_option maxRecDepth 65536 in
theorem w_c2 : (Jvm.Cond.code ({ cls := "com/example/framer/framer/chunk/ChunkType", name := "of", desc := "(I)Lcom/example/framer/framer/chunk/ChunkType;" } : Jvm.MethodName) prog_10_method_5_code (5 : Nat) (Option.some (Jvm.ClassFile.FieldType.object "com/example/framer/framer/chunk/ChunkType"))).before args0 about1 = true := code_word (m := ⟨6, 1⟩) (meth := k6m1) (c := k6c1) (by decide +kernel) rfl rfl rfl (by decide +kernel)
set_option maxRecDepth 65536 in
theorem w_c3 : (Jvm.Cond.code ({ cls := "com/example/framer/framer/chunk/ChunkType", name := "code", desc := "()I" } : Jvm.MethodName) prog_10_method_4_code (1 : Nat) (Option.some Jvm.ClassFile.FieldType.int)).before args0 about1 = true := code_word (m := ⟨6, 0⟩) (meth := k6m0) (c := k6c0) (by decide +kernel) rfl rfl rfl (by decide +kernel)
def codes1 : List Jvm.Cond := [Jvm.Cond.code x code maxLocals ret, Jvm.Cond.code ({ cls := "com/example/framer/framer/chunk/ChunkTypeOfPinLaw", name := "expected", desc := "(I)Lcom/example/framer/framer/chunk/ChunkType;" } : Jvm.MethodName) method_2_code (1 : Nat) (Option.some (Jvm.ClassFile.FieldType.object "com/example/framer/framer/chunk/ChunkType")), Jvm.Cond.code ({ cls := "com/example/framer/framer/chunk/ChunkType", name := "of", desc := "(I)Lcom/example/framer/framer/chunk/ChunkType;" } : Jvm.MethodName) prog_10_method_5_code (5 : Nat) (Option.some (Jvm.ClassFile.FieldType.object "com/example/framer/framer/chunk/ChunkType")), Jvm.Cond.code ({ cls := "com/example/framer/framer/chunk/ChunkType", name := "code", desc := "()I" } : Jvm.MethodName) prog_10_method_4_code (1 : Nat) (Option.some Jvm.ClassFile.FieldType.int)]
set_option maxRecDepth 65536 in
theorem codes_eq : words1.filter isCode = codes1 := rfl
theorem w_codes : ∀ c ∈ words1.filter isCode, c.before args0 about1 = true := by
  rw [codes_eq]
  intro c hc
  simp only [codes1, List.mem_cons, List.not_mem_nil, or_false] at hc
  rcases hc with rfl | rfl | rfl | rfl
  · exact w_c0
  · exact w_c1
  · exact w_c2
  · exact w_c3
set_option maxRecDepth 65536 in
theorem w_t1 : (words1.take 24).all (fun c => isCode c || c.before args0 about1) = true := by decide +kernel
set_option maxRecDepth 65536 in
theorem w_t2 : (words1.drop 24).all (fun c => isCode c || c.before args0 about1) = true := by decide +kernel
theorem w_tables : (allAtoms (Jvm.Cond.code x code maxLocals ret :: tables_1)).before args0 about1 = true := by
  rw [allAtoms_all]
  show words1.all (fun c => c.before args0 about1) = true
  refine all_split ?_ w_codes
  rw [← List.take_append_drop 24 words1, List.all_append, w_t1, w_t2]
  rfl
set_option maxRecDepth 65536 in
theorem w_case : (Jvm.Cond.and given_1 narrow_1).before args0 about1 = true := by decide +kernel
theorem w_applies : (headSpec (Jvm.Cond.code x code maxLocals ret :: tables_1) room_1).applies x e0.platform about1 = true :=
  (Spec.applies_iff w_frames).mpr ⟨w_running, w_runnable, w_alone, w_named, w_hears, w_ripe, w_room, w_tables⟩
theorem atStart : AtStart classFile x code maxLocals ret World_1 tables_1 room_1 Calls_1 rest_1 Pre_1 launch0 p0 e0 about1 theMethod args0 below0 :=
  ⟨lists_1, trivial, launch0.admits_env _ _ _, launch0.least_env, fairChoices_fair.cas, fairChoices_fair.clock, w_frames, w_args, w_heap, w_applies, trivial, trivial, w_case⟩
end start1
theorem witness_1 : WitnessClaimed_1 := ⟨start1.p0, start1.e0, start1.about1, start1.theMethod, start1.args0, start1.below0, start1.atStart⟩
end Jvm.Pilot.@@N@@
