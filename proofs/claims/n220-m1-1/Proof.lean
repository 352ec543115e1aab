import JvmDerived
import JvmDerived.Pilot.@@N@@Statement
import JvmDerived.Pilot.@@N@@Code
set_option linter.unusedVariables false
set_option linter.unusedSimpArgs false
namespace Jvm.RoadKit
open Sem ClassFile Op Lib Jvm.Stand Jvm.Free Jvm.LawKit
section New
variable {p : Program} {l : Launch} {e : Env} {R : Room} {s : State} {m : MethodId} {args : Array Value} {below : List Frame} {meth : Method} {c : Code} {T : State} {locs : List Loc} {cells slots : Nat}
theorem retI (X : Stand p l e R s m args below meth c T locs cells slots) (hx : p.tables.exec = Jvm.exec) {pc : Nat} {Ls : Array Slot} {z : Int32} {rest : List Value} (hret : meth.sig.returnType = some .int) (hd : decode c.code pc = .ok (.ireturn, 1)) {fs : List Frame}
    (hl : ∀ (f : JFrame) (acts : List Action), f.method = m → f.locked = none → f.entered = [] → (doReturn e (T.setTop f) acts (some (.int z))).1 = T.setFrames fs) : Steps p.tables e below (T.setTop (mkF m pc Ls (.int z :: rest))) (T.setFrames fs) := by
  have hm' : T.vm.method? m = some meth := X.method'
  have hn : narrow .int (.int z) = .int z := rfl
  show Steps p.tables e below (T.setTop { method := m, pc := pc, locals := Ls, stack := _ :: rest, locked := none }) _
  jvm_step X.here [X.here.top, hx, hd, hm', hret, hn]
  first | (intro acts; rw [hl _ acts rfl rfl rfl]) | rw [hl _ _ rfl rfl rfl]
  exact Steps.refl _
theorem own_lrem {g : JFrame} {target : State} (X : Stand p l e R s m args below meth c T locs cells slots) (hx : p.tables.exec = Jvm.exec) (hg : g.method = m) {x y : Int64} {rest : List Value} (hd : decode c.code g.pc = .ok (.lrem, 1)) (hs : g.stack = .long y :: .long x :: rest) (hy : y ≠ 0)
    (hr : Steps p.tables e below (T.setTop { g with pc := g.pc + 1, stack := .long (x % y) :: rest }) target) : Steps p.tables e below (T.setTop g) target :=
  XS.lrem X.here hx hg hd hs hy (by first | exact hr | (rw [lrem_mod]; exact hr))
end New
end Jvm.RoadKit
namespace Jvm.Pilot.@@N@@
open Jvm Jvm.ClassFile Sem Op Lib Jvm.Free Jvm.Stand Jvm.LawKit Jvm.RoadKit Bundle Jvm.Pilot.@@N@@.Jvm.D
/-- from the state A the body returns with QQ -/
def own_Go (p : Program) (e : Env) (below : List Frame) (s : State) (QQ : Option Value → Heap → List Loc → Prop) (k n : Nat) (A : State) : Prop :=
  ∃ U o, Steps p.tables e below A U ∧ U.status = .running ∧ Ended U below o ∧ ∃ v L, o = .returned v ∧ QQ v U.heap L ∧ FrameEnd s o U L k n
theorem own_go {p : Program} {e : Env} {below : List Frame} {s : State} {QQ : Option Value → Heap → List Loc → Prop} {k n : Nat} {A B : State} (h : ∀ t, Steps p.tables e below B t → Steps p.tables e below A t) (g : own_Go p e below s QQ k n B) : own_Go p e below s QQ k n A := by
  obtain ⟨U, o, h1, r⟩ := g
  exact ⟨U, o, h U h1, r⟩
theorem own_ret {p : Program} {l : Launch} {e : Env} {R : Room} {s : State} {m : MethodId} {args : Array Value} {below : List Frame} {meth : Method} {c : Code} {T : State} {locs : List Loc} {cells slots : Nat} {QQ : Option Value → Heap → List Loc → Prop} {k n : Nat} {A : State}
    (X : Stand p l e R s m args below meth c T locs cells slots) {v : Option Value} (hv : meth.sig.returnType = none → v = none) (hlk : meth.locks = false) (hQ : QQ v T.heap locs) (hk : cells ≤ k) (hn : slots ≤ n)
    (st : ∀ fs, (∀ (f : JFrame) (acts : List Action), f.method = m → f.locked = none → f.entered = [] → (doReturn e (T.setTop f) acts v).1 = T.setFrames fs) → Steps p.tables e below A (T.setFrames fs)) : own_Go p e below s QQ k n A := by
  obtain ⟨fs, hr, hrun, hended, hW, hsame⟩ := X.leave hv hlk
  exact ⟨_, _, st fs hr, hrun, hended, _, _, rfl, hQ, ⟨_, rfl⟩, hW, hsame.mono hk hn⟩
def own_GoW (p : Program) (e : Env) (below : List Frame) (s : State) (QQ : Option Value → Heap → List Loc → Prop) (k n : Nat) (A : State) : Prop :=
  ∃ U o, Steps p.tables e below A U ∧ U.status = .running ∧ Ended U below o ∧ ∃ v L, o = .returned v ∧ QQ v U.heap L ∧ ReturnedEndW s o U L k n
theorem own_goW {p : Program} {e : Env} {below : List Frame} {s : State} {QQ : Option Value → Heap → List Loc → Prop} {k n : Nat} {A B : State} (h : ∀ t, Steps p.tables e below B t → Steps p.tables e below A t) (g : own_GoW p e below s QQ k n B) : own_GoW p e below s QQ k n A := by
  obtain ⟨U, o, h1, r⟩ := g
  exact ⟨U, o, h U h1, r⟩
theorem own_retW {p : Program} {l : Launch} {e : Env} {R : Room} {s : State} {vm₁ : Vm} {m : MethodId} {args : Array Value} {below : List Frame} {meth : Method} {c : Code} {T : State} {locs : List Loc} {cells slots : Nat} {QQ : Option Value → Heap → List Loc → Prop} {k n : Nat} {A : State}
    (X : Stand p l e R (s.setVm vm₁) m args below meth c T locs cells slots) {n1 : Nat} (hS : s.Since vm₁ n1) (hn1 : n1 ≤ T.heap.size) {v : Option Value} (hv : meth.sig.returnType = none → v = none) (hlk : meth.locks = false) (hQ : QQ v T.heap locs) (hk : cells ≤ k) (hn : slots ≤ n)
    (st : ∀ fs, (∀ (f : JFrame) (acts : List Action), f.method = m → f.locked = none → f.entered = [] → (doReturn e (T.setTop f) acts v).1 = T.setFrames fs) → Steps p.tables e below A (T.setFrames fs)) : own_GoW p e below s QQ k n A := by
  obtain ⟨fs, hr, hrun, hended, hq⟩ := X.leaveW hS hn1 hv hlk
  exact ⟨_, _, st fs hr, hrun, hended, _, _, rfl, hQ, hq.1, hq.2.1, hq.2.2.1, hq.2.2.2.mono hk hn⟩
/-- an array by what its places hold -/
def own_Ary (Z : State) (h : Heap) (a : Addr) (ty : FieldType) (n : Nat) (f : Nat → Value) : Prop := ∃ c : Cell, Arr Z h a c ty ∧ c.slots.size = n ∧ ∀ j, j < n → c.slots[j]? = some (f j)
def own_set (f : Nat → Value) (i : Nat) (v : Value) : Nat → Value := fun j => if j = i then v else f j
section
variable {Z : State} {h h' : Heap} {a b : Addr} {ty : FieldType} {n : Nat} {f : Nat → Value}
theorem own_Ary.lt (F : own_Ary Z h a ty n f) : a < h.size := by obtain ⟨c, A, -⟩ := F; exact A.lt
theorem own_Ary.ext (F : own_Ary Z h a ty n f) (E : Ext h h') : own_Ary Z h' a ty n f := by obtain ⟨c, A, r⟩ := F; exact ⟨c, A.ext E, r⟩
theorem own_Ary.other {sl : Nat} {v : Value} (F : own_Ary Z h b ty n f) (W : Wr h h' a sl v) (q : b ≠ a) : own_Ary Z h' b ty n f := by obtain ⟨c, A, r⟩ := F; exact ⟨c, A.other W q, r⟩
theorem own_Ary.keep {ws : List Addr} (F : own_Ary Z h a ty n f) (K : Keep h h' ws) (q : a ∉ ws) : own_Ary Z h' a ty n f := by obtain ⟨c, A, r⟩ := F; exact ⟨c, ⟨K.2.1 a c A.1 q, A.2⟩, r⟩
theorem own_Ary.new {k : ClassId} {z : Int32} (A : Arr Z h a (newA k ty z) ty) (hz : z.toNatClampNeg = n) : own_Ary Z h a ty n (fun _ => defaultValue ty) :=
  ⟨_, A, by rw [sz_new]; exact hz, fun j hj => by simp [newA, hz, hj]⟩
theorem own_Ary.set {c : Cell} {i : Nat} {v : Value} (A : Arr Z h a c ty) (S : c.slots.size = n) (G : ∀ j, j < n → c.slots[j]? = some (f j)) (W : Wr h h' a i v) : own_Ary Z h' a ty n (own_set f i v) := by
  refine ⟨_, A.same W, by rw [sz_set]; exact S, fun j hj => ?_⟩
  simp only [Cell.setSlot, Array.getElem?_setIfInBounds, own_set]
  by_cases q : j = i
  · subst q; simp [S, hj]
  · have q' : ¬ i = j := fun z => q z.symm
    simp [q, q', G j hj]
theorem own_Ary.congr {g : Nat → Value} (F : own_Ary Z h a ty n f) (q : ∀ j, j < n → f j = g j) : own_Ary Z h a ty n g := by
  obtain ⟨c, A, S, G⟩ := F; exact ⟨c, A, S, fun j hj => by rw [G j hj, q j hj]⟩
theorem own_sta_keep {C m d : String} {v : Value} (F : Sta Z h C m d v) (K : Keep h h' []) : Sta Z h' C m d v := by
  obtain ⟨cf, i, k, g, st, cell, h1, h2, h3, h4, h5, r⟩ := F
  exact ⟨cf, i, k, g, st, cell, h1, h2, h3, h4, K.2.1 _ _ h5 nin0, r⟩
theorem own_cl {j : Int32} {i : Nat} (q : j.toInt = (i : Int)) : j.toNatClampNeg = i := by
  show j.toInt.toNat = i
  rw [q]; rfl
theorem own_in {c : Cell} {j : Int32} {i : Nat} (S : c.slots.size = n) (q : j.toInt = (i : Int)) (hi : i < n) : ¬ (j < 0 ∨ c.slots.size ≤ j.toNatClampNeg) := by
  rw [own_cl q, S]
  have h0 : (0 : Int32).toInt = 0 := by decide
  intro z
  rcases z with z | z
  · have := Int32.lt_iff_toInt_lt.mp z; omega
  · omega
end
def own_sh (x : Int64) (k : Int32) : Int64 := ((x.toUInt64 >>> (k &&& 0x3f).toInt64.toUInt64).toInt64)
def own_x (k : Int32) (z : Int64) : Int64 := z ^^^ own_sh z k
def own_u (j k : Int32) (z : Int64) : Int64 := (z ^^^ own_sh z j) ^^^ own_sh z k
def own_nth (s n : Int64) : Int64 := own_x 31 (own_x 27 (own_x 30 (s + n * (-7046029254386353131 : Int64)) * (-4658895280553007687 : Int64)) * (-7723592293110705685 : Int64))
def own_nw (c x : Int64) : Int64 := x * ((2 : Int64) - c * x)
def own_inv (c : Int64) : Int64 := own_nw c (own_nw c (own_nw c (own_nw c (own_nw c (own_nw c c)))))
theorem own_bv (x : BitVec 64) (k : Nat) (h : 64 ≤ 3 * k) : ((x ^^^ (x >>> k)) ^^^ ((x ^^^ (x >>> k)) >>> k)) ^^^ ((x ^^^ (x >>> k)) >>> (2 * k)) = x := by
  apply BitVec.eq_of_getLsbD_eq
  intro i hi
  have h3 : x.getLsbD (k + (2 * k + i)) = false := BitVec.getLsbD_of_ge _ _ (by omega)
  have h2 : k + (k + i) = 2 * k + i := by omega
  simp only [BitVec.getLsbD_xor, BitVec.getLsbD_ushiftRight, h2, h3]
  cases x.getLsbD i <;> cases x.getLsbD (k + i) <;> cases x.getLsbD (2 * k + i) <;> rfl
theorem own_s30 (x : Int64) : (own_sh x 30).toBitVec = x.toBitVec >>> 30 := rfl
theorem own_s60 (x : Int64) : (own_sh x 60).toBitVec = x.toBitVec >>> 60 := rfl
theorem own_s27 (x : Int64) : (own_sh x 27).toBitVec = x.toBitVec >>> 27 := rfl
theorem own_s54 (x : Int64) : (own_sh x 54).toBitVec = x.toBitVec >>> 54 := rfl
theorem own_s31 (x : Int64) : (own_sh x 31).toBitVec = x.toBitVec >>> 31 := rfl
theorem own_s62 (x : Int64) : (own_sh x 62).toBitVec = x.toBitVec >>> 62 := rfl
theorem own_u30 (x : Int64) : own_u 30 60 (own_x 30 x) = x := by
  apply Int64.toBitVec_inj.mp
  simp only [own_u, own_x, Int64.toBitVec_xor, own_s30, own_s60]
  exact own_bv x.toBitVec 30 (by decide)
theorem own_u27 (x : Int64) : own_u 27 54 (own_x 27 x) = x := by
  apply Int64.toBitVec_inj.mp
  simp only [own_u, own_x, Int64.toBitVec_xor, own_s27, own_s54]
  exact own_bv x.toBitVec 27 (by decide)
theorem own_u31 (x : Int64) : own_u 31 62 (own_x 31 x) = x := by
  apply Int64.toBitVec_inj.mp
  simp only [own_u, own_x, Int64.toBitVec_xor, own_s31, own_s62]
  exact own_bv x.toBitVec 31 (by decide)
theorem own_i1 : (-4658895280553007687 : Int64) * own_inv (-4658895280553007687 : Int64) = 1 := by decide +kernel
theorem own_i2 : (-7723592293110705685 : Int64) * own_inv (-7723592293110705685 : Int64) = 1 := by decide +kernel
theorem own_m1 (x : Int64) : x * (-4658895280553007687 : Int64) * own_inv (-4658895280553007687 : Int64) = x := by rw [Int64.mul_assoc, own_i1, Int64.mul_one]
theorem own_m2 (x : Int64) : x * (-7723592293110705685 : Int64) * own_inv (-7723592293110705685 : Int64) = x := by rw [Int64.mul_assoc, own_i2, Int64.mul_one]
theorem own_key (s n : Int64) : own_u 30 60 (own_u 27 54 (own_u 31 62 (own_nth s n) * own_inv (-7723592293110705685 : Int64)) * own_inv (-4658895280553007687 : Int64)) = s + n * (-7046029254386353131 : Int64) := by
  unfold own_nth
  rw [own_u31, own_m2, own_u27, own_m1, own_u30]
theorem pn_0 : plainName "com/example/evenkeel/evenkeel/SplitMix" = true := by first | (simp [plainName, overriddenIn]; done) | decide +kernel
theorem d1_0 : decode prog_164_method_2_code 0 = .ok (.lload_n 0, 1) := by decide +kernel
theorem d1_1 : decode prog_164_method_2_code 1 = .ok (.lload_n 2, 1) := by decide +kernel
theorem d1_2 : decode prog_164_method_2_code 2 = .ok (.ldc2_w 9, 3) := by decide +kernel
theorem d1_5 : decode prog_164_method_2_code 5 = .ok (.lmul, 1) := by decide +kernel
theorem d1_6 : decode prog_164_method_2_code 6 = .ok (.ladd, 1) := by decide +kernel
theorem d1_7 : decode prog_164_method_2_code 7 = .ok (.lstore 4, 2) := by decide +kernel
theorem d1_9 : decode prog_164_method_2_code 9 = .ok (.lload 4, 2) := by decide +kernel
theorem d1_11 : decode prog_164_method_2_code 11 = .ok (.lload 4, 2) := by decide +kernel
theorem d1_13 : decode prog_164_method_2_code 13 = .ok (.bipush 30, 2) := by decide +kernel
theorem d1_15 : decode prog_164_method_2_code 15 = .ok (.lushr, 1) := by decide +kernel
theorem d1_16 : decode prog_164_method_2_code 16 = .ok (.lxor, 1) := by decide +kernel
theorem d1_17 : decode prog_164_method_2_code 17 = .ok (.ldc2_w 11, 3) := by decide +kernel
theorem d1_20 : decode prog_164_method_2_code 20 = .ok (.lmul, 1) := by decide +kernel
theorem d1_21 : decode prog_164_method_2_code 21 = .ok (.lstore 4, 2) := by decide +kernel
theorem d1_23 : decode prog_164_method_2_code 23 = .ok (.lload 4, 2) := by decide +kernel
theorem d1_25 : decode prog_164_method_2_code 25 = .ok (.lload 4, 2) := by decide +kernel
theorem d1_27 : decode prog_164_method_2_code 27 = .ok (.bipush 27, 2) := by decide +kernel
theorem d1_29 : decode prog_164_method_2_code 29 = .ok (.lushr, 1) := by decide +kernel
theorem d1_30 : decode prog_164_method_2_code 30 = .ok (.lxor, 1) := by decide +kernel
theorem d1_31 : decode prog_164_method_2_code 31 = .ok (.ldc2_w 13, 3) := by decide +kernel
theorem d1_34 : decode prog_164_method_2_code 34 = .ok (.lmul, 1) := by decide +kernel
theorem d1_35 : decode prog_164_method_2_code 35 = .ok (.lstore 4, 2) := by decide +kernel
theorem d1_37 : decode prog_164_method_2_code 37 = .ok (.lload 4, 2) := by decide +kernel
theorem d1_39 : decode prog_164_method_2_code 39 = .ok (.lload 4, 2) := by decide +kernel
theorem d1_41 : decode prog_164_method_2_code 41 = .ok (.bipush 31, 2) := by decide +kernel
theorem d1_43 : decode prog_164_method_2_code 43 = .ok (.lushr, 1) := by decide +kernel
theorem d1_44 : decode prog_164_method_2_code 44 = .ok (.lxor, 1) := by decide +kernel
theorem d1_45 : decode prog_164_method_2_code 45 = .ok (.lreturn, 1) := by decide +kernel
theorem ef_1 (m : MethodId) (q0 : Int64) (q1 : Int64) : entryFrame m #[(.long q0), (.long q1)] 6 = mkF m 0 #[.val (.long q0), .second, .val (.long q1), .second, .unset, .unset] [] := by first | (simp [entryFrame, mkF, argsToLocals, Value.category]; done) | rfl
def Q1 (Z : State) (q0 : Int64) (q1 : Int64) (h0 : Heap) (n0 : Nat) (v : Option Value) (h : Heap) (L : List Loc) : Prop := v = some (.long (own_nth q0 q1)) ∧ Fr n0 L ∧ h = h0
set_option maxRecDepth 65536 in
set_option maxHeartbeats 40000000 in
theorem rm1 (l : Launch) (Z : State) (a0 : Array Value) (hw : ∀ d ∈ tables_1, d.before a0 Z = true) (ws : List Jvm.Cond) (q0 : Int64) (q1 : Int64) (h0 : Heap) (n0 : Nat) (Z0 : n0 ≤ h0.size) :
    MetFree l (⟨"com/example/evenkeel/evenkeel/SplitMix", "nth", "(JJ)J"⟩ : MethodName) (head1 (Jvm.Cond.code (⟨"com/example/evenkeel/evenkeel/SplitMix", "nth", "(JJ)J"⟩ : MethodName) prog_164_method_2_code 6 (some .long) :: ws) ({ frames := 0, cells := 0, slots := 0, locals := 0 } : Room)) (fun a U => a = #[(.long q0), (.long q1)] ∧ Z.Warmed39 U.vm ∧ U.heap = h0) (fun _ _ _ _ _ => True) (fun _ U o U' => ∃ v L, o = .returned v ∧ Q1 Z q0 q1 h0 n0 v U'.heap L ∧ FrameEnd U o U' L (({ frames := 0, cells := 0, slots := 0, locals := 0 } : Room)).cells (({ frames := 0, cells := 0, slots := 0, locals := 0 } : Room)).slots) := by
  refine MetFree.of_bodySF (plainFor_of_name pn_0) hisR ?_
  intro p e s m args below meth c s₁ Bd hml0 hP hK
  obtain ⟨rfl, hZ, hh⟩ := hP
  have hx := Bd.exec
  have hby := Bd.bytes
  have hml : c.maxLocals = 6 := hml0
  have hown : s.vm.findClass "com/example/evenkeel/evenkeel/SplitMix" = some m.cls := findClass_of_methodNamed Bd.named
  have hnm := (name_of_methodNamed Bd.named Bd.method).1
  have hlk : meth.locks = false := Bd.notSynchronized
  have X0 : Stand p l e ({ frames := 0, cells := 0, slots := 0, locals := 0 } : Room) s m #[(.long q0), (.long q1)] below meth c s₁ [] 0 0 := Stand.of_body Bd
  have e0 : s₁.heap = h0 := by rw [← hh, Bd.state]; rfl
  have N0 := Fr.nil n0
  have hret := Bd.returns
  show own_Go p e below s (Q1 Z q0 q1 h0 n0) _ _ (s₁.setTop (entryFrame m #[(.long q0), (.long q1)] 6))
  refine own_go (fun t k => castTop (ef_1 m q0 q1) k) ?_
  show own_Go p e below s _ _ _ (s₁.setTop (mkF m 0 #[.val (.long q0), .second, .val (.long q1), .second, .unset, .unset] []))
  refine own_go (fun t k => XS.lloadN X0.here hx rfl (hb hby d1_0) rfl k) ?_
  show own_Go p e below s _ _ _ (s₁.setTop (mkF m 1 #[.val (.long q0), .second, .val (.long q1), .second, .unset, .unset] [(.long q0)]))
  refine own_go (fun t k => XS.lloadN X0.here hx rfl (hb hby d1_1) rfl k) ?_
  show own_Go p e below s _ _ _ (s₁.setTop (mkF m 2 #[.val (.long q0), .second, .val (.long q1), .second, .unset, .unset] [(.long q1), (.long q0)]))
  refine own_go (fun t k => X0.ldc2Long hx hown (mvT hZ (hw _ (List.mem_of_getElem? (i := 7) rfl))) (g := (mkF m 2 #[.val (.long q0), .second, .val (.long q1), .second, .unset, .unset] [(.long q1), (.long q0)])) rfl (hb hby d1_2) _ k) ?_
  show own_Go p e below s _ _ _ (s₁.setTop (mkF m 5 #[.val (.long q0), .second, .val (.long q1), .second, .unset, .unset] [(.long (-7046029254386353131 : Int64)), (.long q1), (.long q0)]))
  refine own_go (fun t k => XS.lmul X0.here hx rfl (hb hby d1_5) rfl k) ?_
  show own_Go p e below s _ _ _ (s₁.setTop (mkF m 6 #[.val (.long q0), .second, .val (.long q1), .second, .unset, .unset] [(.long (q1 * (-7046029254386353131 : Int64))), (.long q0)]))
  refine own_go (fun t k => XS.ladd X0.here hx rfl (hb hby d1_6) rfl k) ?_
  show own_Go p e below s _ _ _ (s₁.setTop (mkF m 7 #[.val (.long q0), .second, .val (.long q1), .second, .unset, .unset] [(.long (q0 + (q1 * (-7046029254386353131 : Int64))))]))
  refine own_go (fun t k => XS.lstore X0.here hx rfl (hb hby d1_7) rfl (l' := #[.val (.long q0), .second, .val (.long q1), .second, .val (.long (q0 + (q1 * (-7046029254386353131 : Int64)))), .second]) rfl k) ?_
  show own_Go p e below s _ _ _ (s₁.setTop (mkF m 9 #[.val (.long q0), .second, .val (.long q1), .second, .val (.long (q0 + (q1 * (-7046029254386353131 : Int64)))), .second] []))
  obtain ⟨z1, hz1⟩ : ∃ z, z = (q0 + (q1 * (-7046029254386353131 : Int64))) := ⟨_, rfl⟩
  rw [← hz1]
  show own_Go p e below s _ _ _ (s₁.setTop (mkF m 9 #[.val (.long q0), .second, .val (.long q1), .second, .val (.long z1), .second] []))
  refine own_go (fun t k => XS.lload X0.here hx rfl (hb hby d1_9) rfl k) ?_
  show own_Go p e below s _ _ _ (s₁.setTop (mkF m 11 #[.val (.long q0), .second, .val (.long q1), .second, .val (.long z1), .second] [(.long z1)]))
  refine own_go (fun t k => XS.lload X0.here hx rfl (hb hby d1_11) rfl k) ?_
  show own_Go p e below s _ _ _ (s₁.setTop (mkF m 13 #[.val (.long q0), .second, .val (.long q1), .second, .val (.long z1), .second] [(.long z1), (.long z1)]))
  refine own_go (fun t k => XS.bipush X0.here hx rfl (hb hby d1_13) k) ?_
  show own_Go p e below s _ _ _ (s₁.setTop (mkF m 15 #[.val (.long q0), .second, .val (.long q1), .second, .val (.long z1), .second] [(.int (30 : Int32)), (.long z1), (.long z1)]))
  refine own_go (fun t k => XS.lushr X0.here hx rfl (hb hby d1_15) rfl k) ?_
  show own_Go p e below s _ _ _ (s₁.setTop (mkF m 16 #[.val (.long q0), .second, .val (.long q1), .second, .val (.long z1), .second] [(.long ((z1.toUInt64 >>> ((30 : Int32) &&& 0x3f).toInt64.toUInt64).toInt64)), (.long z1)]))
  refine own_go (fun t k => XS.lxor X0.here hx rfl (hb hby d1_16) rfl k) ?_
  show own_Go p e below s _ _ _ (s₁.setTop (mkF m 17 #[.val (.long q0), .second, .val (.long q1), .second, .val (.long z1), .second] [(.long (z1 ^^^ ((z1.toUInt64 >>> ((30 : Int32) &&& 0x3f).toInt64.toUInt64).toInt64)))]))
  refine own_go (fun t k => X0.ldc2Long hx hown (mvT hZ (hw _ (List.mem_of_getElem? (i := 8) rfl))) (g := (mkF m 17 #[.val (.long q0), .second, .val (.long q1), .second, .val (.long z1), .second] [(.long (z1 ^^^ ((z1.toUInt64 >>> ((30 : Int32) &&& 0x3f).toInt64.toUInt64).toInt64)))])) rfl (hb hby d1_17) _ k) ?_
  show own_Go p e below s _ _ _ (s₁.setTop (mkF m 20 #[.val (.long q0), .second, .val (.long q1), .second, .val (.long z1), .second] [(.long (-4658895280553007687 : Int64)), (.long (z1 ^^^ ((z1.toUInt64 >>> ((30 : Int32) &&& 0x3f).toInt64.toUInt64).toInt64)))]))
  refine own_go (fun t k => XS.lmul X0.here hx rfl (hb hby d1_20) rfl k) ?_
  show own_Go p e below s _ _ _ (s₁.setTop (mkF m 21 #[.val (.long q0), .second, .val (.long q1), .second, .val (.long z1), .second] [(.long ((z1 ^^^ ((z1.toUInt64 >>> ((30 : Int32) &&& 0x3f).toInt64.toUInt64).toInt64)) * (-4658895280553007687 : Int64)))]))
  refine own_go (fun t k => XS.lstore X0.here hx rfl (hb hby d1_21) rfl (l' := #[.val (.long q0), .second, .val (.long q1), .second, .val (.long ((z1 ^^^ ((z1.toUInt64 >>> ((30 : Int32) &&& 0x3f).toInt64.toUInt64).toInt64)) * (-4658895280553007687 : Int64))), .second]) rfl k) ?_
  show own_Go p e below s _ _ _ (s₁.setTop (mkF m 23 #[.val (.long q0), .second, .val (.long q1), .second, .val (.long ((z1 ^^^ ((z1.toUInt64 >>> ((30 : Int32) &&& 0x3f).toInt64.toUInt64).toInt64)) * (-4658895280553007687 : Int64))), .second] []))
  obtain ⟨z2, hz2⟩ : ∃ z, z = ((z1 ^^^ ((z1.toUInt64 >>> ((30 : Int32) &&& 0x3f).toInt64.toUInt64).toInt64)) * (-4658895280553007687 : Int64)) := ⟨_, rfl⟩
  rw [← hz2]
  show own_Go p e below s _ _ _ (s₁.setTop (mkF m 23 #[.val (.long q0), .second, .val (.long q1), .second, .val (.long z2), .second] []))
  refine own_go (fun t k => XS.lload X0.here hx rfl (hb hby d1_23) rfl k) ?_
  show own_Go p e below s _ _ _ (s₁.setTop (mkF m 25 #[.val (.long q0), .second, .val (.long q1), .second, .val (.long z2), .second] [(.long z2)]))
  refine own_go (fun t k => XS.lload X0.here hx rfl (hb hby d1_25) rfl k) ?_
  show own_Go p e below s _ _ _ (s₁.setTop (mkF m 27 #[.val (.long q0), .second, .val (.long q1), .second, .val (.long z2), .second] [(.long z2), (.long z2)]))
  refine own_go (fun t k => XS.bipush X0.here hx rfl (hb hby d1_27) k) ?_
  show own_Go p e below s _ _ _ (s₁.setTop (mkF m 29 #[.val (.long q0), .second, .val (.long q1), .second, .val (.long z2), .second] [(.int (27 : Int32)), (.long z2), (.long z2)]))
  refine own_go (fun t k => XS.lushr X0.here hx rfl (hb hby d1_29) rfl k) ?_
  show own_Go p e below s _ _ _ (s₁.setTop (mkF m 30 #[.val (.long q0), .second, .val (.long q1), .second, .val (.long z2), .second] [(.long ((z2.toUInt64 >>> ((27 : Int32) &&& 0x3f).toInt64.toUInt64).toInt64)), (.long z2)]))
  refine own_go (fun t k => XS.lxor X0.here hx rfl (hb hby d1_30) rfl k) ?_
  show own_Go p e below s _ _ _ (s₁.setTop (mkF m 31 #[.val (.long q0), .second, .val (.long q1), .second, .val (.long z2), .second] [(.long (z2 ^^^ ((z2.toUInt64 >>> ((27 : Int32) &&& 0x3f).toInt64.toUInt64).toInt64)))]))
  refine own_go (fun t k => X0.ldc2Long hx hown (mvT hZ (hw _ (List.mem_of_getElem? (i := 9) rfl))) (g := (mkF m 31 #[.val (.long q0), .second, .val (.long q1), .second, .val (.long z2), .second] [(.long (z2 ^^^ ((z2.toUInt64 >>> ((27 : Int32) &&& 0x3f).toInt64.toUInt64).toInt64)))])) rfl (hb hby d1_31) _ k) ?_
  show own_Go p e below s _ _ _ (s₁.setTop (mkF m 34 #[.val (.long q0), .second, .val (.long q1), .second, .val (.long z2), .second] [(.long (-7723592293110705685 : Int64)), (.long (z2 ^^^ ((z2.toUInt64 >>> ((27 : Int32) &&& 0x3f).toInt64.toUInt64).toInt64)))]))
  refine own_go (fun t k => XS.lmul X0.here hx rfl (hb hby d1_34) rfl k) ?_
  show own_Go p e below s _ _ _ (s₁.setTop (mkF m 35 #[.val (.long q0), .second, .val (.long q1), .second, .val (.long z2), .second] [(.long ((z2 ^^^ ((z2.toUInt64 >>> ((27 : Int32) &&& 0x3f).toInt64.toUInt64).toInt64)) * (-7723592293110705685 : Int64)))]))
  refine own_go (fun t k => XS.lstore X0.here hx rfl (hb hby d1_35) rfl (l' := #[.val (.long q0), .second, .val (.long q1), .second, .val (.long ((z2 ^^^ ((z2.toUInt64 >>> ((27 : Int32) &&& 0x3f).toInt64.toUInt64).toInt64)) * (-7723592293110705685 : Int64))), .second]) rfl k) ?_
  show own_Go p e below s _ _ _ (s₁.setTop (mkF m 37 #[.val (.long q0), .second, .val (.long q1), .second, .val (.long ((z2 ^^^ ((z2.toUInt64 >>> ((27 : Int32) &&& 0x3f).toInt64.toUInt64).toInt64)) * (-7723592293110705685 : Int64))), .second] []))
  obtain ⟨z3, hz3⟩ : ∃ z, z = ((z2 ^^^ ((z2.toUInt64 >>> ((27 : Int32) &&& 0x3f).toInt64.toUInt64).toInt64)) * (-7723592293110705685 : Int64)) := ⟨_, rfl⟩
  rw [← hz3]
  show own_Go p e below s _ _ _ (s₁.setTop (mkF m 37 #[.val (.long q0), .second, .val (.long q1), .second, .val (.long z3), .second] []))
  refine own_go (fun t k => XS.lload X0.here hx rfl (hb hby d1_37) rfl k) ?_
  show own_Go p e below s _ _ _ (s₁.setTop (mkF m 39 #[.val (.long q0), .second, .val (.long q1), .second, .val (.long z3), .second] [(.long z3)]))
  refine own_go (fun t k => XS.lload X0.here hx rfl (hb hby d1_39) rfl k) ?_
  show own_Go p e below s _ _ _ (s₁.setTop (mkF m 41 #[.val (.long q0), .second, .val (.long q1), .second, .val (.long z3), .second] [(.long z3), (.long z3)]))
  refine own_go (fun t k => XS.bipush X0.here hx rfl (hb hby d1_41) k) ?_
  show own_Go p e below s _ _ _ (s₁.setTop (mkF m 43 #[.val (.long q0), .second, .val (.long q1), .second, .val (.long z3), .second] [(.int (31 : Int32)), (.long z3), (.long z3)]))
  refine own_go (fun t k => XS.lushr X0.here hx rfl (hb hby d1_43) rfl k) ?_
  show own_Go p e below s _ _ _ (s₁.setTop (mkF m 44 #[.val (.long q0), .second, .val (.long q1), .second, .val (.long z3), .second] [(.long ((z3.toUInt64 >>> ((31 : Int32) &&& 0x3f).toInt64.toUInt64).toInt64)), (.long z3)]))
  refine own_go (fun t k => XS.lxor X0.here hx rfl (hb hby d1_44) rfl k) ?_
  show own_Go p e below s _ _ _ (s₁.setTop (mkF m 45 #[.val (.long q0), .second, .val (.long q1), .second, .val (.long z3), .second] [(.long (z3 ^^^ ((z3.toUInt64 >>> ((31 : Int32) &&& 0x3f).toInt64.toUInt64).toInt64)))]))
  refine own_ret X0 (v := some (.long (z3 ^^^ ((z3.toUInt64 >>> ((31 : Int32) &&& 0x3f).toInt64.toUInt64).toInt64)))) (fun h => by rw [hret] at h; cases h) hlk ?_ (by decide) (by decide) (fun fs hr => X0.lreturnOut hx hret (hb hby d1_45) hr)
  show Q1 Z q0 q1 h0 n0 (some (.long (z3 ^^^ ((z3.toUInt64 >>> ((31 : Int32) &&& 0x3f).toInt64.toUInt64).toInt64)))) s₁.heap _
  rw [e0]
  exact ⟨by subst hz3 hz2 hz1; rfl, N0, rfl⟩
theorem pn_1 : plainName "com/example/evenkeel/evenkeel/SplitMixNthPinLaw" = true := by first | (simp [plainName, overriddenIn]; done) | decide +kernel
theorem d2_0 : decode method_2_code 0 = .ok (.lload_n 0, 1) := by decide +kernel
theorem d2_1 : decode method_2_code 1 = .ok (.lstore_n 2, 1) := by decide +kernel
theorem d2_2 : decode method_2_code 2 = .ok (.lload_n 2, 1) := by decide +kernel
theorem d2_3 : decode method_2_code 3 = .ok (.ldc2_w 7, 3) := by decide +kernel
theorem d2_6 : decode method_2_code 6 = .ok (.lload_n 0, 1) := by decide +kernel
theorem d2_7 : decode method_2_code 7 = .ok (.lload_n 2, 1) := by decide +kernel
theorem d2_8 : decode method_2_code 8 = .ok (.lmul, 1) := by decide +kernel
theorem d2_9 : decode method_2_code 9 = .ok (.lsub, 1) := by decide +kernel
theorem d2_10 : decode method_2_code 10 = .ok (.lmul, 1) := by decide +kernel
theorem d2_11 : decode method_2_code 11 = .ok (.lstore_n 2, 1) := by decide +kernel
theorem d2_12 : decode method_2_code 12 = .ok (.lload_n 2, 1) := by decide +kernel
theorem d2_13 : decode method_2_code 13 = .ok (.ldc2_w 7, 3) := by decide +kernel
theorem d2_16 : decode method_2_code 16 = .ok (.lload_n 0, 1) := by decide +kernel
theorem d2_17 : decode method_2_code 17 = .ok (.lload_n 2, 1) := by decide +kernel
theorem d2_18 : decode method_2_code 18 = .ok (.lmul, 1) := by decide +kernel
theorem d2_19 : decode method_2_code 19 = .ok (.lsub, 1) := by decide +kernel
theorem d2_20 : decode method_2_code 20 = .ok (.lmul, 1) := by decide +kernel
theorem d2_21 : decode method_2_code 21 = .ok (.lstore_n 2, 1) := by decide +kernel
theorem d2_22 : decode method_2_code 22 = .ok (.lload_n 2, 1) := by decide +kernel
theorem d2_23 : decode method_2_code 23 = .ok (.ldc2_w 7, 3) := by decide +kernel
theorem d2_26 : decode method_2_code 26 = .ok (.lload_n 0, 1) := by decide +kernel
theorem d2_27 : decode method_2_code 27 = .ok (.lload_n 2, 1) := by decide +kernel
theorem d2_28 : decode method_2_code 28 = .ok (.lmul, 1) := by decide +kernel
theorem d2_29 : decode method_2_code 29 = .ok (.lsub, 1) := by decide +kernel
theorem d2_30 : decode method_2_code 30 = .ok (.lmul, 1) := by decide +kernel
theorem d2_31 : decode method_2_code 31 = .ok (.lstore_n 2, 1) := by decide +kernel
theorem d2_32 : decode method_2_code 32 = .ok (.lload_n 2, 1) := by decide +kernel
theorem d2_33 : decode method_2_code 33 = .ok (.ldc2_w 7, 3) := by decide +kernel
theorem d2_36 : decode method_2_code 36 = .ok (.lload_n 0, 1) := by decide +kernel
theorem d2_37 : decode method_2_code 37 = .ok (.lload_n 2, 1) := by decide +kernel
theorem d2_38 : decode method_2_code 38 = .ok (.lmul, 1) := by decide +kernel
theorem d2_39 : decode method_2_code 39 = .ok (.lsub, 1) := by decide +kernel
theorem d2_40 : decode method_2_code 40 = .ok (.lmul, 1) := by decide +kernel
theorem d2_41 : decode method_2_code 41 = .ok (.lstore_n 2, 1) := by decide +kernel
theorem d2_42 : decode method_2_code 42 = .ok (.lload_n 2, 1) := by decide +kernel
theorem d2_43 : decode method_2_code 43 = .ok (.ldc2_w 7, 3) := by decide +kernel
theorem d2_46 : decode method_2_code 46 = .ok (.lload_n 0, 1) := by decide +kernel
theorem d2_47 : decode method_2_code 47 = .ok (.lload_n 2, 1) := by decide +kernel
theorem d2_48 : decode method_2_code 48 = .ok (.lmul, 1) := by decide +kernel
theorem d2_49 : decode method_2_code 49 = .ok (.lsub, 1) := by decide +kernel
theorem d2_50 : decode method_2_code 50 = .ok (.lmul, 1) := by decide +kernel
theorem d2_51 : decode method_2_code 51 = .ok (.lstore_n 2, 1) := by decide +kernel
theorem d2_52 : decode method_2_code 52 = .ok (.lload_n 2, 1) := by decide +kernel
theorem d2_53 : decode method_2_code 53 = .ok (.ldc2_w 7, 3) := by decide +kernel
theorem d2_56 : decode method_2_code 56 = .ok (.lload_n 0, 1) := by decide +kernel
theorem d2_57 : decode method_2_code 57 = .ok (.lload_n 2, 1) := by decide +kernel
theorem d2_58 : decode method_2_code 58 = .ok (.lmul, 1) := by decide +kernel
theorem d2_59 : decode method_2_code 59 = .ok (.lsub, 1) := by decide +kernel
theorem d2_60 : decode method_2_code 60 = .ok (.lmul, 1) := by decide +kernel
theorem d2_61 : decode method_2_code 61 = .ok (.lstore_n 2, 1) := by decide +kernel
theorem d2_62 : decode method_2_code 62 = .ok (.lload_n 2, 1) := by decide +kernel
theorem d2_63 : decode method_2_code 63 = .ok (.lreturn, 1) := by decide +kernel
theorem ef_2 (m : MethodId) (q0 : Int64) : entryFrame m #[(.long q0)] 4 = mkF m 0 #[.val (.long q0), .second, .unset, .unset] [] := by first | (simp [entryFrame, mkF, argsToLocals, Value.category]; done) | rfl
def Q2 (Z : State) (q0 : Int64) (h0 : Heap) (n0 : Nat) (v : Option Value) (h : Heap) (L : List Loc) : Prop := v = some (.long (own_inv q0)) ∧ Fr n0 L ∧ h = h0
set_option maxRecDepth 65536 in
set_option maxHeartbeats 40000000 in
theorem rm2 (l : Launch) (Z : State) (a0 : Array Value) (hw : ∀ d ∈ tables_1, d.before a0 Z = true) (ws : List Jvm.Cond) (q0 : Int64) (h0 : Heap) (n0 : Nat) (Z0 : n0 ≤ h0.size) :
    MetFree l (⟨"com/example/evenkeel/evenkeel/SplitMixNthPinLaw", "inverse", "(J)J"⟩ : MethodName) (head1 (Jvm.Cond.code (⟨"com/example/evenkeel/evenkeel/SplitMixNthPinLaw", "inverse", "(J)J"⟩ : MethodName) method_2_code 4 (some .long) :: ws) ({ frames := 0, cells := 0, slots := 0, locals := 0 } : Room)) (fun a U => a = #[(.long q0)] ∧ Z.Warmed39 U.vm ∧ U.heap = h0) (fun _ _ _ _ _ => True) (fun _ U o U' => ∃ v L, o = .returned v ∧ Q2 Z q0 h0 n0 v U'.heap L ∧ FrameEnd U o U' L (({ frames := 0, cells := 0, slots := 0, locals := 0 } : Room)).cells (({ frames := 0, cells := 0, slots := 0, locals := 0 } : Room)).slots) := by
  refine MetFree.of_bodySF (plainFor_of_name pn_1) hisR ?_
  intro p e s m args below meth c s₁ Bd hml0 hP hK
  obtain ⟨rfl, hZ, hh⟩ := hP
  have hx := Bd.exec
  have hby := Bd.bytes
  have hml : c.maxLocals = 4 := hml0
  have hown : s.vm.findClass "com/example/evenkeel/evenkeel/SplitMixNthPinLaw" = some m.cls := findClass_of_methodNamed Bd.named
  have hnm := (name_of_methodNamed Bd.named Bd.method).1
  have hlk : meth.locks = false := Bd.notSynchronized
  have X0 : Stand p l e ({ frames := 0, cells := 0, slots := 0, locals := 0 } : Room) s m #[(.long q0)] below meth c s₁ [] 0 0 := Stand.of_body Bd
  have e0 : s₁.heap = h0 := by rw [← hh, Bd.state]; rfl
  have N0 := Fr.nil n0
  have hret := Bd.returns
  show own_Go p e below s (Q2 Z q0 h0 n0) _ _ (s₁.setTop (entryFrame m #[(.long q0)] 4))
  refine own_go (fun t k => castTop (ef_2 m q0) k) ?_
  show own_Go p e below s _ _ _ (s₁.setTop (mkF m 0 #[.val (.long q0), .second, .unset, .unset] []))
  refine own_go (fun t k => XS.lloadN X0.here hx rfl (hb hby d2_0) rfl k) ?_
  show own_Go p e below s _ _ _ (s₁.setTop (mkF m 1 #[.val (.long q0), .second, .unset, .unset] [(.long q0)]))
  refine own_go (fun t k => XS.lstoreN X0.here hx rfl (hb hby d2_1) rfl (l' := #[.val (.long q0), .second, .val (.long q0), .second]) rfl k) ?_
  show own_Go p e below s _ _ _ (s₁.setTop (mkF m 2 #[.val (.long q0), .second, .val (.long q0), .second] []))
  refine own_go (fun t k => XS.lloadN X0.here hx rfl (hb hby d2_2) rfl k) ?_
  show own_Go p e below s _ _ _ (s₁.setTop (mkF m 3 #[.val (.long q0), .second, .val (.long q0), .second] [(.long q0)]))
  refine own_go (fun t k => X0.ldc2Long hx hown (mvT hZ (hw _ (List.mem_of_getElem? (i := 14) rfl))) (g := (mkF m 3 #[.val (.long q0), .second, .val (.long q0), .second] [(.long q0)])) rfl (hb hby d2_3) _ k) ?_
  show own_Go p e below s _ _ _ (s₁.setTop (mkF m 6 #[.val (.long q0), .second, .val (.long q0), .second] [(.long (2 : Int64)), (.long q0)]))
  refine own_go (fun t k => XS.lloadN X0.here hx rfl (hb hby d2_6) rfl k) ?_
  show own_Go p e below s _ _ _ (s₁.setTop (mkF m 7 #[.val (.long q0), .second, .val (.long q0), .second] [(.long q0), (.long (2 : Int64)), (.long q0)]))
  refine own_go (fun t k => XS.lloadN X0.here hx rfl (hb hby d2_7) rfl k) ?_
  show own_Go p e below s _ _ _ (s₁.setTop (mkF m 8 #[.val (.long q0), .second, .val (.long q0), .second] [(.long q0), (.long q0), (.long (2 : Int64)), (.long q0)]))
  refine own_go (fun t k => XS.lmul X0.here hx rfl (hb hby d2_8) rfl k) ?_
  show own_Go p e below s _ _ _ (s₁.setTop (mkF m 9 #[.val (.long q0), .second, .val (.long q0), .second] [(.long (q0 * q0)), (.long (2 : Int64)), (.long q0)]))
  refine own_go (fun t k => XS.lsub X0.here hx rfl (hb hby d2_9) rfl k) ?_
  show own_Go p e below s _ _ _ (s₁.setTop (mkF m 10 #[.val (.long q0), .second, .val (.long q0), .second] [(.long ((2 : Int64) - (q0 * q0))), (.long q0)]))
  refine own_go (fun t k => XS.lmul X0.here hx rfl (hb hby d2_10) rfl k) ?_
  show own_Go p e below s _ _ _ (s₁.setTop (mkF m 11 #[.val (.long q0), .second, .val (.long q0), .second] [(.long (q0 * ((2 : Int64) - (q0 * q0))))]))
  refine own_go (fun t k => XS.lstoreN X0.here hx rfl (hb hby d2_11) rfl (l' := #[.val (.long q0), .second, .val (.long (q0 * ((2 : Int64) - (q0 * q0)))), .second]) rfl k) ?_
  show own_Go p e below s _ _ _ (s₁.setTop (mkF m 12 #[.val (.long q0), .second, .val (.long (q0 * ((2 : Int64) - (q0 * q0)))), .second] []))
  obtain ⟨z1, hz1⟩ : ∃ z, z = (q0 * ((2 : Int64) - (q0 * q0))) := ⟨_, rfl⟩
  rw [← hz1]
  show own_Go p e below s _ _ _ (s₁.setTop (mkF m 12 #[.val (.long q0), .second, .val (.long z1), .second] []))
  refine own_go (fun t k => XS.lloadN X0.here hx rfl (hb hby d2_12) rfl k) ?_
  show own_Go p e below s _ _ _ (s₁.setTop (mkF m 13 #[.val (.long q0), .second, .val (.long z1), .second] [(.long z1)]))
  refine own_go (fun t k => X0.ldc2Long hx hown (mvT hZ (hw _ (List.mem_of_getElem? (i := 14) rfl))) (g := (mkF m 13 #[.val (.long q0), .second, .val (.long z1), .second] [(.long z1)])) rfl (hb hby d2_13) _ k) ?_
  show own_Go p e below s _ _ _ (s₁.setTop (mkF m 16 #[.val (.long q0), .second, .val (.long z1), .second] [(.long (2 : Int64)), (.long z1)]))
  refine own_go (fun t k => XS.lloadN X0.here hx rfl (hb hby d2_16) rfl k) ?_
  show own_Go p e below s _ _ _ (s₁.setTop (mkF m 17 #[.val (.long q0), .second, .val (.long z1), .second] [(.long q0), (.long (2 : Int64)), (.long z1)]))
  refine own_go (fun t k => XS.lloadN X0.here hx rfl (hb hby d2_17) rfl k) ?_
  show own_Go p e below s _ _ _ (s₁.setTop (mkF m 18 #[.val (.long q0), .second, .val (.long z1), .second] [(.long z1), (.long q0), (.long (2 : Int64)), (.long z1)]))
  refine own_go (fun t k => XS.lmul X0.here hx rfl (hb hby d2_18) rfl k) ?_
  show own_Go p e below s _ _ _ (s₁.setTop (mkF m 19 #[.val (.long q0), .second, .val (.long z1), .second] [(.long (q0 * z1)), (.long (2 : Int64)), (.long z1)]))
  refine own_go (fun t k => XS.lsub X0.here hx rfl (hb hby d2_19) rfl k) ?_
  show own_Go p e below s _ _ _ (s₁.setTop (mkF m 20 #[.val (.long q0), .second, .val (.long z1), .second] [(.long ((2 : Int64) - (q0 * z1))), (.long z1)]))
  refine own_go (fun t k => XS.lmul X0.here hx rfl (hb hby d2_20) rfl k) ?_
  show own_Go p e below s _ _ _ (s₁.setTop (mkF m 21 #[.val (.long q0), .second, .val (.long z1), .second] [(.long (z1 * ((2 : Int64) - (q0 * z1))))]))
  refine own_go (fun t k => XS.lstoreN X0.here hx rfl (hb hby d2_21) rfl (l' := #[.val (.long q0), .second, .val (.long (z1 * ((2 : Int64) - (q0 * z1)))), .second]) rfl k) ?_
  show own_Go p e below s _ _ _ (s₁.setTop (mkF m 22 #[.val (.long q0), .second, .val (.long (z1 * ((2 : Int64) - (q0 * z1)))), .second] []))
  obtain ⟨z2, hz2⟩ : ∃ z, z = (z1 * ((2 : Int64) - (q0 * z1))) := ⟨_, rfl⟩
  rw [← hz2]
  show own_Go p e below s _ _ _ (s₁.setTop (mkF m 22 #[.val (.long q0), .second, .val (.long z2), .second] []))
  refine own_go (fun t k => XS.lloadN X0.here hx rfl (hb hby d2_22) rfl k) ?_
  show own_Go p e below s _ _ _ (s₁.setTop (mkF m 23 #[.val (.long q0), .second, .val (.long z2), .second] [(.long z2)]))
  refine own_go (fun t k => X0.ldc2Long hx hown (mvT hZ (hw _ (List.mem_of_getElem? (i := 14) rfl))) (g := (mkF m 23 #[.val (.long q0), .second, .val (.long z2), .second] [(.long z2)])) rfl (hb hby d2_23) _ k) ?_
  show own_Go p e below s _ _ _ (s₁.setTop (mkF m 26 #[.val (.long q0), .second, .val (.long z2), .second] [(.long (2 : Int64)), (.long z2)]))
  refine own_go (fun t k => XS.lloadN X0.here hx rfl (hb hby d2_26) rfl k) ?_
  show own_Go p e below s _ _ _ (s₁.setTop (mkF m 27 #[.val (.long q0), .second, .val (.long z2), .second] [(.long q0), (.long (2 : Int64)), (.long z2)]))
  refine own_go (fun t k => XS.lloadN X0.here hx rfl (hb hby d2_27) rfl k) ?_
  show own_Go p e below s _ _ _ (s₁.setTop (mkF m 28 #[.val (.long q0), .second, .val (.long z2), .second] [(.long z2), (.long q0), (.long (2 : Int64)), (.long z2)]))
  refine own_go (fun t k => XS.lmul X0.here hx rfl (hb hby d2_28) rfl k) ?_
  show own_Go p e below s _ _ _ (s₁.setTop (mkF m 29 #[.val (.long q0), .second, .val (.long z2), .second] [(.long (q0 * z2)), (.long (2 : Int64)), (.long z2)]))
  refine own_go (fun t k => XS.lsub X0.here hx rfl (hb hby d2_29) rfl k) ?_
  show own_Go p e below s _ _ _ (s₁.setTop (mkF m 30 #[.val (.long q0), .second, .val (.long z2), .second] [(.long ((2 : Int64) - (q0 * z2))), (.long z2)]))
  refine own_go (fun t k => XS.lmul X0.here hx rfl (hb hby d2_30) rfl k) ?_
  show own_Go p e below s _ _ _ (s₁.setTop (mkF m 31 #[.val (.long q0), .second, .val (.long z2), .second] [(.long (z2 * ((2 : Int64) - (q0 * z2))))]))
  refine own_go (fun t k => XS.lstoreN X0.here hx rfl (hb hby d2_31) rfl (l' := #[.val (.long q0), .second, .val (.long (z2 * ((2 : Int64) - (q0 * z2)))), .second]) rfl k) ?_
  show own_Go p e below s _ _ _ (s₁.setTop (mkF m 32 #[.val (.long q0), .second, .val (.long (z2 * ((2 : Int64) - (q0 * z2)))), .second] []))
  obtain ⟨z3, hz3⟩ : ∃ z, z = (z2 * ((2 : Int64) - (q0 * z2))) := ⟨_, rfl⟩
  rw [← hz3]
  show own_Go p e below s _ _ _ (s₁.setTop (mkF m 32 #[.val (.long q0), .second, .val (.long z3), .second] []))
  refine own_go (fun t k => XS.lloadN X0.here hx rfl (hb hby d2_32) rfl k) ?_
  show own_Go p e below s _ _ _ (s₁.setTop (mkF m 33 #[.val (.long q0), .second, .val (.long z3), .second] [(.long z3)]))
  refine own_go (fun t k => X0.ldc2Long hx hown (mvT hZ (hw _ (List.mem_of_getElem? (i := 14) rfl))) (g := (mkF m 33 #[.val (.long q0), .second, .val (.long z3), .second] [(.long z3)])) rfl (hb hby d2_33) _ k) ?_
  show own_Go p e below s _ _ _ (s₁.setTop (mkF m 36 #[.val (.long q0), .second, .val (.long z3), .second] [(.long (2 : Int64)), (.long z3)]))
  refine own_go (fun t k => XS.lloadN X0.here hx rfl (hb hby d2_36) rfl k) ?_
  show own_Go p e below s _ _ _ (s₁.setTop (mkF m 37 #[.val (.long q0), .second, .val (.long z3), .second] [(.long q0), (.long (2 : Int64)), (.long z3)]))
  refine own_go (fun t k => XS.lloadN X0.here hx rfl (hb hby d2_37) rfl k) ?_
  show own_Go p e below s _ _ _ (s₁.setTop (mkF m 38 #[.val (.long q0), .second, .val (.long z3), .second] [(.long z3), (.long q0), (.long (2 : Int64)), (.long z3)]))
  refine own_go (fun t k => XS.lmul X0.here hx rfl (hb hby d2_38) rfl k) ?_
  show own_Go p e below s _ _ _ (s₁.setTop (mkF m 39 #[.val (.long q0), .second, .val (.long z3), .second] [(.long (q0 * z3)), (.long (2 : Int64)), (.long z3)]))
  refine own_go (fun t k => XS.lsub X0.here hx rfl (hb hby d2_39) rfl k) ?_
  show own_Go p e below s _ _ _ (s₁.setTop (mkF m 40 #[.val (.long q0), .second, .val (.long z3), .second] [(.long ((2 : Int64) - (q0 * z3))), (.long z3)]))
  refine own_go (fun t k => XS.lmul X0.here hx rfl (hb hby d2_40) rfl k) ?_
  show own_Go p e below s _ _ _ (s₁.setTop (mkF m 41 #[.val (.long q0), .second, .val (.long z3), .second] [(.long (z3 * ((2 : Int64) - (q0 * z3))))]))
  refine own_go (fun t k => XS.lstoreN X0.here hx rfl (hb hby d2_41) rfl (l' := #[.val (.long q0), .second, .val (.long (z3 * ((2 : Int64) - (q0 * z3)))), .second]) rfl k) ?_
  show own_Go p e below s _ _ _ (s₁.setTop (mkF m 42 #[.val (.long q0), .second, .val (.long (z3 * ((2 : Int64) - (q0 * z3)))), .second] []))
  obtain ⟨z4, hz4⟩ : ∃ z, z = (z3 * ((2 : Int64) - (q0 * z3))) := ⟨_, rfl⟩
  rw [← hz4]
  show own_Go p e below s _ _ _ (s₁.setTop (mkF m 42 #[.val (.long q0), .second, .val (.long z4), .second] []))
  refine own_go (fun t k => XS.lloadN X0.here hx rfl (hb hby d2_42) rfl k) ?_
  show own_Go p e below s _ _ _ (s₁.setTop (mkF m 43 #[.val (.long q0), .second, .val (.long z4), .second] [(.long z4)]))
  refine own_go (fun t k => X0.ldc2Long hx hown (mvT hZ (hw _ (List.mem_of_getElem? (i := 14) rfl))) (g := (mkF m 43 #[.val (.long q0), .second, .val (.long z4), .second] [(.long z4)])) rfl (hb hby d2_43) _ k) ?_
  show own_Go p e below s _ _ _ (s₁.setTop (mkF m 46 #[.val (.long q0), .second, .val (.long z4), .second] [(.long (2 : Int64)), (.long z4)]))
  refine own_go (fun t k => XS.lloadN X0.here hx rfl (hb hby d2_46) rfl k) ?_
  show own_Go p e below s _ _ _ (s₁.setTop (mkF m 47 #[.val (.long q0), .second, .val (.long z4), .second] [(.long q0), (.long (2 : Int64)), (.long z4)]))
  refine own_go (fun t k => XS.lloadN X0.here hx rfl (hb hby d2_47) rfl k) ?_
  show own_Go p e below s _ _ _ (s₁.setTop (mkF m 48 #[.val (.long q0), .second, .val (.long z4), .second] [(.long z4), (.long q0), (.long (2 : Int64)), (.long z4)]))
  refine own_go (fun t k => XS.lmul X0.here hx rfl (hb hby d2_48) rfl k) ?_
  show own_Go p e below s _ _ _ (s₁.setTop (mkF m 49 #[.val (.long q0), .second, .val (.long z4), .second] [(.long (q0 * z4)), (.long (2 : Int64)), (.long z4)]))
  refine own_go (fun t k => XS.lsub X0.here hx rfl (hb hby d2_49) rfl k) ?_
  show own_Go p e below s _ _ _ (s₁.setTop (mkF m 50 #[.val (.long q0), .second, .val (.long z4), .second] [(.long ((2 : Int64) - (q0 * z4))), (.long z4)]))
  refine own_go (fun t k => XS.lmul X0.here hx rfl (hb hby d2_50) rfl k) ?_
  show own_Go p e below s _ _ _ (s₁.setTop (mkF m 51 #[.val (.long q0), .second, .val (.long z4), .second] [(.long (z4 * ((2 : Int64) - (q0 * z4))))]))
  refine own_go (fun t k => XS.lstoreN X0.here hx rfl (hb hby d2_51) rfl (l' := #[.val (.long q0), .second, .val (.long (z4 * ((2 : Int64) - (q0 * z4)))), .second]) rfl k) ?_
  show own_Go p e below s _ _ _ (s₁.setTop (mkF m 52 #[.val (.long q0), .second, .val (.long (z4 * ((2 : Int64) - (q0 * z4)))), .second] []))
  obtain ⟨z5, hz5⟩ : ∃ z, z = (z4 * ((2 : Int64) - (q0 * z4))) := ⟨_, rfl⟩
  rw [← hz5]
  show own_Go p e below s _ _ _ (s₁.setTop (mkF m 52 #[.val (.long q0), .second, .val (.long z5), .second] []))
  refine own_go (fun t k => XS.lloadN X0.here hx rfl (hb hby d2_52) rfl k) ?_
  show own_Go p e below s _ _ _ (s₁.setTop (mkF m 53 #[.val (.long q0), .second, .val (.long z5), .second] [(.long z5)]))
  refine own_go (fun t k => X0.ldc2Long hx hown (mvT hZ (hw _ (List.mem_of_getElem? (i := 14) rfl))) (g := (mkF m 53 #[.val (.long q0), .second, .val (.long z5), .second] [(.long z5)])) rfl (hb hby d2_53) _ k) ?_
  show own_Go p e below s _ _ _ (s₁.setTop (mkF m 56 #[.val (.long q0), .second, .val (.long z5), .second] [(.long (2 : Int64)), (.long z5)]))
  refine own_go (fun t k => XS.lloadN X0.here hx rfl (hb hby d2_56) rfl k) ?_
  show own_Go p e below s _ _ _ (s₁.setTop (mkF m 57 #[.val (.long q0), .second, .val (.long z5), .second] [(.long q0), (.long (2 : Int64)), (.long z5)]))
  refine own_go (fun t k => XS.lloadN X0.here hx rfl (hb hby d2_57) rfl k) ?_
  show own_Go p e below s _ _ _ (s₁.setTop (mkF m 58 #[.val (.long q0), .second, .val (.long z5), .second] [(.long z5), (.long q0), (.long (2 : Int64)), (.long z5)]))
  refine own_go (fun t k => XS.lmul X0.here hx rfl (hb hby d2_58) rfl k) ?_
  show own_Go p e below s _ _ _ (s₁.setTop (mkF m 59 #[.val (.long q0), .second, .val (.long z5), .second] [(.long (q0 * z5)), (.long (2 : Int64)), (.long z5)]))
  refine own_go (fun t k => XS.lsub X0.here hx rfl (hb hby d2_59) rfl k) ?_
  show own_Go p e below s _ _ _ (s₁.setTop (mkF m 60 #[.val (.long q0), .second, .val (.long z5), .second] [(.long ((2 : Int64) - (q0 * z5))), (.long z5)]))
  refine own_go (fun t k => XS.lmul X0.here hx rfl (hb hby d2_60) rfl k) ?_
  show own_Go p e below s _ _ _ (s₁.setTop (mkF m 61 #[.val (.long q0), .second, .val (.long z5), .second] [(.long (z5 * ((2 : Int64) - (q0 * z5))))]))
  refine own_go (fun t k => XS.lstoreN X0.here hx rfl (hb hby d2_61) rfl (l' := #[.val (.long q0), .second, .val (.long (z5 * ((2 : Int64) - (q0 * z5)))), .second]) rfl k) ?_
  show own_Go p e below s _ _ _ (s₁.setTop (mkF m 62 #[.val (.long q0), .second, .val (.long (z5 * ((2 : Int64) - (q0 * z5)))), .second] []))
  obtain ⟨z6, hz6⟩ : ∃ z, z = (z5 * ((2 : Int64) - (q0 * z5))) := ⟨_, rfl⟩
  rw [← hz6]
  show own_Go p e below s _ _ _ (s₁.setTop (mkF m 62 #[.val (.long q0), .second, .val (.long z6), .second] []))
  refine own_go (fun t k => XS.lloadN X0.here hx rfl (hb hby d2_62) rfl k) ?_
  show own_Go p e below s _ _ _ (s₁.setTop (mkF m 63 #[.val (.long q0), .second, .val (.long z6), .second] [(.long z6)]))
  refine own_ret X0 (v := some (.long z6)) (fun h => by rw [hret] at h; cases h) hlk ?_ (by decide) (by decide) (fun fs hr => X0.lreturnOut hx hret (hb hby d2_63) hr)
  show Q2 Z q0 h0 n0 (some (.long z6)) s₁.heap _
  rw [e0]
  exact ⟨by subst hz6 hz5 hz4 hz3 hz2 hz1; rfl, N0, rfl⟩
theorem pd_0 : parseMethodDescriptor "(JJ)J" = some ⟨[.long, .long], some .long⟩ := by decide +kernel
theorem pd_1 : parseMethodDescriptor "(J)J" = some ⟨[.long], some .long⟩ := by decide +kernel
theorem ef_0 (m : MethodId) (q0 : Int64) (q1 : Int64) : entryFrame m #[(.long q0), (.long q1)] maxLocals = mkF m 0 #[.val (.long q0), .second, .val (.long q1), .second, .unset, .unset, .unset, .unset, .unset, .unset, .unset, .unset, .unset, .unset, .unset, .unset, .unset, .unset, .unset, .unset, .unset, .unset, .unset] [] := by first | (simp [entryFrame, mkF, argsToLocals, Value.category, maxLocals]; done) | rfl
def Q0 (Z : State) (q0 : Int64) (q1 : Int64) (h0 : Heap) (n0 : Nat) (v : Option Value) (h : Heap) (L : List Loc) : Prop := v = some (.int 1) ∧ Fr n0 L
set_option maxRecDepth 65536 in
set_option maxHeartbeats 40000000 in
theorem rm0 (l : Launch) (Z : State) (a0 : Array Value) (hw : ∀ d ∈ tables_1, d.before a0 Z = true) (ws : List Jvm.Cond) (q0 : Int64) (q1 : Int64) (h0 : Heap) (n0 : Nat) (Z0 : n0 ≤ h0.size) :
    MetFree l x (head1 (Jvm.Cond.code x code maxLocals ret :: ws) room_1) (fun a U => a = #[(.long q0), (.long q1)] ∧ Z.Warmed39 U.vm ∧ U.heap = h0) (fun _ _ _ _ _ => True) (fun _ U o U' => ∃ v L, o = .returned v ∧ Q0 Z q0 q1 h0 n0 v U'.heap L ∧ FrameEnd U o U' L (room_1).cells (room_1).slots) := by
  refine MetFree.of_bodySF (plainFor_of_name pn_1) hisR ?_
  intro p e s m args below meth c s₁ Bd hml0 hP hK
  obtain ⟨rfl, hZ, hh⟩ := hP
  have hx := Bd.exec
  have hby := Bd.bytes
  have hml : c.maxLocals = 23 := hml0
  have hown : s.vm.findClass "com/example/evenkeel/evenkeel/SplitMixNthPinLaw" = some m.cls := findClass_of_methodNamed Bd.named
  have hnm := (name_of_methodNamed Bd.named Bd.method).1
  have hlk : meth.locks = false := Bd.notSynchronized
  have X0 : Stand p l e room_1 s m #[(.long q0), (.long q1)] below meth c s₁ [] 0 0 := Stand.of_body Bd
  have e0 : s₁.heap = h0 := by rw [← hh, Bd.state]; rfl
  have N0 := Fr.nil n0
  have hret := Bd.returns
  show own_Go p e below s (Q0 Z q0 q1 h0 n0) _ _ (s₁.setTop (entryFrame m #[(.long q0), (.long q1)] maxLocals))
  refine own_go (fun t k => castTop (ef_0 m q0 q1) k) ?_
  show own_Go p e below s _ _ _ (s₁.setTop (mkF m 0 #[.val (.long q0), .second, .val (.long q1), .second, .unset, .unset, .unset, .unset, .unset, .unset, .unset, .unset, .unset, .unset, .unset, .unset, .unset, .unset, .unset, .unset, .unset, .unset, .unset] []))
  refine own_go (fun t k => X0.ldc2Long hx hown (mvT hZ (hw _ (List.mem_of_getElem? (i := 0) rfl))) (g := (mkF m 0 #[.val (.long q0), .second, .val (.long q1), .second, .unset, .unset, .unset, .unset, .unset, .unset, .unset, .unset, .unset, .unset, .unset, .unset, .unset, .unset, .unset, .unset, .unset, .unset, .unset] [])) rfl (hb hby at_0) _ k) ?_
  show own_Go p e below s _ _ _ (s₁.setTop (mkF m 3 #[.val (.long q0), .second, .val (.long q1), .second, .unset, .unset, .unset, .unset, .unset, .unset, .unset, .unset, .unset, .unset, .unset, .unset, .unset, .unset, .unset, .unset, .unset, .unset, .unset] [(.long (-7046029254386353131 : Int64))]))
  refine own_go (fun t k => XS.lstore X0.here hx rfl (hb hby at_3) rfl (l' := #[.val (.long q0), .second, .val (.long q1), .second, .val (.long (-7046029254386353131 : Int64)), .second, .unset, .unset, .unset, .unset, .unset, .unset, .unset, .unset, .unset, .unset, .unset, .unset, .unset, .unset, .unset, .unset, .unset]) rfl k) ?_
  show own_Go p e below s _ _ _ (s₁.setTop (mkF m 5 #[.val (.long q0), .second, .val (.long q1), .second, .val (.long (-7046029254386353131 : Int64)), .second, .unset, .unset, .unset, .unset, .unset, .unset, .unset, .unset, .unset, .unset, .unset, .unset, .unset, .unset, .unset, .unset, .unset] []))
  refine own_go (fun t k => X0.ldc2Long hx hown (mvT hZ (hw _ (List.mem_of_getElem? (i := 1) rfl))) (g := (mkF m 5 #[.val (.long q0), .second, .val (.long q1), .second, .val (.long (-7046029254386353131 : Int64)), .second, .unset, .unset, .unset, .unset, .unset, .unset, .unset, .unset, .unset, .unset, .unset, .unset, .unset, .unset, .unset, .unset, .unset] [])) rfl (hb hby at_5) _ k) ?_
  show own_Go p e below s _ _ _ (s₁.setTop (mkF m 8 #[.val (.long q0), .second, .val (.long q1), .second, .val (.long (-7046029254386353131 : Int64)), .second, .unset, .unset, .unset, .unset, .unset, .unset, .unset, .unset, .unset, .unset, .unset, .unset, .unset, .unset, .unset, .unset, .unset] [(.long (-4658895280553007687 : Int64))]))
  refine own_go (fun t k => XS.lstore X0.here hx rfl (hb hby at_8) rfl (l' := #[.val (.long q0), .second, .val (.long q1), .second, .val (.long (-7046029254386353131 : Int64)), .second, .val (.long (-4658895280553007687 : Int64)), .second, .unset, .unset, .unset, .unset, .unset, .unset, .unset, .unset, .unset, .unset, .unset, .unset, .unset, .unset, .unset]) rfl k) ?_
  show own_Go p e below s _ _ _ (s₁.setTop (mkF m 10 #[.val (.long q0), .second, .val (.long q1), .second, .val (.long (-7046029254386353131 : Int64)), .second, .val (.long (-4658895280553007687 : Int64)), .second, .unset, .unset, .unset, .unset, .unset, .unset, .unset, .unset, .unset, .unset, .unset, .unset, .unset, .unset, .unset] []))
  refine own_go (fun t k => X0.ldc2Long hx hown (mvT hZ (hw _ (List.mem_of_getElem? (i := 2) rfl))) (g := (mkF m 10 #[.val (.long q0), .second, .val (.long q1), .second, .val (.long (-7046029254386353131 : Int64)), .second, .val (.long (-4658895280553007687 : Int64)), .second, .unset, .unset, .unset, .unset, .unset, .unset, .unset, .unset, .unset, .unset, .unset, .unset, .unset, .unset, .unset] [])) rfl (hb hby at_10) _ k) ?_
  show own_Go p e below s _ _ _ (s₁.setTop (mkF m 13 #[.val (.long q0), .second, .val (.long q1), .second, .val (.long (-7046029254386353131 : Int64)), .second, .val (.long (-4658895280553007687 : Int64)), .second, .unset, .unset, .unset, .unset, .unset, .unset, .unset, .unset, .unset, .unset, .unset, .unset, .unset, .unset, .unset] [(.long (-7723592293110705685 : Int64))]))
  refine own_go (fun t k => XS.lstore X0.here hx rfl (hb hby at_13) rfl (l' := #[.val (.long q0), .second, .val (.long q1), .second, .val (.long (-7046029254386353131 : Int64)), .second, .val (.long (-4658895280553007687 : Int64)), .second, .val (.long (-7723592293110705685 : Int64)), .second, .unset, .unset, .unset, .unset, .unset, .unset, .unset, .unset, .unset, .unset, .unset, .unset, .unset]) rfl k) ?_
  show own_Go p e below s _ _ _ (s₁.setTop (mkF m 15 #[.val (.long q0), .second, .val (.long q1), .second, .val (.long (-7046029254386353131 : Int64)), .second, .val (.long (-4658895280553007687 : Int64)), .second, .val (.long (-7723592293110705685 : Int64)), .second, .unset, .unset, .unset, .unset, .unset, .unset, .unset, .unset, .unset, .unset, .unset, .unset, .unset] []))
  refine own_go (fun t k => XS.lloadN X0.here hx rfl (hb hby at_15) rfl k) ?_
  show own_Go p e below s _ _ _ (s₁.setTop (mkF m 16 #[.val (.long q0), .second, .val (.long q1), .second, .val (.long (-7046029254386353131 : Int64)), .second, .val (.long (-4658895280553007687 : Int64)), .second, .val (.long (-7723592293110705685 : Int64)), .second, .unset, .unset, .unset, .unset, .unset, .unset, .unset, .unset, .unset, .unset, .unset, .unset, .unset] [(.long q0)]))
  refine own_go (fun t k => XS.lloadN X0.here hx rfl (hb hby at_16) rfl k) ?_
  show own_Go p e below s _ _ _ (s₁.setTop (mkF m 17 #[.val (.long q0), .second, .val (.long q1), .second, .val (.long (-7046029254386353131 : Int64)), .second, .val (.long (-4658895280553007687 : Int64)), .second, .val (.long (-7723592293110705685 : Int64)), .second, .unset, .unset, .unset, .unset, .unset, .unset, .unset, .unset, .unset, .unset, .unset, .unset, .unset] [(.long q1), (.long q0)]))
  obtain ⟨_, _, ⟨T1, L1, k1, n1⟩, -, X1, ⟨Lc1, hQ1, l1, y1, z1⟩, st1⟩ := Jvm.LawKit.callS X0 hx (y := (⟨"com/example/evenkeel/evenkeel/SplitMix", "nth", "(JJ)J"⟩ : MethodName)) hown (mvT hZ (hw _ (List.mem_of_getElem? (i := 3) rfl))) (mvT hZ (hw _ (List.mem_of_getElem? (i := 4) rfl))) (mvT hZ (hw _ (List.mem_of_getElem? (i := 5) rfl))) (mvT hZ (hw _ (List.mem_of_getElem? (i := 6) rfl))) (by decide) (backOf (W := 0) (rm1 l Z a0 hw [] (q0) (q1) h0 n0 Z0 ) hZ (hw _ (List.mem_of_getElem? (i := 6) rfl)) (hw _ (List.mem_of_getElem? (i := 5) rfl)) (by decide) (by decide)) (g := (mkF m 17 #[.val (.long q0), .second, .val (.long q1), .second, .val (.long (-7046029254386353131 : Int64)), .second, .val (.long (-4658895280553007687 : Int64)), .second, .val (.long (-7723592293110705685 : Int64)), .second, .unset, .unset, .unset, .unset, .unset, .unset, .unset, .unset, .unset, .unset, .unset, .unset, .unset] [(.long q1), (.long q0)])) rfl (by rw [hml]; rfl) (argsL := [(.long q0), (.long q1)]) (rest := []) (lenOf pd_0 rfl) rfl (by show 2 * 0 + _ ≤ _; exact Nat.le_of_eq rfl) (hb hby at_17) (fun _ _ => ⟨rfl, e0, (by decide : 0 + 0 ≤ _), (by decide : 0 + 0 ≤ _)⟩)
  dsimp only [Pt.U, Pt.locs, Pt.cells, Pt.slots] at X1 l1 y1 z1 st1 hQ1
  subst l1 y1 z1
  obtain ⟨rfl, Nq1, eh1⟩ := hQ1
  have N1 := Fr.app N0 Nq1
  refine own_go (fun t k => st1 _ k) ?_
  have e1 : T1.heap = h0 := eh1
  show own_Go p e below s _ _ _ (T1.setTop (mkF m 20 #[.val (.long q0), .second, .val (.long q1), .second, .val (.long (-7046029254386353131 : Int64)), .second, .val (.long (-4658895280553007687 : Int64)), .second, .val (.long (-7723592293110705685 : Int64)), .second, .unset, .unset, .unset, .unset, .unset, .unset, .unset, .unset, .unset, .unset, .unset, .unset, .unset] [(.long (own_nth q0 q1))]))
  refine own_go (fun t k => XS.lstore X1.here hx rfl (hb hby at_20) rfl (l' := #[.val (.long q0), .second, .val (.long q1), .second, .val (.long (-7046029254386353131 : Int64)), .second, .val (.long (-4658895280553007687 : Int64)), .second, .val (.long (-7723592293110705685 : Int64)), .second, .val (.long (own_nth q0 q1)), .second, .unset, .unset, .unset, .unset, .unset, .unset, .unset, .unset, .unset, .unset, .unset]) rfl k) ?_
  show own_Go p e below s _ _ _ (T1.setTop (mkF m 22 #[.val (.long q0), .second, .val (.long q1), .second, .val (.long (-7046029254386353131 : Int64)), .second, .val (.long (-4658895280553007687 : Int64)), .second, .val (.long (-7723592293110705685 : Int64)), .second, .val (.long (own_nth q0 q1)), .second, .unset, .unset, .unset, .unset, .unset, .unset, .unset, .unset, .unset, .unset, .unset] []))
  obtain ⟨zz, hzz⟩ : ∃ z, z = (own_nth q0 q1) := ⟨_, rfl⟩
  rw [← hzz]
  show own_Go p e below s _ _ _ (T1.setTop (mkF m 22 #[.val (.long q0), .second, .val (.long q1), .second, .val (.long (-7046029254386353131 : Int64)), .second, .val (.long (-4658895280553007687 : Int64)), .second, .val (.long (-7723592293110705685 : Int64)), .second, .val (.long zz), .second, .unset, .unset, .unset, .unset, .unset, .unset, .unset, .unset, .unset, .unset, .unset] []))
  refine own_go (fun t k => XS.lload X1.here hx rfl (hb hby at_22) rfl k) ?_
  show own_Go p e below s _ _ _ (T1.setTop (mkF m 24 #[.val (.long q0), .second, .val (.long q1), .second, .val (.long (-7046029254386353131 : Int64)), .second, .val (.long (-4658895280553007687 : Int64)), .second, .val (.long (-7723592293110705685 : Int64)), .second, .val (.long zz), .second, .unset, .unset, .unset, .unset, .unset, .unset, .unset, .unset, .unset, .unset, .unset] [(.long zz)]))
  refine own_go (fun t k => XS.lload X1.here hx rfl (hb hby at_24) rfl k) ?_
  show own_Go p e below s _ _ _ (T1.setTop (mkF m 26 #[.val (.long q0), .second, .val (.long q1), .second, .val (.long (-7046029254386353131 : Int64)), .second, .val (.long (-4658895280553007687 : Int64)), .second, .val (.long (-7723592293110705685 : Int64)), .second, .val (.long zz), .second, .unset, .unset, .unset, .unset, .unset, .unset, .unset, .unset, .unset, .unset, .unset] [(.long zz), (.long zz)]))
  refine own_go (fun t k => XS.bipush X1.here hx rfl (hb hby at_26) k) ?_
  show own_Go p e below s _ _ _ (T1.setTop (mkF m 28 #[.val (.long q0), .second, .val (.long q1), .second, .val (.long (-7046029254386353131 : Int64)), .second, .val (.long (-4658895280553007687 : Int64)), .second, .val (.long (-7723592293110705685 : Int64)), .second, .val (.long zz), .second, .unset, .unset, .unset, .unset, .unset, .unset, .unset, .unset, .unset, .unset, .unset] [(.int (31 : Int32)), (.long zz), (.long zz)]))
  refine own_go (fun t k => XS.lushr X1.here hx rfl (hb hby at_28) rfl k) ?_
  show own_Go p e below s _ _ _ (T1.setTop (mkF m 29 #[.val (.long q0), .second, .val (.long q1), .second, .val (.long (-7046029254386353131 : Int64)), .second, .val (.long (-4658895280553007687 : Int64)), .second, .val (.long (-7723592293110705685 : Int64)), .second, .val (.long zz), .second, .unset, .unset, .unset, .unset, .unset, .unset, .unset, .unset, .unset, .unset, .unset] [(.long ((zz.toUInt64 >>> ((31 : Int32) &&& 0x3f).toInt64.toUInt64).toInt64)), (.long zz)]))
  refine own_go (fun t k => XS.lxor X1.here hx rfl (hb hby at_29) rfl k) ?_
  show own_Go p e below s _ _ _ (T1.setTop (mkF m 30 #[.val (.long q0), .second, .val (.long q1), .second, .val (.long (-7046029254386353131 : Int64)), .second, .val (.long (-4658895280553007687 : Int64)), .second, .val (.long (-7723592293110705685 : Int64)), .second, .val (.long zz), .second, .unset, .unset, .unset, .unset, .unset, .unset, .unset, .unset, .unset, .unset, .unset] [(.long (zz ^^^ ((zz.toUInt64 >>> ((31 : Int32) &&& 0x3f).toInt64.toUInt64).toInt64)))]))
  refine own_go (fun t k => XS.lload X1.here hx rfl (hb hby at_30) rfl k) ?_
  show own_Go p e below s _ _ _ (T1.setTop (mkF m 32 #[.val (.long q0), .second, .val (.long q1), .second, .val (.long (-7046029254386353131 : Int64)), .second, .val (.long (-4658895280553007687 : Int64)), .second, .val (.long (-7723592293110705685 : Int64)), .second, .val (.long zz), .second, .unset, .unset, .unset, .unset, .unset, .unset, .unset, .unset, .unset, .unset, .unset] [(.long zz), (.long (zz ^^^ ((zz.toUInt64 >>> ((31 : Int32) &&& 0x3f).toInt64.toUInt64).toInt64)))]))
  refine own_go (fun t k => XS.bipush X1.here hx rfl (hb hby at_32) k) ?_
  show own_Go p e below s _ _ _ (T1.setTop (mkF m 34 #[.val (.long q0), .second, .val (.long q1), .second, .val (.long (-7046029254386353131 : Int64)), .second, .val (.long (-4658895280553007687 : Int64)), .second, .val (.long (-7723592293110705685 : Int64)), .second, .val (.long zz), .second, .unset, .unset, .unset, .unset, .unset, .unset, .unset, .unset, .unset, .unset, .unset] [(.int (62 : Int32)), (.long zz), (.long (zz ^^^ ((zz.toUInt64 >>> ((31 : Int32) &&& 0x3f).toInt64.toUInt64).toInt64)))]))
  refine own_go (fun t k => XS.lushr X1.here hx rfl (hb hby at_34) rfl k) ?_
  show own_Go p e below s _ _ _ (T1.setTop (mkF m 35 #[.val (.long q0), .second, .val (.long q1), .second, .val (.long (-7046029254386353131 : Int64)), .second, .val (.long (-4658895280553007687 : Int64)), .second, .val (.long (-7723592293110705685 : Int64)), .second, .val (.long zz), .second, .unset, .unset, .unset, .unset, .unset, .unset, .unset, .unset, .unset, .unset, .unset] [(.long ((zz.toUInt64 >>> ((62 : Int32) &&& 0x3f).toInt64.toUInt64).toInt64)), (.long (zz ^^^ ((zz.toUInt64 >>> ((31 : Int32) &&& 0x3f).toInt64.toUInt64).toInt64)))]))
  refine own_go (fun t k => XS.lxor X1.here hx rfl (hb hby at_35) rfl k) ?_
  show own_Go p e below s _ _ _ (T1.setTop (mkF m 36 #[.val (.long q0), .second, .val (.long q1), .second, .val (.long (-7046029254386353131 : Int64)), .second, .val (.long (-4658895280553007687 : Int64)), .second, .val (.long (-7723592293110705685 : Int64)), .second, .val (.long zz), .second, .unset, .unset, .unset, .unset, .unset, .unset, .unset, .unset, .unset, .unset, .unset] [(.long ((zz ^^^ ((zz.toUInt64 >>> ((31 : Int32) &&& 0x3f).toInt64.toUInt64).toInt64)) ^^^ ((zz.toUInt64 >>> ((62 : Int32) &&& 0x3f).toInt64.toUInt64).toInt64)))]))
  refine own_go (fun t k => XS.lstore X1.here hx rfl (hb hby at_36) rfl (l' := #[.val (.long q0), .second, .val (.long q1), .second, .val (.long (-7046029254386353131 : Int64)), .second, .val (.long (-4658895280553007687 : Int64)), .second, .val (.long (-7723592293110705685 : Int64)), .second, .val (.long zz), .second, .val (.long ((zz ^^^ ((zz.toUInt64 >>> ((31 : Int32) &&& 0x3f).toInt64.toUInt64).toInt64)) ^^^ ((zz.toUInt64 >>> ((62 : Int32) &&& 0x3f).toInt64.toUInt64).toInt64))), .second, .unset, .unset, .unset, .unset, .unset, .unset, .unset, .unset, .unset]) rfl k) ?_
  show own_Go p e below s _ _ _ (T1.setTop (mkF m 38 #[.val (.long q0), .second, .val (.long q1), .second, .val (.long (-7046029254386353131 : Int64)), .second, .val (.long (-4658895280553007687 : Int64)), .second, .val (.long (-7723592293110705685 : Int64)), .second, .val (.long zz), .second, .val (.long ((zz ^^^ ((zz.toUInt64 >>> ((31 : Int32) &&& 0x3f).toInt64.toUInt64).toInt64)) ^^^ ((zz.toUInt64 >>> ((62 : Int32) &&& 0x3f).toInt64.toUInt64).toInt64))), .second, .unset, .unset, .unset, .unset, .unset, .unset, .unset, .unset, .unset] []))
  obtain ⟨m2, hm2⟩ : ∃ z, z = ((zz ^^^ ((zz.toUInt64 >>> ((31 : Int32) &&& 0x3f).toInt64.toUInt64).toInt64)) ^^^ ((zz.toUInt64 >>> ((62 : Int32) &&& 0x3f).toInt64.toUInt64).toInt64)) := ⟨_, rfl⟩
  rw [← hm2]
  show own_Go p e below s _ _ _ (T1.setTop (mkF m 38 #[.val (.long q0), .second, .val (.long q1), .second, .val (.long (-7046029254386353131 : Int64)), .second, .val (.long (-4658895280553007687 : Int64)), .second, .val (.long (-7723592293110705685 : Int64)), .second, .val (.long zz), .second, .val (.long m2), .second, .unset, .unset, .unset, .unset, .unset, .unset, .unset, .unset, .unset] []))
  refine own_go (fun t k => XS.lload X1.here hx rfl (hb hby at_38) rfl k) ?_
  show own_Go p e below s _ _ _ (T1.setTop (mkF m 40 #[.val (.long q0), .second, .val (.long q1), .second, .val (.long (-7046029254386353131 : Int64)), .second, .val (.long (-4658895280553007687 : Int64)), .second, .val (.long (-7723592293110705685 : Int64)), .second, .val (.long zz), .second, .val (.long m2), .second, .unset, .unset, .unset, .unset, .unset, .unset, .unset, .unset, .unset] [(.long m2)]))
  refine own_go (fun t k => XS.lload X1.here hx rfl (hb hby at_40) rfl k) ?_
  show own_Go p e below s _ _ _ (T1.setTop (mkF m 42 #[.val (.long q0), .second, .val (.long q1), .second, .val (.long (-7046029254386353131 : Int64)), .second, .val (.long (-4658895280553007687 : Int64)), .second, .val (.long (-7723592293110705685 : Int64)), .second, .val (.long zz), .second, .val (.long m2), .second, .unset, .unset, .unset, .unset, .unset, .unset, .unset, .unset, .unset] [(.long (-7723592293110705685 : Int64)), (.long m2)]))
  obtain ⟨_, _, ⟨T2, L2, k2, n2⟩, -, X2, ⟨Lc2, hQ2, l2, y2, z2⟩, st2⟩ := Jvm.LawKit.callS X1 hx (y := (⟨"com/example/evenkeel/evenkeel/SplitMixNthPinLaw", "inverse", "(J)J"⟩ : MethodName)) hown (mvT hZ (hw _ (List.mem_of_getElem? (i := 10) rfl))) (mvT hZ (hw _ (List.mem_of_getElem? (i := 11) rfl))) (mvT hZ (hw _ (List.mem_of_getElem? (i := 12) rfl))) (mvT hZ (hw _ (List.mem_of_getElem? (i := 13) rfl))) (by decide) (backOf (W := 2) (rm2 l Z a0 hw [] ((-7723592293110705685 : Int64)) h0 n0 Z0 ) hZ (hw _ (List.mem_of_getElem? (i := 13) rfl)) (hw _ (List.mem_of_getElem? (i := 12) rfl)) (by decide) (by decide)) (g := (mkF m 42 #[.val (.long q0), .second, .val (.long q1), .second, .val (.long (-7046029254386353131 : Int64)), .second, .val (.long (-4658895280553007687 : Int64)), .second, .val (.long (-7723592293110705685 : Int64)), .second, .val (.long zz), .second, .val (.long m2), .second, .unset, .unset, .unset, .unset, .unset, .unset, .unset, .unset, .unset] [(.long (-7723592293110705685 : Int64)), (.long m2)])) rfl (by rw [hml]; rfl) (argsL := [(.long (-7723592293110705685 : Int64))]) (rest := [(.long m2)]) (lenOf pd_1 rfl) rfl (by show 2 * 0 + _ ≤ _; exact Nat.le_of_eq rfl) (hb hby at_42) (fun _ _ => ⟨rfl, e1, (by decide : 0 + 0 ≤ _), (by decide : 0 + 0 ≤ _)⟩)
  dsimp only [Pt.U, Pt.locs, Pt.cells, Pt.slots] at X2 l2 y2 z2 st2 hQ2
  subst l2 y2 z2
  obtain ⟨rfl, Nq2, eh2⟩ := hQ2
  have N2 := Fr.app N1 Nq2
  refine own_go (fun t k => st2 _ k) ?_
  have e2 : T2.heap = h0 := eh2
  show own_Go p e below s _ _ _ (T2.setTop (mkF m 45 #[.val (.long q0), .second, .val (.long q1), .second, .val (.long (-7046029254386353131 : Int64)), .second, .val (.long (-4658895280553007687 : Int64)), .second, .val (.long (-7723592293110705685 : Int64)), .second, .val (.long zz), .second, .val (.long m2), .second, .unset, .unset, .unset, .unset, .unset, .unset, .unset, .unset, .unset] [(.long (own_inv (-7723592293110705685 : Int64))), (.long m2)]))
  refine own_go (fun t k => XS.lmul X2.here hx rfl (hb hby at_45) rfl k) ?_
  show own_Go p e below s _ _ _ (T2.setTop (mkF m 46 #[.val (.long q0), .second, .val (.long q1), .second, .val (.long (-7046029254386353131 : Int64)), .second, .val (.long (-4658895280553007687 : Int64)), .second, .val (.long (-7723592293110705685 : Int64)), .second, .val (.long zz), .second, .val (.long m2), .second, .unset, .unset, .unset, .unset, .unset, .unset, .unset, .unset, .unset] [(.long (m2 * (own_inv (-7723592293110705685 : Int64))))]))
  refine own_go (fun t k => XS.lstore X2.here hx rfl (hb hby at_46) rfl (l' := #[.val (.long q0), .second, .val (.long q1), .second, .val (.long (-7046029254386353131 : Int64)), .second, .val (.long (-4658895280553007687 : Int64)), .second, .val (.long (-7723592293110705685 : Int64)), .second, .val (.long zz), .second, .val (.long m2), .second, .val (.long (m2 * (own_inv (-7723592293110705685 : Int64)))), .second, .unset, .unset, .unset, .unset, .unset, .unset, .unset]) rfl k) ?_
  show own_Go p e below s _ _ _ (T2.setTop (mkF m 48 #[.val (.long q0), .second, .val (.long q1), .second, .val (.long (-7046029254386353131 : Int64)), .second, .val (.long (-4658895280553007687 : Int64)), .second, .val (.long (-7723592293110705685 : Int64)), .second, .val (.long zz), .second, .val (.long m2), .second, .val (.long (m2 * (own_inv (-7723592293110705685 : Int64)))), .second, .unset, .unset, .unset, .unset, .unset, .unset, .unset] []))
  obtain ⟨bb, hbb⟩ : ∃ z, z = (m2 * (own_inv (-7723592293110705685 : Int64))) := ⟨_, rfl⟩
  rw [← hbb]
  show own_Go p e below s _ _ _ (T2.setTop (mkF m 48 #[.val (.long q0), .second, .val (.long q1), .second, .val (.long (-7046029254386353131 : Int64)), .second, .val (.long (-4658895280553007687 : Int64)), .second, .val (.long (-7723592293110705685 : Int64)), .second, .val (.long zz), .second, .val (.long m2), .second, .val (.long bb), .second, .unset, .unset, .unset, .unset, .unset, .unset, .unset] []))
  refine own_go (fun t k => XS.lload X2.here hx rfl (hb hby at_48) rfl k) ?_
  show own_Go p e below s _ _ _ (T2.setTop (mkF m 50 #[.val (.long q0), .second, .val (.long q1), .second, .val (.long (-7046029254386353131 : Int64)), .second, .val (.long (-4658895280553007687 : Int64)), .second, .val (.long (-7723592293110705685 : Int64)), .second, .val (.long zz), .second, .val (.long m2), .second, .val (.long bb), .second, .unset, .unset, .unset, .unset, .unset, .unset, .unset] [(.long bb)]))
  refine own_go (fun t k => XS.lload X2.here hx rfl (hb hby at_50) rfl k) ?_
  show own_Go p e below s _ _ _ (T2.setTop (mkF m 52 #[.val (.long q0), .second, .val (.long q1), .second, .val (.long (-7046029254386353131 : Int64)), .second, .val (.long (-4658895280553007687 : Int64)), .second, .val (.long (-7723592293110705685 : Int64)), .second, .val (.long zz), .second, .val (.long m2), .second, .val (.long bb), .second, .unset, .unset, .unset, .unset, .unset, .unset, .unset] [(.long bb), (.long bb)]))
  refine own_go (fun t k => XS.bipush X2.here hx rfl (hb hby at_52) k) ?_
  show own_Go p e below s _ _ _ (T2.setTop (mkF m 54 #[.val (.long q0), .second, .val (.long q1), .second, .val (.long (-7046029254386353131 : Int64)), .second, .val (.long (-4658895280553007687 : Int64)), .second, .val (.long (-7723592293110705685 : Int64)), .second, .val (.long zz), .second, .val (.long m2), .second, .val (.long bb), .second, .unset, .unset, .unset, .unset, .unset, .unset, .unset] [(.int (27 : Int32)), (.long bb), (.long bb)]))
  refine own_go (fun t k => XS.lushr X2.here hx rfl (hb hby at_54) rfl k) ?_
  show own_Go p e below s _ _ _ (T2.setTop (mkF m 55 #[.val (.long q0), .second, .val (.long q1), .second, .val (.long (-7046029254386353131 : Int64)), .second, .val (.long (-4658895280553007687 : Int64)), .second, .val (.long (-7723592293110705685 : Int64)), .second, .val (.long zz), .second, .val (.long m2), .second, .val (.long bb), .second, .unset, .unset, .unset, .unset, .unset, .unset, .unset] [(.long ((bb.toUInt64 >>> ((27 : Int32) &&& 0x3f).toInt64.toUInt64).toInt64)), (.long bb)]))
  refine own_go (fun t k => XS.lxor X2.here hx rfl (hb hby at_55) rfl k) ?_
  show own_Go p e below s _ _ _ (T2.setTop (mkF m 56 #[.val (.long q0), .second, .val (.long q1), .second, .val (.long (-7046029254386353131 : Int64)), .second, .val (.long (-4658895280553007687 : Int64)), .second, .val (.long (-7723592293110705685 : Int64)), .second, .val (.long zz), .second, .val (.long m2), .second, .val (.long bb), .second, .unset, .unset, .unset, .unset, .unset, .unset, .unset] [(.long (bb ^^^ ((bb.toUInt64 >>> ((27 : Int32) &&& 0x3f).toInt64.toUInt64).toInt64)))]))
  refine own_go (fun t k => XS.lload X2.here hx rfl (hb hby at_56) rfl k) ?_
  show own_Go p e below s _ _ _ (T2.setTop (mkF m 58 #[.val (.long q0), .second, .val (.long q1), .second, .val (.long (-7046029254386353131 : Int64)), .second, .val (.long (-4658895280553007687 : Int64)), .second, .val (.long (-7723592293110705685 : Int64)), .second, .val (.long zz), .second, .val (.long m2), .second, .val (.long bb), .second, .unset, .unset, .unset, .unset, .unset, .unset, .unset] [(.long bb), (.long (bb ^^^ ((bb.toUInt64 >>> ((27 : Int32) &&& 0x3f).toInt64.toUInt64).toInt64)))]))
  refine own_go (fun t k => XS.bipush X2.here hx rfl (hb hby at_58) k) ?_
  show own_Go p e below s _ _ _ (T2.setTop (mkF m 60 #[.val (.long q0), .second, .val (.long q1), .second, .val (.long (-7046029254386353131 : Int64)), .second, .val (.long (-4658895280553007687 : Int64)), .second, .val (.long (-7723592293110705685 : Int64)), .second, .val (.long zz), .second, .val (.long m2), .second, .val (.long bb), .second, .unset, .unset, .unset, .unset, .unset, .unset, .unset] [(.int (54 : Int32)), (.long bb), (.long (bb ^^^ ((bb.toUInt64 >>> ((27 : Int32) &&& 0x3f).toInt64.toUInt64).toInt64)))]))
  refine own_go (fun t k => XS.lushr X2.here hx rfl (hb hby at_60) rfl k) ?_
  show own_Go p e below s _ _ _ (T2.setTop (mkF m 61 #[.val (.long q0), .second, .val (.long q1), .second, .val (.long (-7046029254386353131 : Int64)), .second, .val (.long (-4658895280553007687 : Int64)), .second, .val (.long (-7723592293110705685 : Int64)), .second, .val (.long zz), .second, .val (.long m2), .second, .val (.long bb), .second, .unset, .unset, .unset, .unset, .unset, .unset, .unset] [(.long ((bb.toUInt64 >>> ((54 : Int32) &&& 0x3f).toInt64.toUInt64).toInt64)), (.long (bb ^^^ ((bb.toUInt64 >>> ((27 : Int32) &&& 0x3f).toInt64.toUInt64).toInt64)))]))
  refine own_go (fun t k => XS.lxor X2.here hx rfl (hb hby at_61) rfl k) ?_
  show own_Go p e below s _ _ _ (T2.setTop (mkF m 62 #[.val (.long q0), .second, .val (.long q1), .second, .val (.long (-7046029254386353131 : Int64)), .second, .val (.long (-4658895280553007687 : Int64)), .second, .val (.long (-7723592293110705685 : Int64)), .second, .val (.long zz), .second, .val (.long m2), .second, .val (.long bb), .second, .unset, .unset, .unset, .unset, .unset, .unset, .unset] [(.long ((bb ^^^ ((bb.toUInt64 >>> ((27 : Int32) &&& 0x3f).toInt64.toUInt64).toInt64)) ^^^ ((bb.toUInt64 >>> ((54 : Int32) &&& 0x3f).toInt64.toUInt64).toInt64)))]))
  refine own_go (fun t k => XS.lstore X2.here hx rfl (hb hby at_62) rfl (l' := #[.val (.long q0), .second, .val (.long q1), .second, .val (.long (-7046029254386353131 : Int64)), .second, .val (.long (-4658895280553007687 : Int64)), .second, .val (.long (-7723592293110705685 : Int64)), .second, .val (.long zz), .second, .val (.long m2), .second, .val (.long bb), .second, .val (.long ((bb ^^^ ((bb.toUInt64 >>> ((27 : Int32) &&& 0x3f).toInt64.toUInt64).toInt64)) ^^^ ((bb.toUInt64 >>> ((54 : Int32) &&& 0x3f).toInt64.toUInt64).toInt64))), .second, .unset, .unset, .unset, .unset, .unset]) rfl k) ?_
  show own_Go p e below s _ _ _ (T2.setTop (mkF m 64 #[.val (.long q0), .second, .val (.long q1), .second, .val (.long (-7046029254386353131 : Int64)), .second, .val (.long (-4658895280553007687 : Int64)), .second, .val (.long (-7723592293110705685 : Int64)), .second, .val (.long zz), .second, .val (.long m2), .second, .val (.long bb), .second, .val (.long ((bb ^^^ ((bb.toUInt64 >>> ((27 : Int32) &&& 0x3f).toInt64.toUInt64).toInt64)) ^^^ ((bb.toUInt64 >>> ((54 : Int32) &&& 0x3f).toInt64.toUInt64).toInt64))), .second, .unset, .unset, .unset, .unset, .unset] []))
  obtain ⟨m1, hm1⟩ : ∃ z, z = ((bb ^^^ ((bb.toUInt64 >>> ((27 : Int32) &&& 0x3f).toInt64.toUInt64).toInt64)) ^^^ ((bb.toUInt64 >>> ((54 : Int32) &&& 0x3f).toInt64.toUInt64).toInt64)) := ⟨_, rfl⟩
  rw [← hm1]
  show own_Go p e below s _ _ _ (T2.setTop (mkF m 64 #[.val (.long q0), .second, .val (.long q1), .second, .val (.long (-7046029254386353131 : Int64)), .second, .val (.long (-4658895280553007687 : Int64)), .second, .val (.long (-7723592293110705685 : Int64)), .second, .val (.long zz), .second, .val (.long m2), .second, .val (.long bb), .second, .val (.long m1), .second, .unset, .unset, .unset, .unset, .unset] []))
  refine own_go (fun t k => XS.lload X2.here hx rfl (hb hby at_64) rfl k) ?_
  show own_Go p e below s _ _ _ (T2.setTop (mkF m 66 #[.val (.long q0), .second, .val (.long q1), .second, .val (.long (-7046029254386353131 : Int64)), .second, .val (.long (-4658895280553007687 : Int64)), .second, .val (.long (-7723592293110705685 : Int64)), .second, .val (.long zz), .second, .val (.long m2), .second, .val (.long bb), .second, .val (.long m1), .second, .unset, .unset, .unset, .unset, .unset] [(.long m1)]))
  refine own_go (fun t k => XS.lload X2.here hx rfl (hb hby at_66) rfl k) ?_
  show own_Go p e below s _ _ _ (T2.setTop (mkF m 68 #[.val (.long q0), .second, .val (.long q1), .second, .val (.long (-7046029254386353131 : Int64)), .second, .val (.long (-4658895280553007687 : Int64)), .second, .val (.long (-7723592293110705685 : Int64)), .second, .val (.long zz), .second, .val (.long m2), .second, .val (.long bb), .second, .val (.long m1), .second, .unset, .unset, .unset, .unset, .unset] [(.long (-4658895280553007687 : Int64)), (.long m1)]))
  obtain ⟨_, _, ⟨T3, L3, k3, n3⟩, -, X3, ⟨Lc3, hQ3, l3, y3, z3⟩, st3⟩ := Jvm.LawKit.callS X2 hx (y := (⟨"com/example/evenkeel/evenkeel/SplitMixNthPinLaw", "inverse", "(J)J"⟩ : MethodName)) hown (mvT hZ (hw _ (List.mem_of_getElem? (i := 10) rfl))) (mvT hZ (hw _ (List.mem_of_getElem? (i := 11) rfl))) (mvT hZ (hw _ (List.mem_of_getElem? (i := 12) rfl))) (mvT hZ (hw _ (List.mem_of_getElem? (i := 13) rfl))) (by decide) (backOf (W := 2) (rm2 l Z a0 hw [] ((-4658895280553007687 : Int64)) h0 n0 Z0 ) hZ (hw _ (List.mem_of_getElem? (i := 13) rfl)) (hw _ (List.mem_of_getElem? (i := 12) rfl)) (by decide) (by decide)) (g := (mkF m 68 #[.val (.long q0), .second, .val (.long q1), .second, .val (.long (-7046029254386353131 : Int64)), .second, .val (.long (-4658895280553007687 : Int64)), .second, .val (.long (-7723592293110705685 : Int64)), .second, .val (.long zz), .second, .val (.long m2), .second, .val (.long bb), .second, .val (.long m1), .second, .unset, .unset, .unset, .unset, .unset] [(.long (-4658895280553007687 : Int64)), (.long m1)])) rfl (by rw [hml]; rfl) (argsL := [(.long (-4658895280553007687 : Int64))]) (rest := [(.long m1)]) (lenOf pd_1 rfl) rfl (by show 2 * 0 + _ ≤ _; exact Nat.le_of_eq rfl) (hb hby at_68) (fun _ _ => ⟨rfl, e2, (by decide : 0 + 0 ≤ _), (by decide : 0 + 0 ≤ _)⟩)
  dsimp only [Pt.U, Pt.locs, Pt.cells, Pt.slots] at X3 l3 y3 z3 st3 hQ3
  subst l3 y3 z3
  obtain ⟨rfl, Nq3, eh3⟩ := hQ3
  have N3 := Fr.app N2 Nq3
  refine own_go (fun t k => st3 _ k) ?_
  have e3 : T3.heap = h0 := eh3
  show own_Go p e below s _ _ _ (T3.setTop (mkF m 71 #[.val (.long q0), .second, .val (.long q1), .second, .val (.long (-7046029254386353131 : Int64)), .second, .val (.long (-4658895280553007687 : Int64)), .second, .val (.long (-7723592293110705685 : Int64)), .second, .val (.long zz), .second, .val (.long m2), .second, .val (.long bb), .second, .val (.long m1), .second, .unset, .unset, .unset, .unset, .unset] [(.long (own_inv (-4658895280553007687 : Int64))), (.long m1)]))
  refine own_go (fun t k => XS.lmul X3.here hx rfl (hb hby at_71) rfl k) ?_
  show own_Go p e below s _ _ _ (T3.setTop (mkF m 72 #[.val (.long q0), .second, .val (.long q1), .second, .val (.long (-7046029254386353131 : Int64)), .second, .val (.long (-4658895280553007687 : Int64)), .second, .val (.long (-7723592293110705685 : Int64)), .second, .val (.long zz), .second, .val (.long m2), .second, .val (.long bb), .second, .val (.long m1), .second, .unset, .unset, .unset, .unset, .unset] [(.long (m1 * (own_inv (-4658895280553007687 : Int64))))]))
  refine own_go (fun t k => XS.lstore X3.here hx rfl (hb hby at_72) rfl (l' := #[.val (.long q0), .second, .val (.long q1), .second, .val (.long (-7046029254386353131 : Int64)), .second, .val (.long (-4658895280553007687 : Int64)), .second, .val (.long (-7723592293110705685 : Int64)), .second, .val (.long zz), .second, .val (.long m2), .second, .val (.long bb), .second, .val (.long m1), .second, .val (.long (m1 * (own_inv (-4658895280553007687 : Int64)))), .second, .unset, .unset, .unset]) rfl k) ?_
  show own_Go p e below s _ _ _ (T3.setTop (mkF m 74 #[.val (.long q0), .second, .val (.long q1), .second, .val (.long (-7046029254386353131 : Int64)), .second, .val (.long (-4658895280553007687 : Int64)), .second, .val (.long (-7723592293110705685 : Int64)), .second, .val (.long zz), .second, .val (.long m2), .second, .val (.long bb), .second, .val (.long m1), .second, .val (.long (m1 * (own_inv (-4658895280553007687 : Int64)))), .second, .unset, .unset, .unset] []))
  obtain ⟨aa, haa⟩ : ∃ z, z = (m1 * (own_inv (-4658895280553007687 : Int64))) := ⟨_, rfl⟩
  rw [← haa]
  show own_Go p e below s _ _ _ (T3.setTop (mkF m 74 #[.val (.long q0), .second, .val (.long q1), .second, .val (.long (-7046029254386353131 : Int64)), .second, .val (.long (-4658895280553007687 : Int64)), .second, .val (.long (-7723592293110705685 : Int64)), .second, .val (.long zz), .second, .val (.long m2), .second, .val (.long bb), .second, .val (.long m1), .second, .val (.long aa), .second, .unset, .unset, .unset] []))
  refine own_go (fun t k => XS.lload X3.here hx rfl (hb hby at_74) rfl k) ?_
  show own_Go p e below s _ _ _ (T3.setTop (mkF m 76 #[.val (.long q0), .second, .val (.long q1), .second, .val (.long (-7046029254386353131 : Int64)), .second, .val (.long (-4658895280553007687 : Int64)), .second, .val (.long (-7723592293110705685 : Int64)), .second, .val (.long zz), .second, .val (.long m2), .second, .val (.long bb), .second, .val (.long m1), .second, .val (.long aa), .second, .unset, .unset, .unset] [(.long aa)]))
  refine own_go (fun t k => XS.lload X3.here hx rfl (hb hby at_76) rfl k) ?_
  show own_Go p e below s _ _ _ (T3.setTop (mkF m 78 #[.val (.long q0), .second, .val (.long q1), .second, .val (.long (-7046029254386353131 : Int64)), .second, .val (.long (-4658895280553007687 : Int64)), .second, .val (.long (-7723592293110705685 : Int64)), .second, .val (.long zz), .second, .val (.long m2), .second, .val (.long bb), .second, .val (.long m1), .second, .val (.long aa), .second, .unset, .unset, .unset] [(.long aa), (.long aa)]))
  refine own_go (fun t k => XS.bipush X3.here hx rfl (hb hby at_78) k) ?_
  show own_Go p e below s _ _ _ (T3.setTop (mkF m 80 #[.val (.long q0), .second, .val (.long q1), .second, .val (.long (-7046029254386353131 : Int64)), .second, .val (.long (-4658895280553007687 : Int64)), .second, .val (.long (-7723592293110705685 : Int64)), .second, .val (.long zz), .second, .val (.long m2), .second, .val (.long bb), .second, .val (.long m1), .second, .val (.long aa), .second, .unset, .unset, .unset] [(.int (30 : Int32)), (.long aa), (.long aa)]))
  refine own_go (fun t k => XS.lushr X3.here hx rfl (hb hby at_80) rfl k) ?_
  show own_Go p e below s _ _ _ (T3.setTop (mkF m 81 #[.val (.long q0), .second, .val (.long q1), .second, .val (.long (-7046029254386353131 : Int64)), .second, .val (.long (-4658895280553007687 : Int64)), .second, .val (.long (-7723592293110705685 : Int64)), .second, .val (.long zz), .second, .val (.long m2), .second, .val (.long bb), .second, .val (.long m1), .second, .val (.long aa), .second, .unset, .unset, .unset] [(.long ((aa.toUInt64 >>> ((30 : Int32) &&& 0x3f).toInt64.toUInt64).toInt64)), (.long aa)]))
  refine own_go (fun t k => XS.lxor X3.here hx rfl (hb hby at_81) rfl k) ?_
  show own_Go p e below s _ _ _ (T3.setTop (mkF m 82 #[.val (.long q0), .second, .val (.long q1), .second, .val (.long (-7046029254386353131 : Int64)), .second, .val (.long (-4658895280553007687 : Int64)), .second, .val (.long (-7723592293110705685 : Int64)), .second, .val (.long zz), .second, .val (.long m2), .second, .val (.long bb), .second, .val (.long m1), .second, .val (.long aa), .second, .unset, .unset, .unset] [(.long (aa ^^^ ((aa.toUInt64 >>> ((30 : Int32) &&& 0x3f).toInt64.toUInt64).toInt64)))]))
  refine own_go (fun t k => XS.lload X3.here hx rfl (hb hby at_82) rfl k) ?_
  show own_Go p e below s _ _ _ (T3.setTop (mkF m 84 #[.val (.long q0), .second, .val (.long q1), .second, .val (.long (-7046029254386353131 : Int64)), .second, .val (.long (-4658895280553007687 : Int64)), .second, .val (.long (-7723592293110705685 : Int64)), .second, .val (.long zz), .second, .val (.long m2), .second, .val (.long bb), .second, .val (.long m1), .second, .val (.long aa), .second, .unset, .unset, .unset] [(.long aa), (.long (aa ^^^ ((aa.toUInt64 >>> ((30 : Int32) &&& 0x3f).toInt64.toUInt64).toInt64)))]))
  refine own_go (fun t k => XS.bipush X3.here hx rfl (hb hby at_84) k) ?_
  show own_Go p e below s _ _ _ (T3.setTop (mkF m 86 #[.val (.long q0), .second, .val (.long q1), .second, .val (.long (-7046029254386353131 : Int64)), .second, .val (.long (-4658895280553007687 : Int64)), .second, .val (.long (-7723592293110705685 : Int64)), .second, .val (.long zz), .second, .val (.long m2), .second, .val (.long bb), .second, .val (.long m1), .second, .val (.long aa), .second, .unset, .unset, .unset] [(.int (60 : Int32)), (.long aa), (.long (aa ^^^ ((aa.toUInt64 >>> ((30 : Int32) &&& 0x3f).toInt64.toUInt64).toInt64)))]))
  refine own_go (fun t k => XS.lushr X3.here hx rfl (hb hby at_86) rfl k) ?_
  show own_Go p e below s _ _ _ (T3.setTop (mkF m 87 #[.val (.long q0), .second, .val (.long q1), .second, .val (.long (-7046029254386353131 : Int64)), .second, .val (.long (-4658895280553007687 : Int64)), .second, .val (.long (-7723592293110705685 : Int64)), .second, .val (.long zz), .second, .val (.long m2), .second, .val (.long bb), .second, .val (.long m1), .second, .val (.long aa), .second, .unset, .unset, .unset] [(.long ((aa.toUInt64 >>> ((60 : Int32) &&& 0x3f).toInt64.toUInt64).toInt64)), (.long (aa ^^^ ((aa.toUInt64 >>> ((30 : Int32) &&& 0x3f).toInt64.toUInt64).toInt64)))]))
  refine own_go (fun t k => XS.lxor X3.here hx rfl (hb hby at_87) rfl k) ?_
  show own_Go p e below s _ _ _ (T3.setTop (mkF m 88 #[.val (.long q0), .second, .val (.long q1), .second, .val (.long (-7046029254386353131 : Int64)), .second, .val (.long (-4658895280553007687 : Int64)), .second, .val (.long (-7723592293110705685 : Int64)), .second, .val (.long zz), .second, .val (.long m2), .second, .val (.long bb), .second, .val (.long m1), .second, .val (.long aa), .second, .unset, .unset, .unset] [(.long ((aa ^^^ ((aa.toUInt64 >>> ((30 : Int32) &&& 0x3f).toInt64.toUInt64).toInt64)) ^^^ ((aa.toUInt64 >>> ((60 : Int32) &&& 0x3f).toInt64.toUInt64).toInt64)))]))
  refine own_go (fun t k => XS.lstore X3.here hx rfl (hb hby at_88) rfl (l' := #[.val (.long q0), .second, .val (.long q1), .second, .val (.long (-7046029254386353131 : Int64)), .second, .val (.long (-4658895280553007687 : Int64)), .second, .val (.long (-7723592293110705685 : Int64)), .second, .val (.long zz), .second, .val (.long m2), .second, .val (.long bb), .second, .val (.long m1), .second, .val (.long aa), .second, .val (.long ((aa ^^^ ((aa.toUInt64 >>> ((30 : Int32) &&& 0x3f).toInt64.toUInt64).toInt64)) ^^^ ((aa.toUInt64 >>> ((60 : Int32) &&& 0x3f).toInt64.toUInt64).toInt64))), .second, .unset]) rfl k) ?_
  show own_Go p e below s _ _ _ (T3.setTop (mkF m 90 #[.val (.long q0), .second, .val (.long q1), .second, .val (.long (-7046029254386353131 : Int64)), .second, .val (.long (-4658895280553007687 : Int64)), .second, .val (.long (-7723592293110705685 : Int64)), .second, .val (.long zz), .second, .val (.long m2), .second, .val (.long bb), .second, .val (.long m1), .second, .val (.long aa), .second, .val (.long ((aa ^^^ ((aa.toUInt64 >>> ((30 : Int32) &&& 0x3f).toInt64.toUInt64).toInt64)) ^^^ ((aa.toUInt64 >>> ((60 : Int32) &&& 0x3f).toInt64.toUInt64).toInt64))), .second, .unset] []))
  obtain ⟨mm, hmm⟩ : ∃ z, z = ((aa ^^^ ((aa.toUInt64 >>> ((30 : Int32) &&& 0x3f).toInt64.toUInt64).toInt64)) ^^^ ((aa.toUInt64 >>> ((60 : Int32) &&& 0x3f).toInt64.toUInt64).toInt64)) := ⟨_, rfl⟩
  rw [← hmm]
  show own_Go p e below s _ _ _ (T3.setTop (mkF m 90 #[.val (.long q0), .second, .val (.long q1), .second, .val (.long (-7046029254386353131 : Int64)), .second, .val (.long (-4658895280553007687 : Int64)), .second, .val (.long (-7723592293110705685 : Int64)), .second, .val (.long zz), .second, .val (.long m2), .second, .val (.long bb), .second, .val (.long m1), .second, .val (.long aa), .second, .val (.long mm), .second, .unset] []))
  refine own_go (fun t k => XS.lload X3.here hx rfl (hb hby at_90) rfl k) ?_
  show own_Go p e below s _ _ _ (T3.setTop (mkF m 92 #[.val (.long q0), .second, .val (.long q1), .second, .val (.long (-7046029254386353131 : Int64)), .second, .val (.long (-4658895280553007687 : Int64)), .second, .val (.long (-7723592293110705685 : Int64)), .second, .val (.long zz), .second, .val (.long m2), .second, .val (.long bb), .second, .val (.long m1), .second, .val (.long aa), .second, .val (.long mm), .second, .unset] [(.long (-4658895280553007687 : Int64))]))
  refine own_go (fun t k => XS.lload X3.here hx rfl (hb hby at_92) rfl k) ?_
  show own_Go p e below s _ _ _ (T3.setTop (mkF m 94 #[.val (.long q0), .second, .val (.long q1), .second, .val (.long (-7046029254386353131 : Int64)), .second, .val (.long (-4658895280553007687 : Int64)), .second, .val (.long (-7723592293110705685 : Int64)), .second, .val (.long zz), .second, .val (.long m2), .second, .val (.long bb), .second, .val (.long m1), .second, .val (.long aa), .second, .val (.long mm), .second, .unset] [(.long (-4658895280553007687 : Int64)), (.long (-4658895280553007687 : Int64))]))
  obtain ⟨_, _, ⟨T4, L4, k4, n4⟩, -, X4, ⟨Lc4, hQ4, l4, y4, z4⟩, st4⟩ := Jvm.LawKit.callS X3 hx (y := (⟨"com/example/evenkeel/evenkeel/SplitMixNthPinLaw", "inverse", "(J)J"⟩ : MethodName)) hown (mvT hZ (hw _ (List.mem_of_getElem? (i := 10) rfl))) (mvT hZ (hw _ (List.mem_of_getElem? (i := 11) rfl))) (mvT hZ (hw _ (List.mem_of_getElem? (i := 12) rfl))) (mvT hZ (hw _ (List.mem_of_getElem? (i := 13) rfl))) (by decide) (backOf (W := 2) (rm2 l Z a0 hw [] ((-4658895280553007687 : Int64)) h0 n0 Z0 ) hZ (hw _ (List.mem_of_getElem? (i := 13) rfl)) (hw _ (List.mem_of_getElem? (i := 12) rfl)) (by decide) (by decide)) (g := (mkF m 94 #[.val (.long q0), .second, .val (.long q1), .second, .val (.long (-7046029254386353131 : Int64)), .second, .val (.long (-4658895280553007687 : Int64)), .second, .val (.long (-7723592293110705685 : Int64)), .second, .val (.long zz), .second, .val (.long m2), .second, .val (.long bb), .second, .val (.long m1), .second, .val (.long aa), .second, .val (.long mm), .second, .unset] [(.long (-4658895280553007687 : Int64)), (.long (-4658895280553007687 : Int64))])) rfl (by rw [hml]; rfl) (argsL := [(.long (-4658895280553007687 : Int64))]) (rest := [(.long (-4658895280553007687 : Int64))]) (lenOf pd_1 rfl) rfl (by show 2 * 0 + _ ≤ _; exact Nat.le_of_eq rfl) (hb hby at_94) (fun _ _ => ⟨rfl, e3, (by decide : 0 + 0 ≤ _), (by decide : 0 + 0 ≤ _)⟩)
  dsimp only [Pt.U, Pt.locs, Pt.cells, Pt.slots] at X4 l4 y4 z4 st4 hQ4
  subst l4 y4 z4
  obtain ⟨rfl, Nq4, eh4⟩ := hQ4
  have N4 := Fr.app N3 Nq4
  refine own_go (fun t k => st4 _ k) ?_
  have e4 : T4.heap = h0 := eh4
  show own_Go p e below s _ _ _ (T4.setTop (mkF m 97 #[.val (.long q0), .second, .val (.long q1), .second, .val (.long (-7046029254386353131 : Int64)), .second, .val (.long (-4658895280553007687 : Int64)), .second, .val (.long (-7723592293110705685 : Int64)), .second, .val (.long zz), .second, .val (.long m2), .second, .val (.long bb), .second, .val (.long m1), .second, .val (.long aa), .second, .val (.long mm), .second, .unset] [(.long (own_inv (-4658895280553007687 : Int64))), (.long (-4658895280553007687 : Int64))]))
  refine own_go (fun t k => XS.lmul X4.here hx rfl (hb hby at_97) rfl k) ?_
  show own_Go p e below s _ _ _ (T4.setTop (mkF m 98 #[.val (.long q0), .second, .val (.long q1), .second, .val (.long (-7046029254386353131 : Int64)), .second, .val (.long (-4658895280553007687 : Int64)), .second, .val (.long (-7723592293110705685 : Int64)), .second, .val (.long zz), .second, .val (.long m2), .second, .val (.long bb), .second, .val (.long m1), .second, .val (.long aa), .second, .val (.long mm), .second, .unset] [(.long ((-4658895280553007687 : Int64) * (own_inv (-4658895280553007687 : Int64))))]))
  refine own_go (fun t k => XS.lconst X4.here hx rfl (hb hby at_98) k) ?_
  show own_Go p e below s _ _ _ (T4.setTop (mkF m 99 #[.val (.long q0), .second, .val (.long q1), .second, .val (.long (-7046029254386353131 : Int64)), .second, .val (.long (-4658895280553007687 : Int64)), .second, .val (.long (-7723592293110705685 : Int64)), .second, .val (.long zz), .second, .val (.long m2), .second, .val (.long bb), .second, .val (.long m1), .second, .val (.long aa), .second, .val (.long mm), .second, .unset] [(.long (1 : Int64)), (.long ((-4658895280553007687 : Int64) * (own_inv (-4658895280553007687 : Int64))))]))
  refine own_go (fun t k => XS.lcmp X4.here hx rfl (hb hby at_99) rfl k) ?_
  show own_Go p e below s _ _ _ (T4.setTop (mkF m 100 #[.val (.long q0), .second, .val (.long q1), .second, .val (.long (-7046029254386353131 : Int64)), .second, .val (.long (-4658895280553007687 : Int64)), .second, .val (.long (-7723592293110705685 : Int64)), .second, .val (.long zz), .second, .val (.long m2), .second, .val (.long bb), .second, .val (.long m1), .second, .val (.long aa), .second, .val (.long mm), .second, .unset] [(.int (lcmpW ((-4658895280553007687 : Int64) * (own_inv (-4658895280553007687 : Int64))) (1 : Int64)))]))
  refine own_go (fun t k => XS.ifNo X4.here hx rfl (hb hby at_100) rfl ((if0 _ _).trans (teq ((lw_eq ((-4658895280553007687 : Int64) * (own_inv (-4658895280553007687 : Int64))) (1 : Int64)).mpr own_i1)).2) k) ?_
  show own_Go p e below s _ _ _ (T4.setTop (mkF m 103 #[.val (.long q0), .second, .val (.long q1), .second, .val (.long (-7046029254386353131 : Int64)), .second, .val (.long (-4658895280553007687 : Int64)), .second, .val (.long (-7723592293110705685 : Int64)), .second, .val (.long zz), .second, .val (.long m2), .second, .val (.long bb), .second, .val (.long m1), .second, .val (.long aa), .second, .val (.long mm), .second, .unset] []))
  refine own_go (fun t k => XS.lload X4.here hx rfl (hb hby at_103) rfl k) ?_
  show own_Go p e below s _ _ _ (T4.setTop (mkF m 105 #[.val (.long q0), .second, .val (.long q1), .second, .val (.long (-7046029254386353131 : Int64)), .second, .val (.long (-4658895280553007687 : Int64)), .second, .val (.long (-7723592293110705685 : Int64)), .second, .val (.long zz), .second, .val (.long m2), .second, .val (.long bb), .second, .val (.long m1), .second, .val (.long aa), .second, .val (.long mm), .second, .unset] [(.long (-7723592293110705685 : Int64))]))
  refine own_go (fun t k => XS.lload X4.here hx rfl (hb hby at_105) rfl k) ?_
  show own_Go p e below s _ _ _ (T4.setTop (mkF m 107 #[.val (.long q0), .second, .val (.long q1), .second, .val (.long (-7046029254386353131 : Int64)), .second, .val (.long (-4658895280553007687 : Int64)), .second, .val (.long (-7723592293110705685 : Int64)), .second, .val (.long zz), .second, .val (.long m2), .second, .val (.long bb), .second, .val (.long m1), .second, .val (.long aa), .second, .val (.long mm), .second, .unset] [(.long (-7723592293110705685 : Int64)), (.long (-7723592293110705685 : Int64))]))
  obtain ⟨_, _, ⟨T5, L5, k5, n5⟩, -, X5, ⟨Lc5, hQ5, l5, y5, z5⟩, st5⟩ := Jvm.LawKit.callS X4 hx (y := (⟨"com/example/evenkeel/evenkeel/SplitMixNthPinLaw", "inverse", "(J)J"⟩ : MethodName)) hown (mvT hZ (hw _ (List.mem_of_getElem? (i := 10) rfl))) (mvT hZ (hw _ (List.mem_of_getElem? (i := 11) rfl))) (mvT hZ (hw _ (List.mem_of_getElem? (i := 12) rfl))) (mvT hZ (hw _ (List.mem_of_getElem? (i := 13) rfl))) (by decide) (backOf (W := 2) (rm2 l Z a0 hw [] ((-7723592293110705685 : Int64)) h0 n0 Z0 ) hZ (hw _ (List.mem_of_getElem? (i := 13) rfl)) (hw _ (List.mem_of_getElem? (i := 12) rfl)) (by decide) (by decide)) (g := (mkF m 107 #[.val (.long q0), .second, .val (.long q1), .second, .val (.long (-7046029254386353131 : Int64)), .second, .val (.long (-4658895280553007687 : Int64)), .second, .val (.long (-7723592293110705685 : Int64)), .second, .val (.long zz), .second, .val (.long m2), .second, .val (.long bb), .second, .val (.long m1), .second, .val (.long aa), .second, .val (.long mm), .second, .unset] [(.long (-7723592293110705685 : Int64)), (.long (-7723592293110705685 : Int64))])) rfl (by rw [hml]; rfl) (argsL := [(.long (-7723592293110705685 : Int64))]) (rest := [(.long (-7723592293110705685 : Int64))]) (lenOf pd_1 rfl) rfl (by show 2 * 0 + _ ≤ _; exact Nat.le_of_eq rfl) (hb hby at_107) (fun _ _ => ⟨rfl, e4, (by decide : 0 + 0 ≤ _), (by decide : 0 + 0 ≤ _)⟩)
  dsimp only [Pt.U, Pt.locs, Pt.cells, Pt.slots] at X5 l5 y5 z5 st5 hQ5
  subst l5 y5 z5
  obtain ⟨rfl, Nq5, eh5⟩ := hQ5
  have N5 := Fr.app N4 Nq5
  refine own_go (fun t k => st5 _ k) ?_
  have e5 : T5.heap = h0 := eh5
  show own_Go p e below s _ _ _ (T5.setTop (mkF m 110 #[.val (.long q0), .second, .val (.long q1), .second, .val (.long (-7046029254386353131 : Int64)), .second, .val (.long (-4658895280553007687 : Int64)), .second, .val (.long (-7723592293110705685 : Int64)), .second, .val (.long zz), .second, .val (.long m2), .second, .val (.long bb), .second, .val (.long m1), .second, .val (.long aa), .second, .val (.long mm), .second, .unset] [(.long (own_inv (-7723592293110705685 : Int64))), (.long (-7723592293110705685 : Int64))]))
  refine own_go (fun t k => XS.lmul X5.here hx rfl (hb hby at_110) rfl k) ?_
  show own_Go p e below s _ _ _ (T5.setTop (mkF m 111 #[.val (.long q0), .second, .val (.long q1), .second, .val (.long (-7046029254386353131 : Int64)), .second, .val (.long (-4658895280553007687 : Int64)), .second, .val (.long (-7723592293110705685 : Int64)), .second, .val (.long zz), .second, .val (.long m2), .second, .val (.long bb), .second, .val (.long m1), .second, .val (.long aa), .second, .val (.long mm), .second, .unset] [(.long ((-7723592293110705685 : Int64) * (own_inv (-7723592293110705685 : Int64))))]))
  refine own_go (fun t k => XS.lconst X5.here hx rfl (hb hby at_111) k) ?_
  show own_Go p e below s _ _ _ (T5.setTop (mkF m 112 #[.val (.long q0), .second, .val (.long q1), .second, .val (.long (-7046029254386353131 : Int64)), .second, .val (.long (-4658895280553007687 : Int64)), .second, .val (.long (-7723592293110705685 : Int64)), .second, .val (.long zz), .second, .val (.long m2), .second, .val (.long bb), .second, .val (.long m1), .second, .val (.long aa), .second, .val (.long mm), .second, .unset] [(.long (1 : Int64)), (.long ((-7723592293110705685 : Int64) * (own_inv (-7723592293110705685 : Int64))))]))
  refine own_go (fun t k => XS.lcmp X5.here hx rfl (hb hby at_112) rfl k) ?_
  show own_Go p e below s _ _ _ (T5.setTop (mkF m 113 #[.val (.long q0), .second, .val (.long q1), .second, .val (.long (-7046029254386353131 : Int64)), .second, .val (.long (-4658895280553007687 : Int64)), .second, .val (.long (-7723592293110705685 : Int64)), .second, .val (.long zz), .second, .val (.long m2), .second, .val (.long bb), .second, .val (.long m1), .second, .val (.long aa), .second, .val (.long mm), .second, .unset] [(.int (lcmpW ((-7723592293110705685 : Int64) * (own_inv (-7723592293110705685 : Int64))) (1 : Int64)))]))
  refine own_go (fun t k => XS.ifNo X5.here hx rfl (hb hby at_113) rfl ((if0 _ _).trans (teq ((lw_eq ((-7723592293110705685 : Int64) * (own_inv (-7723592293110705685 : Int64))) (1 : Int64)).mpr own_i2)).2) k) ?_
  show own_Go p e below s _ _ _ (T5.setTop (mkF m 116 #[.val (.long q0), .second, .val (.long q1), .second, .val (.long (-7046029254386353131 : Int64)), .second, .val (.long (-4658895280553007687 : Int64)), .second, .val (.long (-7723592293110705685 : Int64)), .second, .val (.long zz), .second, .val (.long m2), .second, .val (.long bb), .second, .val (.long m1), .second, .val (.long aa), .second, .val (.long mm), .second, .unset] []))
  refine own_go (fun t k => XS.iconst X5.here hx rfl (hb hby at_116) k) ?_
  show own_Go p e below s _ _ _ (T5.setTop (mkF m 117 #[.val (.long q0), .second, .val (.long q1), .second, .val (.long (-7046029254386353131 : Int64)), .second, .val (.long (-4658895280553007687 : Int64)), .second, .val (.long (-7723592293110705685 : Int64)), .second, .val (.long zz), .second, .val (.long m2), .second, .val (.long bb), .second, .val (.long m1), .second, .val (.long aa), .second, .val (.long mm), .second, .unset] [(.int (1 : Int32))]))
  refine own_go (fun t k => XS.goto X5.here hx rfl (pc0 := 117) (pc' := 121) rfl (hb hby at_117) (by decide) (by decide) k) ?_
  show own_Go p e below s _ _ _ (T5.setTop (mkF m 121 #[.val (.long q0), .second, .val (.long q1), .second, .val (.long (-7046029254386353131 : Int64)), .second, .val (.long (-4658895280553007687 : Int64)), .second, .val (.long (-7723592293110705685 : Int64)), .second, .val (.long zz), .second, .val (.long m2), .second, .val (.long bb), .second, .val (.long m1), .second, .val (.long aa), .second, .val (.long mm), .second, .unset] [(.int (1 : Int32))]))
  refine own_go (fun t k => XS.istore X5.here hx rfl (hb hby at_121) rfl (l' := #[.val (.long q0), .second, .val (.long q1), .second, .val (.long (-7046029254386353131 : Int64)), .second, .val (.long (-4658895280553007687 : Int64)), .second, .val (.long (-7723592293110705685 : Int64)), .second, .val (.long zz), .second, .val (.long m2), .second, .val (.long bb), .second, .val (.long m1), .second, .val (.long aa), .second, .val (.long mm), .second, .val (.int (1 : Int32))]) rfl k) ?_
  show own_Go p e below s _ _ _ (T5.setTop (mkF m 123 #[.val (.long q0), .second, .val (.long q1), .second, .val (.long (-7046029254386353131 : Int64)), .second, .val (.long (-4658895280553007687 : Int64)), .second, .val (.long (-7723592293110705685 : Int64)), .second, .val (.long zz), .second, .val (.long m2), .second, .val (.long bb), .second, .val (.long m1), .second, .val (.long aa), .second, .val (.long mm), .second, .val (.int (1 : Int32))] []))
  refine own_go (fun t k => XS.iload X5.here hx rfl (hb hby at_123) rfl k) ?_
  show own_Go p e below s _ _ _ (T5.setTop (mkF m 125 #[.val (.long q0), .second, .val (.long q1), .second, .val (.long (-7046029254386353131 : Int64)), .second, .val (.long (-4658895280553007687 : Int64)), .second, .val (.long (-7723592293110705685 : Int64)), .second, .val (.long zz), .second, .val (.long m2), .second, .val (.long bb), .second, .val (.long m1), .second, .val (.long aa), .second, .val (.long mm), .second, .val (.int (1 : Int32))] [(.int (1 : Int32))]))
  refine own_go (fun t k => XS.ifNo X5.here hx rfl (hb hby at_125) rfl ((if0 _ _).trans (feq (by decide)).1) k) ?_
  show own_Go p e below s _ _ _ (T5.setTop (mkF m 128 #[.val (.long q0), .second, .val (.long q1), .second, .val (.long (-7046029254386353131 : Int64)), .second, .val (.long (-4658895280553007687 : Int64)), .second, .val (.long (-7723592293110705685 : Int64)), .second, .val (.long zz), .second, .val (.long m2), .second, .val (.long bb), .second, .val (.long m1), .second, .val (.long aa), .second, .val (.long mm), .second, .val (.int (1 : Int32))] []))
  refine own_go (fun t k => XS.lload X5.here hx rfl (hb hby at_128) rfl k) ?_
  show own_Go p e below s _ _ _ (T5.setTop (mkF m 130 #[.val (.long q0), .second, .val (.long q1), .second, .val (.long (-7046029254386353131 : Int64)), .second, .val (.long (-4658895280553007687 : Int64)), .second, .val (.long (-7723592293110705685 : Int64)), .second, .val (.long zz), .second, .val (.long m2), .second, .val (.long bb), .second, .val (.long m1), .second, .val (.long aa), .second, .val (.long mm), .second, .val (.int (1 : Int32))] [(.long mm)]))
  refine own_go (fun t k => XS.lloadN X5.here hx rfl (hb hby at_130) rfl k) ?_
  show own_Go p e below s _ _ _ (T5.setTop (mkF m 131 #[.val (.long q0), .second, .val (.long q1), .second, .val (.long (-7046029254386353131 : Int64)), .second, .val (.long (-4658895280553007687 : Int64)), .second, .val (.long (-7723592293110705685 : Int64)), .second, .val (.long zz), .second, .val (.long m2), .second, .val (.long bb), .second, .val (.long m1), .second, .val (.long aa), .second, .val (.long mm), .second, .val (.int (1 : Int32))] [(.long q0), (.long mm)]))
  refine own_go (fun t k => XS.lloadN X5.here hx rfl (hb hby at_131) rfl k) ?_
  show own_Go p e below s _ _ _ (T5.setTop (mkF m 132 #[.val (.long q0), .second, .val (.long q1), .second, .val (.long (-7046029254386353131 : Int64)), .second, .val (.long (-4658895280553007687 : Int64)), .second, .val (.long (-7723592293110705685 : Int64)), .second, .val (.long zz), .second, .val (.long m2), .second, .val (.long bb), .second, .val (.long m1), .second, .val (.long aa), .second, .val (.long mm), .second, .val (.int (1 : Int32))] [(.long q1), (.long q0), (.long mm)]))
  refine own_go (fun t k => XS.lload X5.here hx rfl (hb hby at_132) rfl k) ?_
  show own_Go p e below s _ _ _ (T5.setTop (mkF m 134 #[.val (.long q0), .second, .val (.long q1), .second, .val (.long (-7046029254386353131 : Int64)), .second, .val (.long (-4658895280553007687 : Int64)), .second, .val (.long (-7723592293110705685 : Int64)), .second, .val (.long zz), .second, .val (.long m2), .second, .val (.long bb), .second, .val (.long m1), .second, .val (.long aa), .second, .val (.long mm), .second, .val (.int (1 : Int32))] [(.long (-7046029254386353131 : Int64)), (.long q1), (.long q0), (.long mm)]))
  refine own_go (fun t k => XS.lmul X5.here hx rfl (hb hby at_134) rfl k) ?_
  show own_Go p e below s _ _ _ (T5.setTop (mkF m 135 #[.val (.long q0), .second, .val (.long q1), .second, .val (.long (-7046029254386353131 : Int64)), .second, .val (.long (-4658895280553007687 : Int64)), .second, .val (.long (-7723592293110705685 : Int64)), .second, .val (.long zz), .second, .val (.long m2), .second, .val (.long bb), .second, .val (.long m1), .second, .val (.long aa), .second, .val (.long mm), .second, .val (.int (1 : Int32))] [(.long (q1 * (-7046029254386353131 : Int64))), (.long q0), (.long mm)]))
  refine own_go (fun t k => XS.ladd X5.here hx rfl (hb hby at_135) rfl k) ?_
  show own_Go p e below s _ _ _ (T5.setTop (mkF m 136 #[.val (.long q0), .second, .val (.long q1), .second, .val (.long (-7046029254386353131 : Int64)), .second, .val (.long (-4658895280553007687 : Int64)), .second, .val (.long (-7723592293110705685 : Int64)), .second, .val (.long zz), .second, .val (.long m2), .second, .val (.long bb), .second, .val (.long m1), .second, .val (.long aa), .second, .val (.long mm), .second, .val (.int (1 : Int32))] [(.long (q0 + (q1 * (-7046029254386353131 : Int64)))), (.long mm)]))
  refine own_go (fun t k => XS.lcmp X5.here hx rfl (hb hby at_136) rfl k) ?_
  show own_Go p e below s _ _ _ (T5.setTop (mkF m 137 #[.val (.long q0), .second, .val (.long q1), .second, .val (.long (-7046029254386353131 : Int64)), .second, .val (.long (-4658895280553007687 : Int64)), .second, .val (.long (-7723592293110705685 : Int64)), .second, .val (.long zz), .second, .val (.long m2), .second, .val (.long bb), .second, .val (.long m1), .second, .val (.long aa), .second, .val (.long mm), .second, .val (.int (1 : Int32))] [(.int (lcmpW mm (q0 + (q1 * (-7046029254386353131 : Int64)))))]))
  refine own_go (fun t k => XS.ifNo X5.here hx rfl (hb hby at_137) rfl ((if0 _ _).trans (teq ((lw_eq mm (q0 + (q1 * (-7046029254386353131 : Int64)))).mpr (by rw [hmm, haa, hm1, hbb, hm2, hzz]; exact own_key q0 q1))).2) k) ?_
  show own_Go p e below s _ _ _ (T5.setTop (mkF m 140 #[.val (.long q0), .second, .val (.long q1), .second, .val (.long (-7046029254386353131 : Int64)), .second, .val (.long (-4658895280553007687 : Int64)), .second, .val (.long (-7723592293110705685 : Int64)), .second, .val (.long zz), .second, .val (.long m2), .second, .val (.long bb), .second, .val (.long m1), .second, .val (.long aa), .second, .val (.long mm), .second, .val (.int (1 : Int32))] []))
  refine own_go (fun t k => XS.iconst X5.here hx rfl (hb hby at_140) k) ?_
  show own_Go p e below s _ _ _ (T5.setTop (mkF m 141 #[.val (.long q0), .second, .val (.long q1), .second, .val (.long (-7046029254386353131 : Int64)), .second, .val (.long (-4658895280553007687 : Int64)), .second, .val (.long (-7723592293110705685 : Int64)), .second, .val (.long zz), .second, .val (.long m2), .second, .val (.long bb), .second, .val (.long m1), .second, .val (.long aa), .second, .val (.long mm), .second, .val (.int (1 : Int32))] [(.int (1 : Int32))]))
  refine own_go (fun t k => XS.goto X5.here hx rfl (pc0 := 141) (pc' := 145) rfl (hb hby at_141) (by decide) (by decide) k) ?_
  show own_Go p e below s _ _ _ (T5.setTop (mkF m 145 #[.val (.long q0), .second, .val (.long q1), .second, .val (.long (-7046029254386353131 : Int64)), .second, .val (.long (-4658895280553007687 : Int64)), .second, .val (.long (-7723592293110705685 : Int64)), .second, .val (.long zz), .second, .val (.long m2), .second, .val (.long bb), .second, .val (.long m1), .second, .val (.long aa), .second, .val (.long mm), .second, .val (.int (1 : Int32))] [(.int (1 : Int32))]))
  refine own_ret X5 (v := some (.int (1 : Int32))) (fun h => by rw [hret] at h; cases h) hlk ?_ (by decide) (by decide) (fun fs hr => retN X5 hx (t := .boolean) hret (by simp) (hb hby at_145) hr)
  show Q0 Z q0 q1 h0 n0 (some (.int (1 : Int32))) T5.heap _
  rw [e5]
  exact ⟨rfl, N5⟩
set_option maxRecDepth 65536 in
set_option maxHeartbeats 40000000 in
theorem comes_1 {Post : Tables → Env → Array Value → State → Outcome → State → Prop} (hpost : ∀ tb e args s v u, (limb_1_1.after args s (.returned v) u = true ∧ limb_1_2.after args s (.returned v) u = true ∧ True) → FrameEnd s (.returned v) u (Jvm.fieldLocs frame_1_writes args s ++ Jvm.arrayLocs frame_1_arrays args s ++ Jvm.staticLocs frame_1_statics s) 0 0 → Post tb e args s (.returned v) u) :
    ArmFor flags0 classFile x code maxLocals ret World_1 tables_1 room_1 Calls_1 rest_1 Pre_1 Post := by
  intro l hfl _ _ p e ha hc hk s m args below hf hA hF happ hP
  obtain ⟨hcalls, hrest, hpre⟩ := hP
  obtain ⟨-, -, -, hnamed, -, -, -, hat⟩ := (Spec.applies_iff hf).mp happ
  obtain ⟨hg, hn⟩ := and_e (Cond.before_iff.mp (show (Jvm.Cond.and given_1 narrow_1).before args s = true from hpre))
  obtain ⟨g1, g2⟩ := and_e hg
  obtain ⟨g3, g4⟩ := and_e g2
  obtain ⟨w0, w1, rfl⟩ : ∃ w0 w1 : Value, args = #[w0, w1] := by
    have hs : args.size = 2 := by simpa [Cond.value, given_1] using g1
    obtain ⟨L⟩ := args
    match L, hs with
    | [w0, w1], _ => exact ⟨w0, w1, rfl⟩
  have hw := fun d (hd : d ∈ tables_1) => atoms_spec (ws := Jvm.Cond.code x code maxLocals ret :: tables_1) hat d (List.mem_cons_of_mem _ hd)
  have hfit : Fit s := fun {y c} hc i hi => by
    obtain ⟨ha, rfl⟩ := Array.getElem?_eq_some_iff.mp hc
    have q := List.all_eq_true.mp ((Array.all_eq_true_iff_forall_mem.mp hF) _ (Array.getElem_mem ha)) i (List.mem_range.mpr hi)
    simpa [Array.getElem?_eq_getElem hi] using q
  obtain ⟨i0, ei0⟩ := isL_v g3
  obtain rfl : w0 = (.long i0) := Option.some.inj ei0
  obtain ⟨i1, ei1⟩ := isL_v g4
  obtain rfl : w1 = (.long i1) := Option.some.inj ei1
  obtain ⟨n, o, h1, h2, h3, _, L, rfl, ⟨rfl, N⟩, hq⟩ := rm0 l s _ hw tables_1 i0 i1  s.heap s.heap.size (Nat.le_refl _)  p e ha hc hk s m _ below hf ((Spec.applies_iff_loose hf).mp happ).1 ⟨rfl, State.Warmed39.refl s, rfl⟩ trivial
  refine ⟨n, _, h1, h2, h3, hpost _ _ _ _ _ _ ⟨Cond.after_iff.mpr rfl, Cond.after_iff.mpr (eq_i res_at (Term.int_eval (1)) rfl), trivial⟩ ⟨hq.1, hq.2.1, (hq.2.2.sift fun y hy => Or.inr (N y hy)).mono (by decide) (by decide)⟩⟩
theorem main_1_1 : Claimed_1_1 := comes_1 fun _ _ _ _ _ _ h hF => ⟨h.1, hF⟩
theorem main_1_2 : Claimed_1_2 := comes_1 fun _ _ _ _ _ _ h hF => ⟨h.2.1, hF⟩
end Jvm.Pilot.@@N@@
namespace Jvm.Pilot.@@N@@
open Jvm Jvm.ClassFile Sem Op Lib Jvm.Free Jvm.Stand Jvm.Pilot.@@N@@.Jvm.D
/-! MADE BY PROGRAM (witnessworld.py) out of the Statement's table words and the real class files: 9 classes; the members and pool entries that the words name. The judged class is class 1, her method 2. -/
namespace start1
open Jvm.ClassFile
def u (s : String) : CpInfo := .utf8 (stringToUtf16 s)
/-- a pool by its gaps: so many unusable entries, then the entry; so many at the end -/
def gap : Nat → List CpInfo → List CpInfo
  | 0, r => r
  | n + 1, r => .unusable :: gap n r
def poolList (es : List (Nat × CpInfo)) (last : Nat) : List CpInfo := es.foldr (fun e r => gap e.1 (e.2 :: r)) (gap last [])
def pool (es : List (Nat × CpInfo)) (last : Nat) : Array CpInfo := ⟨poolList es last⟩
def fileOf (pool : Array CpInfo) (this : Nat) (attrs : Array Attribute := #[]) (ms : Array MethodInfo := #[]) (fl : Nat := 33) (sup : Nat := 0) (ifs : Array Nat := #[]) (fds : Array FieldInfo := #[]) : ClassFile where
  minorVersion := 0
  majorVersion := 65
  constantPool := pool
  accessFlags := fl
  thisClass := this
  superClass := sup
  interfaces := ifs
  fields := fds
  methods := ms
  attributes := attrs
def plain (name : String) (sup : Option ClassId) : Class where
  name := name
  kind := .ordinary
  loader := none
  accessFlags := 33
  super := sup
  interfaces := #[]
  cf := none
  fields := #[]
  methods := #[]
  instanceTypes := #[]
  staticTypes := #[]
  resolved := #[]
  callSites := []
  init := .initialized
  statics := none
  mirror := none

def pool0 : Array CpInfo := pool [(5, u "<init>"), (0, u "()V"), (1, .class_ 10), (1, u "java/lang/Object")] 113

def k0m0 : Method := { name := "<init>", desc := "()V", sig := { parameters := [], returnType := none }, accessFlags := 1, code := none }
/-- java/lang/Object -/
def k0 : Class := { plain "java/lang/Object" none with
  accessFlags := 33
  interfaces := #[]
  cf := some (fileOf pool0 8 #[] #[{ accessFlags := 1, nameIndex := 5, descriptorIndex := 6, attributes := #[] }] 33 0 #[] #[])
  fields := #[]
  methods := #[k0m0]
  instanceTypes := #[]
  staticTypes := #[]
  resolved := Array.replicate 124 none
  statics := none }

def pool1 : Array CpInfo := pool [(2, .class_ 4), (1, u "java/lang/Object"), (0, u "<init>"), (0, u "()V"), (0, .long 2), (1, .long 11400714819323198485), (1, .long 13787848793156543929), (1, .long 10723151780598845931), (1, .methodref 16 17), (0, .class_ 18), (0, .nameAndType 19 20), (0, u "com/example/evenkeel/evenkeel/SplitMix"), (0, u "nth"), (0, u "(JJ)J"), (0, .methodref 22 23), (0, .class_ 24), (0, .nameAndType 25 26), (0, u "com/example/evenkeel/evenkeel/SplitMixNthPinLaw"), (0, u "inverse"), (0, u "(J)J"), (2, u "law"), (0, u "(JJ)Z")] 3

def k1m0 : Method := { name := "<init>", desc := "()V", sig := { parameters := [], returnType := none }, accessFlags := 2, code := none }
def k1c1 : Code := { maxStack := 8, maxLocals := 4, code := method_2_code, exceptionTable := #[], attributes := #[] }
def k1m1 : Method := { name := "inverse", desc := "(J)J", sig := { parameters := [.long], returnType := some .long }, accessFlags := 10, code := some k1c1 }
def k1c2 : Code := { maxStack := 8, maxLocals := 23, code := code, exceptionTable := #[], attributes := #[] }
def k1m2 : Method := { name := "law", desc := "(JJ)Z", sig := { parameters := [.long, .long], returnType := some .boolean }, accessFlags := 9, code := some k1c2 }
/-- com/example/evenkeel/evenkeel/SplitMixNthPinLaw -/
def k1 : Class := { plain "com/example/evenkeel/evenkeel/SplitMixNthPinLaw" (some 0) with
  accessFlags := 49
  interfaces := #[]
  cf := some (fileOf pool1 22 #[] #[{ accessFlags := 2, nameIndex := 5, descriptorIndex := 6, attributes := #[] }, { accessFlags := 10, nameIndex := 25, descriptorIndex := 26, attributes := #[] }, { accessFlags := 9, nameIndex := 29, descriptorIndex := 30, attributes := #[] }] 49 2 #[] #[])
  fields := #[]
  methods := #[k1m0, k1m1, k1m2]
  instanceTypes := #[]
  staticTypes := #[]
  resolved := Array.replicate 34 none
  statics := none }

def pool2 : Array CpInfo := pool [(2, .class_ 4), (1, u "java/lang/Object"), (0, u "<init>"), (0, u "()V"), (0, .class_ 8), (0, u "com/example/evenkeel/evenkeel/SplitMix"), (0, .long 11400714819323198485), (1, .long 13787848793156543929), (1, .long 10723151780598845931), (1, u "GAMMA"), (0, u "J"), (3, u "nth"), (0, u "(JJ)J")] 2

def k2m0 : Method := { name := "<init>", desc := "()V", sig := { parameters := [], returnType := none }, accessFlags := 2, code := none }
def k2c1 : Code := { maxStack := 6, maxLocals := 6, code := prog_164_method_2_code, exceptionTable := #[], attributes := #[] }
def k2m1 : Method := { name := "nth", desc := "(JJ)J", sig := { parameters := [.long, .long], returnType := some .long }, accessFlags := 8, code := some k2c1 }
/-- com/example/evenkeel/evenkeel/SplitMix -/
def k2 : Class := { plain "com/example/evenkeel/evenkeel/SplitMix" (some 0) with
  accessFlags := 48
  interfaces := #[]
  cf := some (fileOf pool2 7 #[] #[{ accessFlags := 2, nameIndex := 5, descriptorIndex := 6, attributes := #[] }, { accessFlags := 8, nameIndex := 20, descriptorIndex := 21, attributes := #[] }] 48 2 #[] #[{ accessFlags := 26, nameIndex := 15, descriptorIndex := 16, attributes := #[] }])
  fields := #[{ name := "GAMMA", type := .long, accessFlags := 26, slot := 0, constantValue := 0 }]
  methods := #[k2m0, k2m1]
  instanceTypes := #[]
  staticTypes := #[.long]
  resolved := Array.replicate 24 none
  statics := none }

def pool3 : Array CpInfo := pool [(1, u "java/lang/Cloneable"), (0, .class_ 1), (0, u "java/lang/Object"), (0, .class_ 3)] 3

/-- java/lang/Cloneable -/
def k3 : Class := { plain "java/lang/Cloneable" (some 0) with
  accessFlags := 1537
  interfaces := #[]
  cf := some (fileOf pool3 2 #[] #[] 1537 4 #[] #[])
  fields := #[]
  methods := #[]
  instanceTypes := #[]
  staticTypes := #[]
  resolved := Array.replicate 8 none
  statics := none }

def pool4 : Array CpInfo := pool [(1, u "java/io/Serializable"), (0, .class_ 1), (0, u "java/lang/Object"), (0, .class_ 3)] 3

/-- java/io/Serializable -/
def k4 : Class := { plain "java/io/Serializable" (some 0) with
  accessFlags := 1537
  interfaces := #[]
  cf := some (fileOf pool4 2 #[] #[] 1537 4 #[] #[])
  fields := #[]
  methods := #[]
  instanceTypes := #[]
  staticTypes := #[]
  resolved := Array.replicate 8 none
  statics := none }

/-- the primitive byte -/
def k5 : Class := { plain "byte" none with kind := .primitive 'B', accessFlags := 0x411 }
/-- [B -/
def k6 : Class := { plain "[B" (some 0) with kind := .array 5 .byte, interfaces := #[3, 4], accessFlags := 1041 }

/-- the primitive int -/
def k7 : Class := { plain "int" none with kind := .primitive 'I', accessFlags := 0x411 }
/-- [I -/
def k8 : Class := { plain "[I" (some 0) with kind := .array 7 .int, interfaces := #[3, 4], accessFlags := 1041 }

def heap : Heap := #[]
def classes : Array Class := #[k0, k1, k2, k3, k4, k5, k6, k7, k8]
def interned : List (Array UInt16 × Addr) := []
def slotsUsed : Nat := 0
def theMethod : MethodId := ⟨1, 2⟩
def args0 : Array Value := #[.long 5, .long 2]
def aboutOver (below : List Frame) : State where
  vm := { classes := classes, interned := interned.toArray }
  heap := heap
  slotsUsed := slotsUsed
  threads := #[{ frames := .invoking theMethod args0 :: below }]
def below0 : List Frame := [.native { method := ⟨0, 0⟩, args := #[] }]
def about1 : State := aboutOver below0
def p0 : Program := .bare "" "" ""
def e0 : Env := launch0.env 0 0 0
theorem w_frames : about1.frames = Frame.invoking theMethod args0 :: below0 := rfl
set_option maxRecDepth 65536 in
theorem w_args : argsFit about1.vm theMethod args0 = true := by decide +kernel
set_option maxRecDepth 65536 in
theorem w_heap : heapFits about1 = true := by decide +kernel
set_option maxRecDepth 65536 in
theorem w_runnable : about1.curStatus? = some .runnable := by decide +kernel
set_option maxRecDepth 65536 in
theorem w_alone : about1.alone = true := by decide +kernel
set_option maxRecDepth 65536 in
theorem w_named : about1.methodNamed? x = some theMethod := by decide +kernel
set_option maxRecDepth 65536 in
theorem w_hears : about1.hears theMethod below0 = true := by decide +kernel
set_option maxRecDepth 65536 in
theorem w_ripe : about1.ripe theMethod args0 below0 = true := by decide +kernel
theorem w_running : about1.status = .running := rfl
set_option maxRecDepth 65536 in
theorem w_room : about1.hasRoom e0.platform room_1 = true :=
  launch0.hasRoom_least _ room_1 (by decide +kernel) (by decide +kernel) (by decide +kernel) (by decide +kernel) (by decide +kernel) (by decide +kernel)
theorem allAtoms_all (ts : List Jvm.Cond) (a : Array Jvm.Value) (st : Jvm.State) : (allAtoms ts).before a st = ts.all (fun c => c.before a st) := by
  induction ts with
  | nil => rfl
  | cons c t ih =>
    show (Jvm.Cond.and c (allAtoms t)).before a st = _
    rw [Jvm.Cond.before_and, ih, List.all_cons]
def words1 : List Jvm.Cond := Jvm.Cond.code x code maxLocals ret :: tables_1
/-- a 'code' word, met by the world's own term for the bytes: nothing is compared byte by byte -/
theorem code_word {y : MethodName} {bytes : ByteArray} {mx : Nat} {rt : Option FieldType} {a : Array Value} {s : State} {m : MethodId} {meth : Method} {c : Code} (h1 : s.methodNamed? y = some m) (h2 : s.vm.method? m = some meth) (h3 : meth.code = some c) (h4 : c.code = bytes)
    (h5 : (c.maxLocals == mx && c.exceptionTable.isEmpty && decide (c.maxStack ≤ mostOperands) && decide (meth.sig.returnType = rt) && !meth.locks && decide (parseMethodDescriptor y.desc = some meth.sig)) = true) : (Jvm.Cond.code y bytes mx rt).before a s = true := by
  simp only [Bool.and_eq_true, beq_iff_eq, Bool.not_eq_true', decide_eq_true_eq] at h5
  obtain ⟨⟨⟨⟨⟨g1, g2⟩, g3⟩, g4⟩, g5⟩, g6⟩ := h5
  simp [Cond.before, Cond.holds, Cond.value, h1, h2, h3, h4, g1, g2, g3, g4, g5, g6]
def isCode : Jvm.Cond → Bool
  | .code _ _ _ _ => true
  | _ => false
theorem all_split {L : List Jvm.Cond} {P : Jvm.Cond → Bool} (h1 : L.all (fun c => isCode c || P c) = true) (h2 : ∀ c ∈ L.filter isCode, P c = true) : L.all P = true := by
  refine List.all_eq_true.mpr fun c hc => ?_
  have h := List.all_eq_true.mp h1 c hc
  rcases Bool.eq_false_or_eq_true (isCode c) with hi | hi
  · exact h2 c (List.mem_filter.mpr ⟨hc, hi⟩)
  · simpa [hi] using h
set_option maxRecDepth 65536 in
theorem w_c0 : (Jvm.Cond.code x code maxLocals ret).before args0 about1 = true := code_word (m := ⟨1, 2⟩) (meth := k1m2) (c := k1c2) (by decide +kernel) rfl rfl rfl (by decide +kernel)
set_option maxRecDepth 65536 in
theorem w_c1 : (Jvm.Cond.code ({ cls := "com/example/evenkeel/evenkeel/SplitMix", name := "nth", desc := "(JJ)J" } : Jvm.MethodName) prog_164_method_2_code (6 : Nat) (Option.some Jvm.ClassFile.FieldType.long)).before args0 about1 = true := code_word (m := ⟨2, 1⟩) (meth := k2m1) (c := k2c1) (by decide +kernel) rfl rfl rfl (by decide +kernel)
set_option maxRecDepth 65536 in
theorem w_c2 : (Jvm.Cond.code ({ cls := "com/example/evenkeel/evenkeel/SplitMixNthPinLaw", name := "inverse", desc := "(J)J" } : Jvm.MethodName) method_2_code (4 : Nat) (Option.some Jvm.ClassFile.FieldType.long)).before args0 about1 = true := code_word (m := ⟨1, 1⟩) (meth := k1m1) (c := k1c1) (by decide +kernel) rfl rfl rfl (by decide +kernel)
def codes1 : List Jvm.Cond := [Jvm.Cond.code x code maxLocals ret, Jvm.Cond.code ({ cls := "com/example/evenkeel/evenkeel/SplitMix", name := "nth", desc := "(JJ)J" } : Jvm.MethodName) prog_164_method_2_code (6 : Nat) (Option.some Jvm.ClassFile.FieldType.long), Jvm.Cond.code ({ cls := "com/example/evenkeel/evenkeel/SplitMixNthPinLaw", name := "inverse", desc := "(J)J" } : Jvm.MethodName) method_2_code (4 : Nat) (Option.some Jvm.ClassFile.FieldType.long)]
set_option maxRecDepth 65536 in
theorem codes_eq : words1.filter isCode = codes1 := rfl
theorem w_codes : ∀ c ∈ words1.filter isCode, c.before args0 about1 = true := by
  rw [codes_eq]
  intro c hc
  simp only [codes1, List.mem_cons, List.not_mem_nil, or_false] at hc
  rcases hc with rfl | rfl | rfl
  · exact w_c0
  · exact w_c1
  · exact w_c2
set_option maxRecDepth 65536 in
theorem w_t1 : words1.all (fun c => isCode c || c.before args0 about1) = true := by decide +kernel
theorem w_tables : (allAtoms (Jvm.Cond.code x code maxLocals ret :: tables_1)).before args0 about1 = true := by
  rw [allAtoms_all]
  show words1.all (fun c => c.before args0 about1) = true
  refine all_split ?_ w_codes
  rw [w_t1]
set_option maxRecDepth 65536 in
theorem w_case : (Jvm.Cond.and given_1 narrow_1).before args0 about1 = true := by decide +kernel
theorem w_applies : (headSpec (Jvm.Cond.code x code maxLocals ret :: tables_1) room_1).applies x e0.platform about1 = true :=
  (Spec.applies_iff w_frames).mpr ⟨w_running, w_runnable, w_alone, w_named, w_hears, w_ripe, w_room, w_tables⟩
theorem atStart : AtStart classFile x code maxLocals ret World_1 tables_1 room_1 Calls_1 rest_1 Pre_1 launch0 p0 e0 about1 theMethod args0 below0 :=
  ⟨lists_1, trivial, launch0.admits_env _ _ _, launch0.least_env, fairChoices_fair.cas, fairChoices_fair.clock, w_frames, w_args, w_heap, w_applies, trivial, trivial, w_case⟩
end start1
theorem witness_1 : WitnessClaimed_1 := ⟨start1.p0, start1.e0, start1.about1, start1.theMethod, start1.args0, start1.below0, start1.atStart⟩
end Jvm.Pilot.@@N@@
