import JvmDerived
import JvmDerived.Pilot.@@N@@Statement
import JvmDerived.Pilot.@@N@@Code
set_option linter.unusedVariables false
set_option linter.unusedSimpArgs false
namespace Jvm.RoadKit
open Sem ClassFile Op Lib Jvm.Stand Jvm.Free Jvm.LawKit
section New
variable {p : Program} {l : Launch} {e : Env} {R : Room} {s : State} {m : MethodId} {args : Array Value} {below : List Frame} {meth : Method} {c : Code} {T : State} {locs : List Loc} {cells slots : Nat}
theorem retI (X : Stand p l e R s m args below meth c T locs cells slots) (hx : p.tables.exec = Jvm.exec) {pc : Nat} {Ls : Array Slot} {z : Int32} {rest : List Value} (hret : meth.sig.returnType = some .int) (hd : decode c.code pc = .ok (.ireturn, 1)) {fs : List Frame}
    (hl : ∀ (f : JFrame) (acts : List Action), f.method = m → f.locked = none → f.entered = [] → (doReturn e (T.setTop f) acts (some (.int z))).1 = T.setFrames fs) : Steps p.tables e below (T.setTop (mkF m pc Ls (.int z :: rest))) (T.setFrames fs) := by
  have hm' : T.vm.method? m = some meth := X.method'
  have hn : narrow .int (.int z) = .int z := rfl
  show Steps p.tables e below (T.setTop { method := m, pc := pc, locals := Ls, stack := _ :: rest, locked := none }) _
  jvm_step X.here [X.here.top, hx, hd, hm', hret, hn]
  first | (intro acts; rw [hl _ acts rfl rfl rfl]) | rw [hl _ _ rfl rfl rfl]
  exact Steps.refl _
theorem own_lrem {g : JFrame} {target : State} (X : Stand p l e R s m args below meth c T locs cells slots) (hx : p.tables.exec = Jvm.exec) (hg : g.method = m) {x y : Int64} {rest : List Value} (hd : decode c.code g.pc = .ok (.lrem, 1)) (hs : g.stack = .long y :: .long x :: rest) (hy : y ≠ 0)
    (hr : Steps p.tables e below (T.setTop { g with pc := g.pc + 1, stack := .long (x % y) :: rest }) target) : Steps p.tables e below (T.setTop g) target :=
  XS.lrem X.here hx hg hd hs hy (by first | exact hr | (rw [lrem_mod]; exact hr))
end New
end Jvm.RoadKit
namespace Jvm.Pilot.@@N@@
open Jvm Jvm.ClassFile Sem Op Lib Jvm.Free Jvm.Stand Jvm.LawKit Jvm.RoadKit Bundle Jvm.Pilot.@@N@@.Jvm.D
/-- from the state A the body returns with QQ -/
def own_Go (p : Program) (e : Env) (below : List Frame) (s : State) (QQ : Option Value → Heap → List Loc → Prop) (k n : Nat) (A : State) : Prop :=
  ∃ U o, Steps p.tables e below A U ∧ U.status = .running ∧ Ended U below o ∧ ∃ v L, o = .returned v ∧ QQ v U.heap L ∧ FrameEnd s o U L k n
theorem own_go {p : Program} {e : Env} {below : List Frame} {s : State} {QQ : Option Value → Heap → List Loc → Prop} {k n : Nat} {A B : State} (h : ∀ t, Steps p.tables e below B t → Steps p.tables e below A t) (g : own_Go p e below s QQ k n B) : own_Go p e below s QQ k n A := by
  obtain ⟨U, o, h1, r⟩ := g
  exact ⟨U, o, h U h1, r⟩
theorem own_ret {p : Program} {l : Launch} {e : Env} {R : Room} {s : State} {m : MethodId} {args : Array Value} {below : List Frame} {meth : Method} {c : Code} {T : State} {locs : List Loc} {cells slots : Nat} {QQ : Option Value → Heap → List Loc → Prop} {k n : Nat} {A : State}
    (X : Stand p l e R s m args below meth c T locs cells slots) {v : Option Value} (hv : meth.sig.returnType = none → v = none) (hlk : meth.locks = false) (hQ : QQ v T.heap locs) (hk : cells ≤ k) (hn : slots ≤ n)
    (st : ∀ fs, (∀ (f : JFrame) (acts : List Action), f.method = m → f.locked = none → f.entered = [] → (doReturn e (T.setTop f) acts v).1 = T.setFrames fs) → Steps p.tables e below A (T.setFrames fs)) : own_Go p e below s QQ k n A := by
  obtain ⟨fs, hr, hrun, hended, hW, hsame⟩ := X.leave hv hlk
  exact ⟨_, _, st fs hr, hrun, hended, _, _, rfl, hQ, ⟨_, rfl⟩, hW, hsame.mono hk hn⟩
def own_GoW (p : Program) (e : Env) (below : List Frame) (s : State) (QQ : Option Value → Heap → List Loc → Prop) (k n : Nat) (A : State) : Prop :=
  ∃ U o, Steps p.tables e below A U ∧ U.status = .running ∧ Ended U below o ∧ ∃ v L, o = .returned v ∧ QQ v U.heap L ∧ ReturnedEndW s o U L k n
theorem own_goW {p : Program} {e : Env} {below : List Frame} {s : State} {QQ : Option Value → Heap → List Loc → Prop} {k n : Nat} {A B : State} (h : ∀ t, Steps p.tables e below B t → Steps p.tables e below A t) (g : own_GoW p e below s QQ k n B) : own_GoW p e below s QQ k n A := by
  obtain ⟨U, o, h1, r⟩ := g
  exact ⟨U, o, h U h1, r⟩
theorem own_retW {p : Program} {l : Launch} {e : Env} {R : Room} {s : State} {vm₁ : Vm} {m : MethodId} {args : Array Value} {below : List Frame} {meth : Method} {c : Code} {T : State} {locs : List Loc} {cells slots : Nat} {QQ : Option Value → Heap → List Loc → Prop} {k n : Nat} {A : State}
    (X : Stand p l e R (s.setVm vm₁) m args below meth c T locs cells slots) {n1 : Nat} (hS : s.Since vm₁ n1) (hn1 : n1 ≤ T.heap.size) {v : Option Value} (hv : meth.sig.returnType = none → v = none) (hlk : meth.locks = false) (hQ : QQ v T.heap locs) (hk : cells ≤ k) (hn : slots ≤ n)
    (st : ∀ fs, (∀ (f : JFrame) (acts : List Action), f.method = m → f.locked = none → f.entered = [] → (doReturn e (T.setTop f) acts v).1 = T.setFrames fs) → Steps p.tables e below A (T.setFrames fs)) : own_GoW p e below s QQ k n A := by
  obtain ⟨fs, hr, hrun, hended, hq⟩ := X.leaveW hS hn1 hv hlk
  exact ⟨_, _, st fs hr, hrun, hended, _, _, rfl, hQ, hq.1, hq.2.1, hq.2.2.1, hq.2.2.2.mono hk hn⟩
/-- an array by what its places hold -/
def own_Ary (Z : State) (h : Heap) (a : Addr) (ty : FieldType) (n : Nat) (f : Nat → Value) : Prop := ∃ c : Cell, Arr Z h a c ty ∧ c.slots.size = n ∧ ∀ j, j < n → c.slots[j]? = some (f j)
def own_set (f : Nat → Value) (i : Nat) (v : Value) : Nat → Value := fun j => if j = i then v else f j
section
variable {Z : State} {h h' : Heap} {a b : Addr} {ty : FieldType} {n : Nat} {f : Nat → Value}
theorem own_Ary.lt (F : own_Ary Z h a ty n f) : a < h.size := by obtain ⟨c, A, -⟩ := F; exact A.lt
theorem own_Ary.ext (F : own_Ary Z h a ty n f) (E : Ext h h') : own_Ary Z h' a ty n f := by obtain ⟨c, A, r⟩ := F; exact ⟨c, A.ext E, r⟩
theorem own_Ary.other {sl : Nat} {v : Value} (F : own_Ary Z h b ty n f) (W : Wr h h' a sl v) (q : b ≠ a) : own_Ary Z h' b ty n f := by obtain ⟨c, A, r⟩ := F; exact ⟨c, A.other W q, r⟩
theorem own_Ary.keep {ws : List Addr} (F : own_Ary Z h a ty n f) (K : Keep h h' ws) (q : a ∉ ws) : own_Ary Z h' a ty n f := by obtain ⟨c, A, r⟩ := F; exact ⟨c, ⟨K.2.1 a c A.1 q, A.2⟩, r⟩
theorem own_Ary.new {k : ClassId} {z : Int32} (A : Arr Z h a (newA k ty z) ty) (hz : z.toNatClampNeg = n) : own_Ary Z h a ty n (fun _ => defaultValue ty) :=
  ⟨_, A, by rw [sz_new]; exact hz, fun j hj => by simp [newA, hz, hj]⟩
theorem own_Ary.set {c : Cell} {i : Nat} {v : Value} (A : Arr Z h a c ty) (S : c.slots.size = n) (G : ∀ j, j < n → c.slots[j]? = some (f j)) (W : Wr h h' a i v) : own_Ary Z h' a ty n (own_set f i v) := by
  refine ⟨_, A.same W, by rw [sz_set]; exact S, fun j hj => ?_⟩
  simp only [Cell.setSlot, Array.getElem?_setIfInBounds, own_set]
  by_cases q : j = i
  · subst q; simp [S, hj]
  · have q' : ¬ i = j := fun z => q z.symm
    simp [q, q', G j hj]
theorem own_Ary.congr {g : Nat → Value} (F : own_Ary Z h a ty n f) (q : ∀ j, j < n → f j = g j) : own_Ary Z h a ty n g := by
  obtain ⟨c, A, S, G⟩ := F; exact ⟨c, A, S, fun j hj => by rw [G j hj, q j hj]⟩
def own_Ov (Z : State) (h : Heap) (a : Addr) (C : String) : Prop := ∃ c : Cell, h[a]? = some c ∧ Ovr Z c.cls C
theorem own_Ov.ext {C : String} (F : own_Ov Z h a C) (E : Ext h h') : own_Ov Z h' a C := by obtain ⟨c, h1, r⟩ := F; exact ⟨c, E.2 _ _ h1, r⟩
theorem own_Ov.wr {C : String} {sl : Nat} {v : Value} (F : own_Ov Z h a C) (W : Wr h h' b sl v) : own_Ov Z h' a C := by
  obtain ⟨c, h1, r⟩ := F
  obtain ⟨d, a1, a2, -⟩ := wr_at W h1
  exact ⟨d, a1, by rw [a2]; exact r⟩
theorem own_Ov.keep {C : String} {ws : List Addr} (F : own_Ov Z h a C) (K : Keep h h' ws) : own_Ov Z h' a C := by
  obtain ⟨c, h1, r⟩ := F
  obtain ⟨c', h2, h3, -⟩ := K.2.2 a c h1
  exact ⟨c', h2, by rw [h3]; exact r⟩
theorem own_sto {C : String} {c : Cell} {y : Addr} (A : Arr Z h a c ty) (F : own_Ov Z h a C) (I : Ins Z h y C true) : Sto Z h a (.ref y) := by
  obtain ⟨c', h1, r⟩ := F
  cases A.1.symm.trans h1
  exact Sto.of A r I
theorem own_sta_keep {C m d : String} {v : Value} (F : Sta Z h C m d v) (K : Keep h h' []) : Sta Z h' C m d v := by
  obtain ⟨cf, i, k, g, st, cell, h1, h2, h3, h4, h5, r⟩ := F
  exact ⟨cf, i, k, g, st, cell, h1, h2, h3, h4, K.2.1 _ _ h5 nin0, r⟩
theorem own_cl {j : Int32} {i : Nat} (q : j.toInt = (i : Int)) : j.toNatClampNeg = i := by
  show j.toInt.toNat = i
  rw [q]; rfl
theorem own_in {c : Cell} {j : Int32} {i : Nat} (S : c.slots.size = n) (q : j.toInt = (i : Int)) (hi : i < n) : ¬ (j < 0 ∨ c.slots.size ≤ j.toNatClampNeg) := by
  rw [own_cl q, S]
  have h0 : (0 : Int32).toInt = 0 := by decide
  intro z
  rcases z with z | z
  · have := Int32.lt_iff_toInt_lt.mp z; omega
  · omega
end
theorem own_str {a0 : Array Value} {Z : State} (hw : ∀ d ∈ tables_1, d.before a0 Z = true) : ∀ a ∈ Bundle.stringAtoms, a.before a0 Z = true := by
  intro a ha
  simp only [Bundle.stringAtoms, List.mem_cons, List.not_mem_nil, or_false] at ha
  rcases ha with rfl | rfl | rfl | rfl | rfl | rfl | rfl
  · exact hw _ (List.mem_of_getElem? (i := 9) rfl)
  · exact hw _ (List.mem_of_getElem? (i := 8) rfl)
  · exact hw _ (List.mem_of_getElem? (i := 26) rfl)
  · exact hw _ (List.mem_of_getElem? (i := 36) rfl)
  · exact hw _ (List.mem_of_getElem? (i := 34) rfl)
  · exact hw _ (List.mem_of_getElem? (i := 38) rfl)
  · exact hw _ (List.mem_of_getElem? (i := 39) rfl)
def own_y (c : Int32) : Int32 := c.toInt8.toInt32
theorem own_nary (c : Int32) : nar .byte (c.toInt8.toInt32) = own_y c := by simp [nar, own_y]
theorem own_n255 {c : Int32} (h : 0 ≤ c.toInt ∧ c.toInt ≤ 255) : ¬ (255 : Int32) < c := fun q => by
  have e : (255 : Int32).toInt = 255 := by decide
  have := Int32.lt_iff_toInt_lt.mp q
  omega
theorem own_narc {c : Int32} (h : 0 ≤ c.toInt ∧ c.toInt ≤ 255) : nar .char c = c := by
  have hb : (c.toBitVec.toNat : Int) = c.toInt := by
    have e : c.toInt = c.toBitVec.toInt := rfl
    rw [BitVec.toInt_eq_toNat_cond] at e
    have := c.toBitVec.isLt
    split at e <;> omega
  apply Int32.toBitVec_inj.mp
  apply BitVec.eq_of_toNat_eq
  show (BitVec.setWidth 32 (BitVec.setWidth 16 c.toBitVec)).toNat = _
  simp only [BitVec.toNat_setWidth]
  omega
theorem pn_0 : plainName "java/lang/StringUTF16" = true := by first | (simp [plainName, overriddenIn]; done) | decide +kernel
theorem d6_0 : decode jdk_52_method_21_code 0 = .ok (.iconst 0, 1) := by decide +kernel
theorem d6_1 : decode jdk_52_method_21_code 1 = .ok (.istore 5, 2) := by decide +kernel
theorem d6_3 : decode jdk_52_method_21_code 3 = .ok (.iload 5, 2) := by decide +kernel
theorem d6_5 : decode jdk_52_method_21_code 5 = .ok (.iload 4, 2) := by decide +kernel
theorem d6_7 : decode jdk_52_method_21_code 7 = .ok (.if_icmp .ge 37, 3) := by decide +kernel
theorem d6_10 : decode jdk_52_method_21_code 10 = .ok (.aload_n 0, 1) := by decide +kernel
theorem d6_11 : decode jdk_52_method_21_code 11 = .ok (.iload_n 1, 1) := by decide +kernel
theorem d6_12 : decode jdk_52_method_21_code 12 = .ok (.caload, 1) := by decide +kernel
theorem d6_13 : decode jdk_52_method_21_code 13 = .ok (.istore 6, 2) := by decide +kernel
theorem d6_15 : decode jdk_52_method_21_code 15 = .ok (.iload 6, 2) := by decide +kernel
theorem d6_17 : decode jdk_52_method_21_code 17 = .ok (.sipush 255, 3) := by decide +kernel
theorem d6_20 : decode jdk_52_method_21_code 20 = .ok (.if_icmp .le 6, 3) := by decide +kernel
theorem d6_26 : decode jdk_52_method_21_code 26 = .ok (.aload_n 2, 1) := by decide +kernel
theorem d6_27 : decode jdk_52_method_21_code 27 = .ok (.iload_n 3, 1) := by decide +kernel
theorem d6_28 : decode jdk_52_method_21_code 28 = .ok (.iload 6, 2) := by decide +kernel
theorem d6_30 : decode jdk_52_method_21_code 30 = .ok (.i2b, 1) := by decide +kernel
theorem d6_31 : decode jdk_52_method_21_code 31 = .ok (.bastore, 1) := by decide +kernel
theorem d6_32 : decode jdk_52_method_21_code 32 = .ok (.iinc 1 1, 3) := by decide +kernel
theorem d6_35 : decode jdk_52_method_21_code 35 = .ok (.iinc 3 1, 3) := by decide +kernel
theorem d6_38 : decode jdk_52_method_21_code 38 = .ok (.iinc 5 1, 3) := by decide +kernel
theorem d6_41 : decode jdk_52_method_21_code 41 = .ok (.goto (-38), 3) := by decide +kernel
theorem d6_44 : decode jdk_52_method_21_code 44 = .ok (.iload 4, 2) := by decide +kernel
theorem d6_46 : decode jdk_52_method_21_code 46 = .ok (.ireturn, 1) := by decide +kernel
theorem ef_61 (m : MethodId) (r0 : Addr) (r2 : Addr) : entryFrame m #[(.ref r0), (.int (0 : Int32)), (.ref r2), (.int (0 : Int32)), (.int (1 : Int32))] 7 = mkF m 0 #[.val (.ref r0), .val (.int (0 : Int32)), .val (.ref r2), .val (.int (0 : Int32)), .val (.int (1 : Int32)), .unset, .unset] [] := by first | (simp [entryFrame, mkF, argsToLocals, Value.category]; done) | rfl
def Q61 (Z : State) (r0 : Addr) (r2 : Addr) (cf : Nat → Int32) (h0 : Heap) (n0 : Nat) (v : Option Value) (h : Heap) (L : List Loc) : Prop := v = some (.int (1 : Int32)) ∧ Fr n0 L ∧ Keep h0 h [r2] ∧ own_Ary Z h r2 .byte 1 (fun j => .int (own_y (cf j)))
set_option maxRecDepth 65536 in
set_option maxHeartbeats 40000000 in
theorem rm61 (l : Launch) (Z : State) (a0 : Array Value) (hw : ∀ d ∈ tables_1, d.before a0 Z = true) (ws : List Jvm.Cond) (r0 : Addr) (r2 : Addr) (cf : Nat → Int32) (h0 : Heap) (n0 : Nat) (Z0 : n0 ≤ h0.size) (VC0 : own_Ary Z h0 r0 .char 1 (fun j => .int (cf j))) (VB0 : own_Ary Z h0 r2 .byte 1 (fun _ => .int (0 : Int32))) (hcf : ∀ j, j < 1 → 0 ≤ (cf j).toInt ∧ (cf j).toInt ≤ 255) (ne0 : r0 ≠ r2) (g0 : n0 ≤ r2) :
    MetFree l (⟨"java/lang/StringUTF16", "compress", "([CI[BII)I"⟩ : MethodName) (head1 (Jvm.Cond.code (⟨"java/lang/StringUTF16", "compress", "([CI[BII)I"⟩ : MethodName) jdk_52_method_21_code 7 (some .int) :: ws) ({ frames := 0, cells := 0, slots := 0, locals := 0 } : Room)) (fun a U => a = #[(.ref r0), (.int (0 : Int32)), (.ref r2), (.int (0 : Int32)), (.int (1 : Int32))] ∧ Z.Warmed39 U.vm ∧ U.heap = h0) (fun _ _ _ _ _ => True) (fun _ U o U' => ∃ v L, o = .returned v ∧ Q61 Z r0 r2 cf h0 n0 v U'.heap L ∧ FrameEnd U o U' L (({ frames := 0, cells := 0, slots := 0, locals := 0 } : Room)).cells (({ frames := 0, cells := 0, slots := 0, locals := 0 } : Room)).slots) := by
  refine MetFree.of_bodySF (plainFor_of_name pn_0) hisR ?_
  intro p e s m args below meth c s₁ Bd hml0 hP hK
  obtain ⟨rfl, hZ, hh⟩ := hP
  have hx := Bd.exec
  have hby := Bd.bytes
  have hml : c.maxLocals = 7 := hml0
  have hown : s.vm.findClass "java/lang/StringUTF16" = some m.cls := findClass_of_methodNamed Bd.named
  have hnm := (name_of_methodNamed Bd.named Bd.method).1
  have hlk : meth.locks = false := Bd.notSynchronized
  have X0 : Stand p l e ({ frames := 0, cells := 0, slots := 0, locals := 0 } : Room) s m #[(.ref r0), (.int (0 : Int32)), (.ref r2), (.int (0 : Int32)), (.int (1 : Int32))] below meth c s₁ [] 0 0 := Stand.of_body Bd
  have e0 : s₁.heap = h0 := by rw [← hh, Bd.state]; rfl
  have N0 := Fr.nil n0
  have hret := Bd.returns
  show own_Go p e below s (Q61 Z r0 r2 cf h0 n0) _ _ (s₁.setTop (entryFrame m #[(.ref r0), (.int (0 : Int32)), (.ref r2), (.int (0 : Int32)), (.int (1 : Int32))] 7))
  refine own_go (fun t k => castTop (ef_61 m r0 r2) k) ?_
  show own_Go p e below s _ _ _ (s₁.setTop (mkF m 0 #[.val (.ref r0), .val (.int (0 : Int32)), .val (.ref r2), .val (.int (0 : Int32)), .val (.int (1 : Int32)), .unset, .unset] []))
  refine own_go (fun t_ kt_ => XS.iconst X0.here hx rfl (hb hby d6_0) kt_) ?_
  show own_Go p e below s _ _ _ (s₁.setTop (mkF m 1 #[.val (.ref r0), .val (.int (0 : Int32)), .val (.ref r2), .val (.int (0 : Int32)), .val (.int (1 : Int32)), .unset, .unset] [(.int (0 : Int32))]))
  refine own_go (fun t_ kt_ => XS.istore X0.here hx rfl (hb hby d6_1) rfl (l' := #[.val (.ref r0), .val (.int (0 : Int32)), .val (.ref r2), .val (.int (0 : Int32)), .val (.int (1 : Int32)), .val (.int (0 : Int32)), .unset]) rfl kt_) ?_
  show own_Go p e below s _ _ _ (s₁.setTop (mkF m 3 #[.val (.ref r0), .val (.int (0 : Int32)), .val (.ref r2), .val (.int (0 : Int32)), .val (.int (1 : Int32)), .val (.int (0 : Int32)), .unset] []))
  refine own_go (fun t_ kt_ => XS.iload X0.here hx rfl (hb hby d6_3) rfl kt_) ?_
  show own_Go p e below s _ _ _ (s₁.setTop (mkF m 5 #[.val (.ref r0), .val (.int (0 : Int32)), .val (.ref r2), .val (.int (0 : Int32)), .val (.int (1 : Int32)), .val (.int (0 : Int32)), .unset] [(.int (0 : Int32))]))
  refine own_go (fun t_ kt_ => XS.iload X0.here hx rfl (hb hby d6_5) rfl kt_) ?_
  show own_Go p e below s _ _ _ (s₁.setTop (mkF m 7 #[.val (.ref r0), .val (.int (0 : Int32)), .val (.ref r2), .val (.int (0 : Int32)), .val (.int (1 : Int32)), .val (.int (0 : Int32)), .unset] [(.int (1 : Int32)), (.int (0 : Int32))]))
  refine own_go (fun t_ kt_ => XS.icmpNo X0.here hx rfl (hb hby d6_7) rfl (tlt (by decide)).2.1 kt_) ?_
  show own_Go p e below s _ _ _ (s₁.setTop (mkF m 10 #[.val (.ref r0), .val (.int (0 : Int32)), .val (.ref r2), .val (.int (0 : Int32)), .val (.int (1 : Int32)), .val (.int (0 : Int32)), .unset] []))
  refine own_go (fun t_ kt_ => XS.aloadN X0.here hx rfl (hb hby d6_10) rfl rfl kt_) ?_
  show own_Go p e below s _ _ _ (s₁.setTop (mkF m 11 #[.val (.ref r0), .val (.int (0 : Int32)), .val (.ref r2), .val (.int (0 : Int32)), .val (.int (1 : Int32)), .val (.int (0 : Int32)), .unset] [(.ref r0)]))
  refine own_go (fun t_ kt_ => XS.iloadN X0.here hx rfl (hb hby d6_11) rfl kt_) ?_
  show own_Go p e below s _ _ _ (s₁.setTop (mkF m 12 #[.val (.ref r0), .val (.int (0 : Int32)), .val (.ref r2), .val (.int (0 : Int32)), .val (.int (1 : Int32)), .val (.int (0 : Int32)), .unset] [(.int (0 : Int32)), (.ref r0)]))
  obtain ⟨ce1, Ar1, S1, G1⟩ := id VC0
  have q1 : ce1.slots[((0 : Int32)).toNatClampNeg]? = some (.int (cf 0)) := by rw [own_cl (j := (0 : Int32)) (i := 0) (by decide)]; exact (G1 _ (by decide)).trans (congrArg some (rfl))
  refine own_go (fun t_ kt_ => X0.caload hx (j := (0 : Int32)) (v := (.int (cf 0))) (by rw [e0]; exact Ar1.1) (State.isArrayOf_alike hZ.alike Ar1.2.1) Ar1.2.2 (own_in (i := 0) S1 (by decide) (by decide)) q1 (g := (mkF m 12 #[.val (.ref r0), .val (.int (0 : Int32)), .val (.ref r2), .val (.int (0 : Int32)), .val (.int (1 : Int32)), .val (.int (0 : Int32)), .unset] [(.int (0 : Int32)), (.ref r0)])) rfl rfl (hb hby d6_12) _ kt_) ?_
  show own_Go p e below s _ _ _ (s₁.setTop (mkF m 13 #[.val (.ref r0), .val (.int (0 : Int32)), .val (.ref r2), .val (.int (0 : Int32)), .val (.int (1 : Int32)), .val (.int (0 : Int32)), .unset] [(.int (cf 0))]))
  refine own_go (fun t_ kt_ => XS.istore X0.here hx rfl (hb hby d6_13) rfl (l' := #[.val (.ref r0), .val (.int (0 : Int32)), .val (.ref r2), .val (.int (0 : Int32)), .val (.int (1 : Int32)), .val (.int (0 : Int32)), .val (.int (cf 0))]) rfl kt_) ?_
  show own_Go p e below s _ _ _ (s₁.setTop (mkF m 15 #[.val (.ref r0), .val (.int (0 : Int32)), .val (.ref r2), .val (.int (0 : Int32)), .val (.int (1 : Int32)), .val (.int (0 : Int32)), .val (.int (cf 0))] []))
  refine own_go (fun t_ kt_ => XS.iload X0.here hx rfl (hb hby d6_15) rfl kt_) ?_
  show own_Go p e below s _ _ _ (s₁.setTop (mkF m 17 #[.val (.ref r0), .val (.int (0 : Int32)), .val (.ref r2), .val (.int (0 : Int32)), .val (.int (1 : Int32)), .val (.int (0 : Int32)), .val (.int (cf 0))] [(.int (cf 0))]))
  refine own_go (fun t_ kt_ => XS.sipush X0.here hx rfl (hb hby d6_17) kt_) ?_
  show own_Go p e below s _ _ _ (s₁.setTop (mkF m 20 #[.val (.ref r0), .val (.int (0 : Int32)), .val (.ref r2), .val (.int (0 : Int32)), .val (.int (1 : Int32)), .val (.int (0 : Int32)), .val (.int (cf 0))] [(.int (255 : Int32)), (.int (cf 0))]))
  refine own_go (fun t_ kt_ => XS.icmpYes X0.here hx rfl (pc0 := 20) (pc' := 26) rfl (hb hby d6_20) rfl (flt (own_n255 (hcf 0 (by decide)))).2.2.2 (by decide) (by decide) kt_) ?_
  show own_Go p e below s _ _ _ (s₁.setTop (mkF m 26 #[.val (.ref r0), .val (.int (0 : Int32)), .val (.ref r2), .val (.int (0 : Int32)), .val (.int (1 : Int32)), .val (.int (0 : Int32)), .val (.int (cf 0))] []))
  refine own_go (fun t_ kt_ => XS.aloadN X0.here hx rfl (hb hby d6_26) rfl rfl kt_) ?_
  show own_Go p e below s _ _ _ (s₁.setTop (mkF m 27 #[.val (.ref r0), .val (.int (0 : Int32)), .val (.ref r2), .val (.int (0 : Int32)), .val (.int (1 : Int32)), .val (.int (0 : Int32)), .val (.int (cf 0))] [(.ref r2)]))
  refine own_go (fun t_ kt_ => XS.iloadN X0.here hx rfl (hb hby d6_27) rfl kt_) ?_
  show own_Go p e below s _ _ _ (s₁.setTop (mkF m 28 #[.val (.ref r0), .val (.int (0 : Int32)), .val (.ref r2), .val (.int (0 : Int32)), .val (.int (1 : Int32)), .val (.int (0 : Int32)), .val (.int (cf 0))] [(.int (0 : Int32)), (.ref r2)]))
  refine own_go (fun t_ kt_ => XS.iload X0.here hx rfl (hb hby d6_28) rfl kt_) ?_
  show own_Go p e below s _ _ _ (s₁.setTop (mkF m 30 #[.val (.ref r0), .val (.int (0 : Int32)), .val (.ref r2), .val (.int (0 : Int32)), .val (.int (1 : Int32)), .val (.int (0 : Int32)), .val (.int (cf 0))] [(.int (cf 0)), (.int (0 : Int32)), (.ref r2)]))
  refine own_go (fun t_ kt_ => XS.i2b X0.here hx rfl (hb hby d6_30) rfl kt_) ?_
  show own_Go p e below s _ _ _ (s₁.setTop (mkF m 31 #[.val (.ref r0), .val (.int (0 : Int32)), .val (.ref r2), .val (.int (0 : Int32)), .val (.int (1 : Int32)), .val (.int (0 : Int32)), .val (.int (cf 0))] [(.int ((cf 0).toInt8.toInt32)), (.int (0 : Int32)), (.ref r2)]))
  obtain ⟨ce2, Ar2, S2, G2⟩ := id VB0
  obtain ⟨T2, h2, X2, e2, W2, st2⟩ := stB X0 hx hZ e0 Ar2 (j := (0 : Int32)) (own_in (i := 0) S2 (by decide) (by decide)) (g := (mkF m 31 #[.val (.ref r0), .val (.int (0 : Int32)), .val (.ref r2), .val (.int (0 : Int32)), .val (.int (1 : Int32)), .val (.int (0 : Int32)), .val (.int (cf 0))] [(.int ((cf 0).toInt8.toInt32)), (.int (0 : Int32)), (.ref r2)])) rfl rfl (hb hby d6_31)
  rw [own_cl (j := (0 : Int32)) (i := 0) (by decide)] at W2 X2
  refine own_go (fun t_ kt_ => st2 _ kt_) ?_
  have N2 := Fr.snoc X2 N0 g0
  obtain ⟨lo2, X2g, N2g⟩ : ∃ lo, Stand p l e ({ frames := 0, cells := 0, slots := 0, locals := 0 } : Room) s m #[(.ref r0), (.int (0 : Int32)), (.ref r2), (.int (0 : Int32)), (.int (1 : Int32))] below meth c T2 lo 0 0 ∧ Fr n0 lo := ⟨_, X2, N2⟩
  rw [(own_nary _ : nar .byte ((cf 0).toInt8.toInt32) = (own_y (cf 0)))] at W2
  have ZZ_2 : n0 ≤ h2.size := Nat.le_trans Z0 (Nat.le_of_eq W2.size.symm)
  have VC_2 : own_Ary Z h2 r0 .char 1 (fun j => .int (cf j)) := VC0.other W2 ne0
  have VB_2 : own_Ary Z h2 r2 .byte 1 (own_set (fun _ => .int (0 : Int32)) 0 (.int (own_y (cf 0)))) := own_Ary.set Ar2 S2 G2 W2
  have K2 : Keep h0 h2 [r2] := (Keep.refl h0 [r2]).wr W2 (Or.inl (by simp))
  show own_Go p e below s _ _ _ (T2.setTop (mkF m 32 #[.val (.ref r0), .val (.int (0 : Int32)), .val (.ref r2), .val (.int (0 : Int32)), .val (.int (1 : Int32)), .val (.int (0 : Int32)), .val (.int (cf 0))] []))
  refine own_go (fun t_ kt_ => XS.iinc X2g.here hx rfl (hb hby d6_32) rfl (l' := #[.val (.ref r0), .val (.int (1 : Int32)), .val (.ref r2), .val (.int (0 : Int32)), .val (.int (1 : Int32)), .val (.int (0 : Int32)), .val (.int (cf 0))]) rfl kt_) ?_
  show own_Go p e below s _ _ _ (T2.setTop (mkF m 35 #[.val (.ref r0), .val (.int (1 : Int32)), .val (.ref r2), .val (.int (0 : Int32)), .val (.int (1 : Int32)), .val (.int (0 : Int32)), .val (.int (cf 0))] []))
  refine own_go (fun t_ kt_ => XS.iinc X2g.here hx rfl (hb hby d6_35) rfl (l' := #[.val (.ref r0), .val (.int (1 : Int32)), .val (.ref r2), .val (.int (1 : Int32)), .val (.int (1 : Int32)), .val (.int (0 : Int32)), .val (.int (cf 0))]) rfl kt_) ?_
  show own_Go p e below s _ _ _ (T2.setTop (mkF m 38 #[.val (.ref r0), .val (.int (1 : Int32)), .val (.ref r2), .val (.int (1 : Int32)), .val (.int (1 : Int32)), .val (.int (0 : Int32)), .val (.int (cf 0))] []))
  refine own_go (fun t_ kt_ => XS.iinc X2g.here hx rfl (hb hby d6_38) rfl (l' := #[.val (.ref r0), .val (.int (1 : Int32)), .val (.ref r2), .val (.int (1 : Int32)), .val (.int (1 : Int32)), .val (.int (1 : Int32)), .val (.int (cf 0))]) rfl kt_) ?_
  show own_Go p e below s _ _ _ (T2.setTop (mkF m 41 #[.val (.ref r0), .val (.int (1 : Int32)), .val (.ref r2), .val (.int (1 : Int32)), .val (.int (1 : Int32)), .val (.int (1 : Int32)), .val (.int (cf 0))] []))
  refine own_go (fun t_ kt_ => XS.goto X2g.here hx rfl (pc0 := 41) (pc' := 3) rfl (hb hby d6_41) (by decide) (by decide) kt_) ?_
  show own_Go p e below s _ _ _ (T2.setTop (mkF m 3 #[.val (.ref r0), .val (.int (1 : Int32)), .val (.ref r2), .val (.int (1 : Int32)), .val (.int (1 : Int32)), .val (.int (1 : Int32)), .val (.int (cf 0))] []))
  refine own_go (fun t_ kt_ => XS.iload X2g.here hx rfl (hb hby d6_3) rfl kt_) ?_
  show own_Go p e below s _ _ _ (T2.setTop (mkF m 5 #[.val (.ref r0), .val (.int (1 : Int32)), .val (.ref r2), .val (.int (1 : Int32)), .val (.int (1 : Int32)), .val (.int (1 : Int32)), .val (.int (cf 0))] [(.int (1 : Int32))]))
  refine own_go (fun t_ kt_ => XS.iload X2g.here hx rfl (hb hby d6_5) rfl kt_) ?_
  show own_Go p e below s _ _ _ (T2.setTop (mkF m 7 #[.val (.ref r0), .val (.int (1 : Int32)), .val (.ref r2), .val (.int (1 : Int32)), .val (.int (1 : Int32)), .val (.int (1 : Int32)), .val (.int (cf 0))] [(.int (1 : Int32)), (.int (1 : Int32))]))
  refine own_go (fun t_ kt_ => XS.icmpYes X2g.here hx rfl (pc0 := 7) (pc' := 44) rfl (hb hby d6_7) rfl (flt (by decide)).2.1 (by decide) (by decide) kt_) ?_
  show own_Go p e below s _ _ _ (T2.setTop (mkF m 44 #[.val (.ref r0), .val (.int (1 : Int32)), .val (.ref r2), .val (.int (1 : Int32)), .val (.int (1 : Int32)), .val (.int (1 : Int32)), .val (.int (cf 0))] []))
  refine own_go (fun t_ kt_ => XS.iload X2g.here hx rfl (hb hby d6_44) rfl kt_) ?_
  show own_Go p e below s _ _ _ (T2.setTop (mkF m 46 #[.val (.ref r0), .val (.int (1 : Int32)), .val (.ref r2), .val (.int (1 : Int32)), .val (.int (1 : Int32)), .val (.int (1 : Int32)), .val (.int (cf 0))] [(.int (1 : Int32))]))
  refine own_ret X2g (v := some (.int (1 : Int32))) (fun h => by rw [hret] at h; cases h) hlk ?_ (by decide) (by decide) (fun fs hr => retI X2g hx hret (hb hby d6_46) hr)
  show Q61 Z r0 r2 cf h0 n0 (some (.int (1 : Int32))) T2.heap _
  rw [e2]
  exact ⟨rfl, N2g, K2, VB_2.congr (fun j hj => by
    rcases (by omega : j = 0) with rfl <;> rfl)⟩
theorem d5_0 : decode jdk_52_method_16_code 0 = .ok (.iload_n 2, 1) := by decide +kernel
theorem d5_1 : decode jdk_52_method_16_code 1 = .ok (.newarray .byte, 2) := by decide +kernel
theorem d5_3 : decode jdk_52_method_16_code 3 = .ok (.astore_n 3, 1) := by decide +kernel
theorem d5_4 : decode jdk_52_method_16_code 4 = .ok (.aload_n 0, 1) := by decide +kernel
theorem d5_5 : decode jdk_52_method_16_code 5 = .ok (.iload_n 1, 1) := by decide +kernel
theorem d5_6 : decode jdk_52_method_16_code 6 = .ok (.aload_n 3, 1) := by decide +kernel
theorem d5_7 : decode jdk_52_method_16_code 7 = .ok (.iconst 0, 1) := by decide +kernel
theorem d5_8 : decode jdk_52_method_16_code 8 = .ok (.iload_n 2, 1) := by decide +kernel
theorem d5_9 : decode jdk_52_method_16_code 9 = .ok (.invokestatic 115, 3) := by decide +kernel
theorem pd_0 : parseMethodDescriptor "([CI[BII)I" = some ⟨[(.array .char), .int, (.array .byte), .int, .int], some .int⟩ := by decide +kernel
theorem d5_12 : decode jdk_52_method_16_code 12 = .ok (.istore 4, 2) := by decide +kernel
theorem d5_14 : decode jdk_52_method_16_code 14 = .ok (.iload 4, 2) := by decide +kernel
theorem d5_16 : decode jdk_52_method_16_code 16 = .ok (.iload_n 2, 1) := by decide +kernel
theorem d5_17 : decode jdk_52_method_16_code 17 = .ok (.if_icmp .eq 40, 3) := by decide +kernel
theorem d5_57 : decode jdk_52_method_16_code 57 = .ok (.aload_n 3, 1) := by decide +kernel
theorem d5_58 : decode jdk_52_method_16_code 58 = .ok (.areturn, 1) := by decide +kernel
theorem ef_51 (m : MethodId) (r0 : Addr) : entryFrame m #[(.ref r0), (.int (0 : Int32)), (.int (1 : Int32))] 6 = mkF m 0 #[.val (.ref r0), .val (.int (0 : Int32)), .val (.int (1 : Int32)), .unset, .unset, .unset] [] := by first | (simp [entryFrame, mkF, argsToLocals, Value.category]; done) | rfl
def Q51 (Z : State) (r0 : Addr) (cf : Nat → Int32) (h0 : Heap) (n0 : Nat) (v : Option Value) (h : Heap) (L : List Loc) : Prop := ∃ b : Addr, v = some (.ref b) ∧ Fr n0 L ∧ Keep h0 h [] ∧ n0 ≤ b ∧ h0.size ≤ b ∧ own_Ary Z h b .byte 1 (fun j => .int (own_y (cf j)))
set_option maxRecDepth 65536 in
set_option maxHeartbeats 40000000 in
theorem rm51 (l : Launch) (Z : State) (a0 : Array Value) (hw : ∀ d ∈ tables_1, d.before a0 Z = true) (ws : List Jvm.Cond) (r0 : Addr) (cf : Nat → Int32) (h0 : Heap) (n0 : Nat) (Z0 : n0 ≤ h0.size) (VC0 : own_Ary Z h0 r0 .char 1 (fun j => .int (cf j))) (hcf : ∀ j, j < 1 → 0 ≤ (cf j).toInt ∧ (cf j).toInt ≤ 255) :
    MetFree l (⟨"java/lang/StringUTF16", "compress", "([CII)[B"⟩ : MethodName) (head1 (Jvm.Cond.code (⟨"java/lang/StringUTF16", "compress", "([CII)[B"⟩ : MethodName) jdk_52_method_16_code 6 (some (.array .byte)) :: ws) ({ frames := 1, cells := 1, slots := 1, locals := 18 } : Room)) (fun a U => a = #[(.ref r0), (.int (0 : Int32)), (.int (1 : Int32))] ∧ Z.Warmed39 U.vm ∧ U.heap = h0) (fun _ _ _ _ _ => True) (fun _ U o U' => ∃ v L, o = .returned v ∧ Q51 Z r0 cf h0 n0 v U'.heap L ∧ FrameEnd U o U' L (({ frames := 1, cells := 1, slots := 1, locals := 18 } : Room)).cells (({ frames := 1, cells := 1, slots := 1, locals := 18 } : Room)).slots) := by
  refine MetFree.of_bodySF (plainFor_of_name pn_0) hisR ?_
  intro p e s m args below meth c s₁ Bd hml0 hP hK
  obtain ⟨rfl, hZ, hh⟩ := hP
  have hx := Bd.exec
  have hby := Bd.bytes
  have hml : c.maxLocals = 6 := hml0
  have hown : s.vm.findClass "java/lang/StringUTF16" = some m.cls := findClass_of_methodNamed Bd.named
  have hnm := (name_of_methodNamed Bd.named Bd.method).1
  have hlk : meth.locks = false := Bd.notSynchronized
  have X0 : Stand p l e ({ frames := 1, cells := 1, slots := 1, locals := 18 } : Room) s m #[(.ref r0), (.int (0 : Int32)), (.int (1 : Int32))] below meth c s₁ [] 0 0 := Stand.of_body Bd
  have e0 : s₁.heap = h0 := by rw [← hh, Bd.state]; rfl
  have N0 := Fr.nil n0
  have hret := Bd.returns
  show own_Go p e below s (Q51 Z r0 cf h0 n0) _ _ (s₁.setTop (entryFrame m #[(.ref r0), (.int (0 : Int32)), (.int (1 : Int32))] 6))
  refine own_go (fun t k => castTop (ef_51 m r0) k) ?_
  show own_Go p e below s _ _ _ (s₁.setTop (mkF m 0 #[.val (.ref r0), .val (.int (0 : Int32)), .val (.int (1 : Int32)), .unset, .unset, .unset] []))
  refine own_go (fun t_ kt_ => XS.iloadN X0.here hx rfl (hb hby d5_0) rfl kt_) ?_
  show own_Go p e below s _ _ _ (s₁.setTop (mkF m 1 #[.val (.ref r0), .val (.int (0 : Int32)), .val (.int (1 : Int32)), .unset, .unset, .unset] [(.int (1 : Int32))]))
  obtain ⟨T1, h1, k1, X1, e1, E1, A1, st1⟩ := newP X0 hx hZ (hw _ (List.mem_of_getElem? (i := 26) rfl)) e0 (g := (mkF m 1 #[.val (.ref r0), .val (.int (0 : Int32)), .val (.int (1 : Int32)), .unset, .unset, .unset] [(.int (1 : Int32))])) rfl (hb hby d5_1) rfl (by decide) (cap := 1) (by decide) (by decide) (by decide) (by decide)
  obtain ⟨ba, g1⟩ : ∃ z, z = h0.size := ⟨_, rfl⟩
  rw [← g1] at A1 st1
  refine own_go (fun t_ kt_ => st1 _ kt_) ?_
  have gt_ba : n0 ≤ ba := Nat.le_trans Z0 (Nat.le_of_eq g1.symm)
  have ne_r0_ba : r0 ≠ ba := Nat.ne_of_lt (Nat.lt_of_lt_of_le VC0.lt (Nat.le_of_eq g1.symm))
  have sz_ba : h0.size ≤ ba := Nat.le_trans (Keep.refl h0 []).1 (Nat.le_of_eq g1.symm)
  have ZZ_1 : n0 ≤ h1.size := Nat.le_trans Z0 E1.1
  have VC_1 : own_Ary Z h1 r0 .char 1 (fun j => .int (cf j)) := VC0.ext E1
  have K1 : Keep h0 h1 [] := (Keep.refl h0 []).ext E1
  have V_ba : own_Ary Z h1 ba .byte 1 (fun _ => (.int (0 : Int32))) := own_Ary.new A1 (by decide)
  show own_Go p e below s _ _ _ (T1.setTop (mkF m 3 #[.val (.ref r0), .val (.int (0 : Int32)), .val (.int (1 : Int32)), .unset, .unset, .unset] [(.ref ba)]))
  refine own_go (fun t_ kt_ => XS.astoreN X1.here hx rfl (hb hby d5_3) rfl rfl (l' := #[.val (.ref r0), .val (.int (0 : Int32)), .val (.int (1 : Int32)), .val (.ref ba), .unset, .unset]) rfl kt_) ?_
  show own_Go p e below s _ _ _ (T1.setTop (mkF m 4 #[.val (.ref r0), .val (.int (0 : Int32)), .val (.int (1 : Int32)), .val (.ref ba), .unset, .unset] []))
  refine own_go (fun t_ kt_ => XS.aloadN X1.here hx rfl (hb hby d5_4) rfl rfl kt_) ?_
  show own_Go p e below s _ _ _ (T1.setTop (mkF m 5 #[.val (.ref r0), .val (.int (0 : Int32)), .val (.int (1 : Int32)), .val (.ref ba), .unset, .unset] [(.ref r0)]))
  refine own_go (fun t_ kt_ => XS.iloadN X1.here hx rfl (hb hby d5_5) rfl kt_) ?_
  show own_Go p e below s _ _ _ (T1.setTop (mkF m 6 #[.val (.ref r0), .val (.int (0 : Int32)), .val (.int (1 : Int32)), .val (.ref ba), .unset, .unset] [(.int (0 : Int32)), (.ref r0)]))
  refine own_go (fun t_ kt_ => XS.aloadN X1.here hx rfl (hb hby d5_6) rfl rfl kt_) ?_
  show own_Go p e below s _ _ _ (T1.setTop (mkF m 7 #[.val (.ref r0), .val (.int (0 : Int32)), .val (.int (1 : Int32)), .val (.ref ba), .unset, .unset] [(.ref ba), (.int (0 : Int32)), (.ref r0)]))
  refine own_go (fun t_ kt_ => XS.iconst X1.here hx rfl (hb hby d5_7) kt_) ?_
  show own_Go p e below s _ _ _ (T1.setTop (mkF m 8 #[.val (.ref r0), .val (.int (0 : Int32)), .val (.int (1 : Int32)), .val (.ref ba), .unset, .unset] [(.int (0 : Int32)), (.ref ba), (.int (0 : Int32)), (.ref r0)]))
  refine own_go (fun t_ kt_ => XS.iloadN X1.here hx rfl (hb hby d5_8) rfl kt_) ?_
  show own_Go p e below s _ _ _ (T1.setTop (mkF m 9 #[.val (.ref r0), .val (.int (0 : Int32)), .val (.int (1 : Int32)), .val (.ref ba), .unset, .unset] [(.int (1 : Int32)), (.int (0 : Int32)), (.ref ba), (.int (0 : Int32)), (.ref r0)]))
  obtain ⟨_, _, ⟨T2, L2, k2, n2⟩, -, X2, ⟨Lc2, hQ2, l2, y2, z2⟩, st2⟩ := Jvm.LawKit.callS X1 hx (y := (⟨"java/lang/StringUTF16", "compress", "([CI[BII)I"⟩ : MethodName)) hown (mvT hZ (hw _ (List.mem_of_getElem? (i := 27) rfl))) (mvT hZ (hw _ (List.mem_of_getElem? (i := 28) rfl))) (mvT hZ (hw _ (List.mem_of_getElem? (i := 24) rfl))) (mvT hZ (hw _ (List.mem_of_getElem? (i := 29) rfl))) (by decide) (backOf (W := 0) (rm61 l Z a0 hw [] (r0) (ba) (cf) h1 n0 ZZ_1 VC_1 V_ba hcf ne_r0_ba gt_ba) hZ (hw _ (List.mem_of_getElem? (i := 29) rfl)) (hw _ (List.mem_of_getElem? (i := 24) rfl)) (by decide) (by decide)) (g := (mkF m 9 #[.val (.ref r0), .val (.int (0 : Int32)), .val (.int (1 : Int32)), .val (.ref ba), .unset, .unset] [(.int (1 : Int32)), (.int (0 : Int32)), (.ref ba), (.int (0 : Int32)), (.ref r0)])) rfl (by rw [hml]; rfl) (argsL := [(.ref r0), (.int (0 : Int32)), (.ref ba), (.int (0 : Int32)), (.int (1 : Int32))]) (rest := []) (lenOf pd_0 rfl) rfl (by show 2 * 0 + _ ≤ _; exact Nat.le_of_eq rfl) (hb hby d5_9) (fun _ _ => ⟨rfl, e1, (by decide : 1 + 0 ≤ _), (by decide : 1 + 0 ≤ _)⟩)
  dsimp only [Pt.U, Pt.locs, Pt.cells, Pt.slots] at X2 l2 y2 z2 st2 hQ2
  subst l2 y2 z2
  obtain ⟨rfl, Nq2, Kq2, Vq2⟩ := hQ2
  have N2 := Fr.app N0 Nq2
  refine own_go (fun t_ kt_ => st2 _ kt_) ?_
  obtain ⟨lo2, X2g, N2g⟩ : ∃ lo, Stand p l e ({ frames := 1, cells := 1, slots := 1, locals := 18 } : Room) s m #[(.ref r0), (.int (0 : Int32)), (.int (1 : Int32))] below meth c T2 lo 1 1 ∧ Fr n0 lo := ⟨_, X2, N2⟩
  obtain ⟨h2, e2⟩ : ∃ z, T2.heap = z := ⟨_, rfl⟩
  rw [e2] at Kq2 Vq2
  have ZZ_2 : n0 ≤ h2.size := Nat.le_trans ZZ_1 Kq2.1
  have VC_2 : own_Ary Z h2 r0 .char 1 (fun j => .int (cf j)) := VC_1.keep Kq2 (ninS ne_r0_ba nin0)
  have K2 : Keep h0 h2 [] := K1.trans Kq2 (allS (Or.inr sz_ba) all0)
  show own_Go p e below s _ _ _ (T2.setTop (mkF m 12 #[.val (.ref r0), .val (.int (0 : Int32)), .val (.int (1 : Int32)), .val (.ref ba), .unset, .unset] [(.int (1 : Int32))]))
  refine own_go (fun t_ kt_ => XS.istore X2g.here hx rfl (hb hby d5_12) rfl (l' := #[.val (.ref r0), .val (.int (0 : Int32)), .val (.int (1 : Int32)), .val (.ref ba), .val (.int (1 : Int32)), .unset]) rfl kt_) ?_
  show own_Go p e below s _ _ _ (T2.setTop (mkF m 14 #[.val (.ref r0), .val (.int (0 : Int32)), .val (.int (1 : Int32)), .val (.ref ba), .val (.int (1 : Int32)), .unset] []))
  refine own_go (fun t_ kt_ => XS.iload X2g.here hx rfl (hb hby d5_14) rfl kt_) ?_
  show own_Go p e below s _ _ _ (T2.setTop (mkF m 16 #[.val (.ref r0), .val (.int (0 : Int32)), .val (.int (1 : Int32)), .val (.ref ba), .val (.int (1 : Int32)), .unset] [(.int (1 : Int32))]))
  refine own_go (fun t_ kt_ => XS.iloadN X2g.here hx rfl (hb hby d5_16) rfl kt_) ?_
  show own_Go p e below s _ _ _ (T2.setTop (mkF m 17 #[.val (.ref r0), .val (.int (0 : Int32)), .val (.int (1 : Int32)), .val (.ref ba), .val (.int (1 : Int32)), .unset] [(.int (1 : Int32)), (.int (1 : Int32))]))
  refine own_go (fun t_ kt_ => XS.icmpYes X2g.here hx rfl (pc0 := 17) (pc' := 57) rfl (hb hby d5_17) rfl (teq (by decide)).1 (by decide) (by decide) kt_) ?_
  show own_Go p e below s _ _ _ (T2.setTop (mkF m 57 #[.val (.ref r0), .val (.int (0 : Int32)), .val (.int (1 : Int32)), .val (.ref ba), .val (.int (1 : Int32)), .unset] []))
  refine own_go (fun t_ kt_ => XS.aloadN X2g.here hx rfl (hb hby d5_57) rfl rfl kt_) ?_
  show own_Go p e below s _ _ _ (T2.setTop (mkF m 58 #[.val (.ref r0), .val (.int (0 : Int32)), .val (.int (1 : Int32)), .val (.ref ba), .val (.int (1 : Int32)), .unset] [(.ref ba)]))
  refine own_ret X2g (v := some (.ref ba)) (fun h => by rw [hret] at h; cases h) hlk ?_ (by decide) (by decide) (fun fs hr => X2g.areturnOut hx rfl hret rfl (hb hby d5_58) hr)
  show Q51 Z r0 cf h0 n0 (some (.ref ba)) T2.heap _
  rw [e2]
  exact ⟨ba, rfl, N2g, K2, gt_ba, sz_ba, Vq2⟩
theorem d7_0 : decode jdk_52_method_15_code 0 = .ok (.iload_n 1, 1) := by decide +kernel
theorem d7_1 : decode jdk_52_method_15_code 1 = .ok (.aload_n 0, 1) := by decide +kernel
theorem d7_2 : decode jdk_52_method_15_code 2 = .ok (.arraylength, 1) := by decide +kernel
theorem d7_3 : decode jdk_52_method_15_code 3 = .ok (.isub, 1) := by decide +kernel
theorem d7_4 : decode jdk_52_method_15_code 4 = .ok (.bipush 31, 2) := by decide +kernel
theorem d7_6 : decode jdk_52_method_15_code 6 = .ok (.iushr, 1) := by decide +kernel
theorem d7_7 : decode jdk_52_method_15_code 7 = .ok (.i2b, 1) := by decide +kernel
theorem d7_8 : decode jdk_52_method_15_code 8 = .ok (.ireturn, 1) := by decide +kernel
theorem ef_71 (m : MethodId) (r0 : Addr) : entryFrame m #[(.ref r0), (.int (1 : Int32))] 2 = mkF m 0 #[.val (.ref r0), .val (.int (1 : Int32))] [] := by first | (simp [entryFrame, mkF, argsToLocals, Value.category]; done) | rfl
def Q71 (Z : State) (r0 : Addr) (bf : Nat → Value) (h0 : Heap) (n0 : Nat) (v : Option Value) (h : Heap) (L : List Loc) : Prop := v = some (.int (0 : Int32)) ∧ Fr n0 L ∧ h = h0
set_option maxRecDepth 65536 in
set_option maxHeartbeats 40000000 in
theorem rm71 (l : Launch) (Z : State) (a0 : Array Value) (hw : ∀ d ∈ tables_1, d.before a0 Z = true) (ws : List Jvm.Cond) (r0 : Addr) (bf : Nat → Value) (h0 : Heap) (n0 : Nat) (Z0 : n0 ≤ h0.size) (VB0 : own_Ary Z h0 r0 .byte 1 bf) :
    MetFree l (⟨"java/lang/StringUTF16", "coderFromArrayLen", "([BI)B"⟩ : MethodName) (head1 (Jvm.Cond.code (⟨"java/lang/StringUTF16", "coderFromArrayLen", "([BI)B"⟩ : MethodName) jdk_52_method_15_code 2 (some .byte) :: ws) ({ frames := 0, cells := 0, slots := 0, locals := 0 } : Room)) (fun a U => a = #[(.ref r0), (.int (1 : Int32))] ∧ Z.Warmed39 U.vm ∧ U.heap = h0) (fun _ _ _ _ _ => True) (fun _ U o U' => ∃ v L, o = .returned v ∧ Q71 Z r0 bf h0 n0 v U'.heap L ∧ FrameEnd U o U' L (({ frames := 0, cells := 0, slots := 0, locals := 0 } : Room)).cells (({ frames := 0, cells := 0, slots := 0, locals := 0 } : Room)).slots) := by
  refine MetFree.of_bodySF (plainFor_of_name pn_0) hisR ?_
  intro p e s m args below meth c s₁ Bd hml0 hP hK
  obtain ⟨rfl, hZ, hh⟩ := hP
  have hx := Bd.exec
  have hby := Bd.bytes
  have hml : c.maxLocals = 2 := hml0
  have hown : s.vm.findClass "java/lang/StringUTF16" = some m.cls := findClass_of_methodNamed Bd.named
  have hnm := (name_of_methodNamed Bd.named Bd.method).1
  have hlk : meth.locks = false := Bd.notSynchronized
  have X0 : Stand p l e ({ frames := 0, cells := 0, slots := 0, locals := 0 } : Room) s m #[(.ref r0), (.int (1 : Int32))] below meth c s₁ [] 0 0 := Stand.of_body Bd
  have e0 : s₁.heap = h0 := by rw [← hh, Bd.state]; rfl
  have N0 := Fr.nil n0
  have hret := Bd.returns
  show own_Go p e below s (Q71 Z r0 bf h0 n0) _ _ (s₁.setTop (entryFrame m #[(.ref r0), (.int (1 : Int32))] 2))
  refine own_go (fun t k => castTop (ef_71 m r0) k) ?_
  show own_Go p e below s _ _ _ (s₁.setTop (mkF m 0 #[.val (.ref r0), .val (.int (1 : Int32))] []))
  refine own_go (fun t_ kt_ => XS.iloadN X0.here hx rfl (hb hby d7_0) rfl kt_) ?_
  show own_Go p e below s _ _ _ (s₁.setTop (mkF m 1 #[.val (.ref r0), .val (.int (1 : Int32))] [(.int (1 : Int32))]))
  refine own_go (fun t_ kt_ => XS.aloadN X0.here hx rfl (hb hby d7_1) rfl rfl kt_) ?_
  show own_Go p e below s _ _ _ (s₁.setTop (mkF m 2 #[.val (.ref r0), .val (.int (1 : Int32))] [(.ref r0), (.int (1 : Int32))]))
  obtain ⟨ce1, Ar1, S1, G1⟩ := id VB0
  have q1 : ce1.slots.size.toInt32 = (1 : Int32) := (congrArg Nat.toInt32 S1).trans (by decide)
  refine own_go (fun t_ kt_ => X0.arraylength hx (by rw [e0]; exact Ar1.1) (State.isArrayOf_alike hZ.alike Ar1.2.1) (g := (mkF m 2 #[.val (.ref r0), .val (.int (1 : Int32))] [(.ref r0), (.int (1 : Int32))])) rfl rfl (hb hby d7_2) _ (by rw [q1]; exact kt_)) ?_
  show own_Go p e below s _ _ _ (s₁.setTop (mkF m 3 #[.val (.ref r0), .val (.int (1 : Int32))] [(.int (1 : Int32)), (.int (1 : Int32))]))
  refine own_go (fun t_ kt_ => XS.isub X0.here hx rfl (hb hby d7_3) rfl kt_) ?_
  show own_Go p e below s _ _ _ (s₁.setTop (mkF m 4 #[.val (.ref r0), .val (.int (1 : Int32))] [(.int (0 : Int32))]))
  refine own_go (fun t_ kt_ => XS.bipush X0.here hx rfl (hb hby d7_4) kt_) ?_
  show own_Go p e below s _ _ _ (s₁.setTop (mkF m 6 #[.val (.ref r0), .val (.int (1 : Int32))] [(.int (31 : Int32)), (.int (0 : Int32))]))
  refine own_go (fun t_ kt_ => XS.iushr X0.here hx rfl (hb hby d7_6) rfl kt_) ?_
  show own_Go p e below s _ _ _ (s₁.setTop (mkF m 7 #[.val (.ref r0), .val (.int (1 : Int32))] [(.int (((0 : Int32).toUInt32 >>> ((31 : Int32) &&& 31).toUInt32).toInt32))]))
  refine own_go (fun t_ kt_ => XS.i2b X0.here hx rfl (hb hby d7_7) rfl kt_) ?_
  show own_Go p e below s _ _ _ (s₁.setTop (mkF m 8 #[.val (.ref r0), .val (.int (1 : Int32))] [(.int ((((0 : Int32).toUInt32 >>> ((31 : Int32) &&& 31).toUInt32).toInt32).toInt8.toInt32))]))
  refine own_ret X0 (v := some (.int (nar .byte ((((0 : Int32).toUInt32 >>> ((31 : Int32) &&& 31).toUInt32).toInt32).toInt8.toInt32)))) (fun h => by rw [hret] at h; cases h) hlk ?_ (by decide) (by decide) (fun fs hr => retN X0 hx (t := .byte) hret (by simp) (hb hby d7_8) hr)
  show Q71 Z r0 bf h0 n0 (some (.int (nar .byte ((((0 : Int32).toUInt32 >>> ((31 : Int32) &&& 31).toUInt32).toInt32).toInt8.toInt32)))) s₁.heap _
  rw [e0]
  exact ⟨congrArg (fun z => some (Value.int z)) (by decide), N0, rfl⟩
theorem ef_62 (m : MethodId) (r0 : Addr) (r2 : Addr) : entryFrame m #[(.ref r0), (.int (0 : Int32)), (.ref r2), (.int (0 : Int32)), (.int (2 : Int32))] 7 = mkF m 0 #[.val (.ref r0), .val (.int (0 : Int32)), .val (.ref r2), .val (.int (0 : Int32)), .val (.int (2 : Int32)), .unset, .unset] [] := by first | (simp [entryFrame, mkF, argsToLocals, Value.category]; done) | rfl
def Q62 (Z : State) (r0 : Addr) (r2 : Addr) (cf : Nat → Int32) (h0 : Heap) (n0 : Nat) (v : Option Value) (h : Heap) (L : List Loc) : Prop := v = some (.int (2 : Int32)) ∧ Fr n0 L ∧ Keep h0 h [r2] ∧ own_Ary Z h r2 .byte 2 (fun j => .int (own_y (cf j)))
set_option maxRecDepth 65536 in
set_option maxHeartbeats 40000000 in
theorem rm62 (l : Launch) (Z : State) (a0 : Array Value) (hw : ∀ d ∈ tables_1, d.before a0 Z = true) (ws : List Jvm.Cond) (r0 : Addr) (r2 : Addr) (cf : Nat → Int32) (h0 : Heap) (n0 : Nat) (Z0 : n0 ≤ h0.size) (VC0 : own_Ary Z h0 r0 .char 2 (fun j => .int (cf j))) (VB0 : own_Ary Z h0 r2 .byte 2 (fun _ => .int (0 : Int32))) (hcf : ∀ j, j < 2 → 0 ≤ (cf j).toInt ∧ (cf j).toInt ≤ 255) (ne0 : r0 ≠ r2) (g0 : n0 ≤ r2) :
    MetFree l (⟨"java/lang/StringUTF16", "compress", "([CI[BII)I"⟩ : MethodName) (head1 (Jvm.Cond.code (⟨"java/lang/StringUTF16", "compress", "([CI[BII)I"⟩ : MethodName) jdk_52_method_21_code 7 (some .int) :: ws) ({ frames := 0, cells := 0, slots := 0, locals := 0 } : Room)) (fun a U => a = #[(.ref r0), (.int (0 : Int32)), (.ref r2), (.int (0 : Int32)), (.int (2 : Int32))] ∧ Z.Warmed39 U.vm ∧ U.heap = h0) (fun _ _ _ _ _ => True) (fun _ U o U' => ∃ v L, o = .returned v ∧ Q62 Z r0 r2 cf h0 n0 v U'.heap L ∧ FrameEnd U o U' L (({ frames := 0, cells := 0, slots := 0, locals := 0 } : Room)).cells (({ frames := 0, cells := 0, slots := 0, locals := 0 } : Room)).slots) := by
  refine MetFree.of_bodySF (plainFor_of_name pn_0) hisR ?_
  intro p e s m args below meth c s₁ Bd hml0 hP hK
  obtain ⟨rfl, hZ, hh⟩ := hP
  have hx := Bd.exec
  have hby := Bd.bytes
  have hml : c.maxLocals = 7 := hml0
  have hown : s.vm.findClass "java/lang/StringUTF16" = some m.cls := findClass_of_methodNamed Bd.named
  have hnm := (name_of_methodNamed Bd.named Bd.method).1
  have hlk : meth.locks = false := Bd.notSynchronized
  have X0 : Stand p l e ({ frames := 0, cells := 0, slots := 0, locals := 0 } : Room) s m #[(.ref r0), (.int (0 : Int32)), (.ref r2), (.int (0 : Int32)), (.int (2 : Int32))] below meth c s₁ [] 0 0 := Stand.of_body Bd
  have e0 : s₁.heap = h0 := by rw [← hh, Bd.state]; rfl
  have N0 := Fr.nil n0
  have hret := Bd.returns
  show own_Go p e below s (Q62 Z r0 r2 cf h0 n0) _ _ (s₁.setTop (entryFrame m #[(.ref r0), (.int (0 : Int32)), (.ref r2), (.int (0 : Int32)), (.int (2 : Int32))] 7))
  refine own_go (fun t k => castTop (ef_62 m r0 r2) k) ?_
  show own_Go p e below s _ _ _ (s₁.setTop (mkF m 0 #[.val (.ref r0), .val (.int (0 : Int32)), .val (.ref r2), .val (.int (0 : Int32)), .val (.int (2 : Int32)), .unset, .unset] []))
  refine own_go (fun t_ kt_ => XS.iconst X0.here hx rfl (hb hby d6_0) kt_) ?_
  show own_Go p e below s _ _ _ (s₁.setTop (mkF m 1 #[.val (.ref r0), .val (.int (0 : Int32)), .val (.ref r2), .val (.int (0 : Int32)), .val (.int (2 : Int32)), .unset, .unset] [(.int (0 : Int32))]))
  refine own_go (fun t_ kt_ => XS.istore X0.here hx rfl (hb hby d6_1) rfl (l' := #[.val (.ref r0), .val (.int (0 : Int32)), .val (.ref r2), .val (.int (0 : Int32)), .val (.int (2 : Int32)), .val (.int (0 : Int32)), .unset]) rfl kt_) ?_
  show own_Go p e below s _ _ _ (s₁.setTop (mkF m 3 #[.val (.ref r0), .val (.int (0 : Int32)), .val (.ref r2), .val (.int (0 : Int32)), .val (.int (2 : Int32)), .val (.int (0 : Int32)), .unset] []))
  refine own_go (fun t_ kt_ => XS.iload X0.here hx rfl (hb hby d6_3) rfl kt_) ?_
  show own_Go p e below s _ _ _ (s₁.setTop (mkF m 5 #[.val (.ref r0), .val (.int (0 : Int32)), .val (.ref r2), .val (.int (0 : Int32)), .val (.int (2 : Int32)), .val (.int (0 : Int32)), .unset] [(.int (0 : Int32))]))
  refine own_go (fun t_ kt_ => XS.iload X0.here hx rfl (hb hby d6_5) rfl kt_) ?_
  show own_Go p e below s _ _ _ (s₁.setTop (mkF m 7 #[.val (.ref r0), .val (.int (0 : Int32)), .val (.ref r2), .val (.int (0 : Int32)), .val (.int (2 : Int32)), .val (.int (0 : Int32)), .unset] [(.int (2 : Int32)), (.int (0 : Int32))]))
  refine own_go (fun t_ kt_ => XS.icmpNo X0.here hx rfl (hb hby d6_7) rfl (tlt (by decide)).2.1 kt_) ?_
  show own_Go p e below s _ _ _ (s₁.setTop (mkF m 10 #[.val (.ref r0), .val (.int (0 : Int32)), .val (.ref r2), .val (.int (0 : Int32)), .val (.int (2 : Int32)), .val (.int (0 : Int32)), .unset] []))
  refine own_go (fun t_ kt_ => XS.aloadN X0.here hx rfl (hb hby d6_10) rfl rfl kt_) ?_
  show own_Go p e below s _ _ _ (s₁.setTop (mkF m 11 #[.val (.ref r0), .val (.int (0 : Int32)), .val (.ref r2), .val (.int (0 : Int32)), .val (.int (2 : Int32)), .val (.int (0 : Int32)), .unset] [(.ref r0)]))
  refine own_go (fun t_ kt_ => XS.iloadN X0.here hx rfl (hb hby d6_11) rfl kt_) ?_
  show own_Go p e below s _ _ _ (s₁.setTop (mkF m 12 #[.val (.ref r0), .val (.int (0 : Int32)), .val (.ref r2), .val (.int (0 : Int32)), .val (.int (2 : Int32)), .val (.int (0 : Int32)), .unset] [(.int (0 : Int32)), (.ref r0)]))
  obtain ⟨ce1, Ar1, S1, G1⟩ := id VC0
  have q1 : ce1.slots[((0 : Int32)).toNatClampNeg]? = some (.int (cf 0)) := by rw [own_cl (j := (0 : Int32)) (i := 0) (by decide)]; exact (G1 _ (by decide)).trans (congrArg some (rfl))
  refine own_go (fun t_ kt_ => X0.caload hx (j := (0 : Int32)) (v := (.int (cf 0))) (by rw [e0]; exact Ar1.1) (State.isArrayOf_alike hZ.alike Ar1.2.1) Ar1.2.2 (own_in (i := 0) S1 (by decide) (by decide)) q1 (g := (mkF m 12 #[.val (.ref r0), .val (.int (0 : Int32)), .val (.ref r2), .val (.int (0 : Int32)), .val (.int (2 : Int32)), .val (.int (0 : Int32)), .unset] [(.int (0 : Int32)), (.ref r0)])) rfl rfl (hb hby d6_12) _ kt_) ?_
  show own_Go p e below s _ _ _ (s₁.setTop (mkF m 13 #[.val (.ref r0), .val (.int (0 : Int32)), .val (.ref r2), .val (.int (0 : Int32)), .val (.int (2 : Int32)), .val (.int (0 : Int32)), .unset] [(.int (cf 0))]))
  refine own_go (fun t_ kt_ => XS.istore X0.here hx rfl (hb hby d6_13) rfl (l' := #[.val (.ref r0), .val (.int (0 : Int32)), .val (.ref r2), .val (.int (0 : Int32)), .val (.int (2 : Int32)), .val (.int (0 : Int32)), .val (.int (cf 0))]) rfl kt_) ?_
  show own_Go p e below s _ _ _ (s₁.setTop (mkF m 15 #[.val (.ref r0), .val (.int (0 : Int32)), .val (.ref r2), .val (.int (0 : Int32)), .val (.int (2 : Int32)), .val (.int (0 : Int32)), .val (.int (cf 0))] []))
  refine own_go (fun t_ kt_ => XS.iload X0.here hx rfl (hb hby d6_15) rfl kt_) ?_
  show own_Go p e below s _ _ _ (s₁.setTop (mkF m 17 #[.val (.ref r0), .val (.int (0 : Int32)), .val (.ref r2), .val (.int (0 : Int32)), .val (.int (2 : Int32)), .val (.int (0 : Int32)), .val (.int (cf 0))] [(.int (cf 0))]))
  refine own_go (fun t_ kt_ => XS.sipush X0.here hx rfl (hb hby d6_17) kt_) ?_
  show own_Go p e below s _ _ _ (s₁.setTop (mkF m 20 #[.val (.ref r0), .val (.int (0 : Int32)), .val (.ref r2), .val (.int (0 : Int32)), .val (.int (2 : Int32)), .val (.int (0 : Int32)), .val (.int (cf 0))] [(.int (255 : Int32)), (.int (cf 0))]))
  refine own_go (fun t_ kt_ => XS.icmpYes X0.here hx rfl (pc0 := 20) (pc' := 26) rfl (hb hby d6_20) rfl (flt (own_n255 (hcf 0 (by decide)))).2.2.2 (by decide) (by decide) kt_) ?_
  show own_Go p e below s _ _ _ (s₁.setTop (mkF m 26 #[.val (.ref r0), .val (.int (0 : Int32)), .val (.ref r2), .val (.int (0 : Int32)), .val (.int (2 : Int32)), .val (.int (0 : Int32)), .val (.int (cf 0))] []))
  refine own_go (fun t_ kt_ => XS.aloadN X0.here hx rfl (hb hby d6_26) rfl rfl kt_) ?_
  show own_Go p e below s _ _ _ (s₁.setTop (mkF m 27 #[.val (.ref r0), .val (.int (0 : Int32)), .val (.ref r2), .val (.int (0 : Int32)), .val (.int (2 : Int32)), .val (.int (0 : Int32)), .val (.int (cf 0))] [(.ref r2)]))
  refine own_go (fun t_ kt_ => XS.iloadN X0.here hx rfl (hb hby d6_27) rfl kt_) ?_
  show own_Go p e below s _ _ _ (s₁.setTop (mkF m 28 #[.val (.ref r0), .val (.int (0 : Int32)), .val (.ref r2), .val (.int (0 : Int32)), .val (.int (2 : Int32)), .val (.int (0 : Int32)), .val (.int (cf 0))] [(.int (0 : Int32)), (.ref r2)]))
  refine own_go (fun t_ kt_ => XS.iload X0.here hx rfl (hb hby d6_28) rfl kt_) ?_
  show own_Go p e below s _ _ _ (s₁.setTop (mkF m 30 #[.val (.ref r0), .val (.int (0 : Int32)), .val (.ref r2), .val (.int (0 : Int32)), .val (.int (2 : Int32)), .val (.int (0 : Int32)), .val (.int (cf 0))] [(.int (cf 0)), (.int (0 : Int32)), (.ref r2)]))
  refine own_go (fun t_ kt_ => XS.i2b X0.here hx rfl (hb hby d6_30) rfl kt_) ?_
  show own_Go p e below s _ _ _ (s₁.setTop (mkF m 31 #[.val (.ref r0), .val (.int (0 : Int32)), .val (.ref r2), .val (.int (0 : Int32)), .val (.int (2 : Int32)), .val (.int (0 : Int32)), .val (.int (cf 0))] [(.int ((cf 0).toInt8.toInt32)), (.int (0 : Int32)), (.ref r2)]))
  obtain ⟨ce2, Ar2, S2, G2⟩ := id VB0
  obtain ⟨T2, h2, X2, e2, W2, st2⟩ := stB X0 hx hZ e0 Ar2 (j := (0 : Int32)) (own_in (i := 0) S2 (by decide) (by decide)) (g := (mkF m 31 #[.val (.ref r0), .val (.int (0 : Int32)), .val (.ref r2), .val (.int (0 : Int32)), .val (.int (2 : Int32)), .val (.int (0 : Int32)), .val (.int (cf 0))] [(.int ((cf 0).toInt8.toInt32)), (.int (0 : Int32)), (.ref r2)])) rfl rfl (hb hby d6_31)
  rw [own_cl (j := (0 : Int32)) (i := 0) (by decide)] at W2 X2
  refine own_go (fun t_ kt_ => st2 _ kt_) ?_
  have N2 := Fr.snoc X2 N0 g0
  obtain ⟨lo2, X2g, N2g⟩ : ∃ lo, Stand p l e ({ frames := 0, cells := 0, slots := 0, locals := 0 } : Room) s m #[(.ref r0), (.int (0 : Int32)), (.ref r2), (.int (0 : Int32)), (.int (2 : Int32))] below meth c T2 lo 0 0 ∧ Fr n0 lo := ⟨_, X2, N2⟩
  rw [(own_nary _ : nar .byte ((cf 0).toInt8.toInt32) = (own_y (cf 0)))] at W2
  have ZZ_2 : n0 ≤ h2.size := Nat.le_trans Z0 (Nat.le_of_eq W2.size.symm)
  have VC_2 : own_Ary Z h2 r0 .char 2 (fun j => .int (cf j)) := VC0.other W2 ne0
  have VB_2 : own_Ary Z h2 r2 .byte 2 (own_set (fun _ => .int (0 : Int32)) 0 (.int (own_y (cf 0)))) := own_Ary.set Ar2 S2 G2 W2
  have K2 : Keep h0 h2 [r2] := (Keep.refl h0 [r2]).wr W2 (Or.inl (by simp))
  show own_Go p e below s _ _ _ (T2.setTop (mkF m 32 #[.val (.ref r0), .val (.int (0 : Int32)), .val (.ref r2), .val (.int (0 : Int32)), .val (.int (2 : Int32)), .val (.int (0 : Int32)), .val (.int (cf 0))] []))
  refine own_go (fun t_ kt_ => XS.iinc X2g.here hx rfl (hb hby d6_32) rfl (l' := #[.val (.ref r0), .val (.int (1 : Int32)), .val (.ref r2), .val (.int (0 : Int32)), .val (.int (2 : Int32)), .val (.int (0 : Int32)), .val (.int (cf 0))]) rfl kt_) ?_
  show own_Go p e below s _ _ _ (T2.setTop (mkF m 35 #[.val (.ref r0), .val (.int (1 : Int32)), .val (.ref r2), .val (.int (0 : Int32)), .val (.int (2 : Int32)), .val (.int (0 : Int32)), .val (.int (cf 0))] []))
  refine own_go (fun t_ kt_ => XS.iinc X2g.here hx rfl (hb hby d6_35) rfl (l' := #[.val (.ref r0), .val (.int (1 : Int32)), .val (.ref r2), .val (.int (1 : Int32)), .val (.int (2 : Int32)), .val (.int (0 : Int32)), .val (.int (cf 0))]) rfl kt_) ?_
  show own_Go p e below s _ _ _ (T2.setTop (mkF m 38 #[.val (.ref r0), .val (.int (1 : Int32)), .val (.ref r2), .val (.int (1 : Int32)), .val (.int (2 : Int32)), .val (.int (0 : Int32)), .val (.int (cf 0))] []))
  refine own_go (fun t_ kt_ => XS.iinc X2g.here hx rfl (hb hby d6_38) rfl (l' := #[.val (.ref r0), .val (.int (1 : Int32)), .val (.ref r2), .val (.int (1 : Int32)), .val (.int (2 : Int32)), .val (.int (1 : Int32)), .val (.int (cf 0))]) rfl kt_) ?_
  show own_Go p e below s _ _ _ (T2.setTop (mkF m 41 #[.val (.ref r0), .val (.int (1 : Int32)), .val (.ref r2), .val (.int (1 : Int32)), .val (.int (2 : Int32)), .val (.int (1 : Int32)), .val (.int (cf 0))] []))
  refine own_go (fun t_ kt_ => XS.goto X2g.here hx rfl (pc0 := 41) (pc' := 3) rfl (hb hby d6_41) (by decide) (by decide) kt_) ?_
  show own_Go p e below s _ _ _ (T2.setTop (mkF m 3 #[.val (.ref r0), .val (.int (1 : Int32)), .val (.ref r2), .val (.int (1 : Int32)), .val (.int (2 : Int32)), .val (.int (1 : Int32)), .val (.int (cf 0))] []))
  refine own_go (fun t_ kt_ => XS.iload X2g.here hx rfl (hb hby d6_3) rfl kt_) ?_
  show own_Go p e below s _ _ _ (T2.setTop (mkF m 5 #[.val (.ref r0), .val (.int (1 : Int32)), .val (.ref r2), .val (.int (1 : Int32)), .val (.int (2 : Int32)), .val (.int (1 : Int32)), .val (.int (cf 0))] [(.int (1 : Int32))]))
  refine own_go (fun t_ kt_ => XS.iload X2g.here hx rfl (hb hby d6_5) rfl kt_) ?_
  show own_Go p e below s _ _ _ (T2.setTop (mkF m 7 #[.val (.ref r0), .val (.int (1 : Int32)), .val (.ref r2), .val (.int (1 : Int32)), .val (.int (2 : Int32)), .val (.int (1 : Int32)), .val (.int (cf 0))] [(.int (2 : Int32)), (.int (1 : Int32))]))
  refine own_go (fun t_ kt_ => XS.icmpNo X2g.here hx rfl (hb hby d6_7) rfl (tlt (by decide)).2.1 kt_) ?_
  show own_Go p e below s _ _ _ (T2.setTop (mkF m 10 #[.val (.ref r0), .val (.int (1 : Int32)), .val (.ref r2), .val (.int (1 : Int32)), .val (.int (2 : Int32)), .val (.int (1 : Int32)), .val (.int (cf 0))] []))
  refine own_go (fun t_ kt_ => XS.aloadN X2g.here hx rfl (hb hby d6_10) rfl rfl kt_) ?_
  show own_Go p e below s _ _ _ (T2.setTop (mkF m 11 #[.val (.ref r0), .val (.int (1 : Int32)), .val (.ref r2), .val (.int (1 : Int32)), .val (.int (2 : Int32)), .val (.int (1 : Int32)), .val (.int (cf 0))] [(.ref r0)]))
  refine own_go (fun t_ kt_ => XS.iloadN X2g.here hx rfl (hb hby d6_11) rfl kt_) ?_
  show own_Go p e below s _ _ _ (T2.setTop (mkF m 12 #[.val (.ref r0), .val (.int (1 : Int32)), .val (.ref r2), .val (.int (1 : Int32)), .val (.int (2 : Int32)), .val (.int (1 : Int32)), .val (.int (cf 0))] [(.int (1 : Int32)), (.ref r0)]))
  obtain ⟨ce3, Ar3, S3, G3⟩ := id VC_2
  have q3 : ce3.slots[((1 : Int32)).toNatClampNeg]? = some (.int (cf 1)) := by rw [own_cl (j := (1 : Int32)) (i := 1) (by decide)]; exact (G3 _ (by decide)).trans (congrArg some (rfl))
  refine own_go (fun t_ kt_ => X2g.caload hx (j := (1 : Int32)) (v := (.int (cf 1))) (by rw [e2]; exact Ar3.1) (State.isArrayOf_alike hZ.alike Ar3.2.1) Ar3.2.2 (own_in (i := 1) S3 (by decide) (by decide)) q3 (g := (mkF m 12 #[.val (.ref r0), .val (.int (1 : Int32)), .val (.ref r2), .val (.int (1 : Int32)), .val (.int (2 : Int32)), .val (.int (1 : Int32)), .val (.int (cf 0))] [(.int (1 : Int32)), (.ref r0)])) rfl rfl (hb hby d6_12) _ kt_) ?_
  show own_Go p e below s _ _ _ (T2.setTop (mkF m 13 #[.val (.ref r0), .val (.int (1 : Int32)), .val (.ref r2), .val (.int (1 : Int32)), .val (.int (2 : Int32)), .val (.int (1 : Int32)), .val (.int (cf 0))] [(.int (cf 1))]))
  refine own_go (fun t_ kt_ => XS.istore X2g.here hx rfl (hb hby d6_13) rfl (l' := #[.val (.ref r0), .val (.int (1 : Int32)), .val (.ref r2), .val (.int (1 : Int32)), .val (.int (2 : Int32)), .val (.int (1 : Int32)), .val (.int (cf 1))]) rfl kt_) ?_
  show own_Go p e below s _ _ _ (T2.setTop (mkF m 15 #[.val (.ref r0), .val (.int (1 : Int32)), .val (.ref r2), .val (.int (1 : Int32)), .val (.int (2 : Int32)), .val (.int (1 : Int32)), .val (.int (cf 1))] []))
  refine own_go (fun t_ kt_ => XS.iload X2g.here hx rfl (hb hby d6_15) rfl kt_) ?_
  show own_Go p e below s _ _ _ (T2.setTop (mkF m 17 #[.val (.ref r0), .val (.int (1 : Int32)), .val (.ref r2), .val (.int (1 : Int32)), .val (.int (2 : Int32)), .val (.int (1 : Int32)), .val (.int (cf 1))] [(.int (cf 1))]))
  refine own_go (fun t_ kt_ => XS.sipush X2g.here hx rfl (hb hby d6_17) kt_) ?_
  show own_Go p e below s _ _ _ (T2.setTop (mkF m 20 #[.val (.ref r0), .val (.int (1 : Int32)), .val (.ref r2), .val (.int (1 : Int32)), .val (.int (2 : Int32)), .val (.int (1 : Int32)), .val (.int (cf 1))] [(.int (255 : Int32)), (.int (cf 1))]))
  refine own_go (fun t_ kt_ => XS.icmpYes X2g.here hx rfl (pc0 := 20) (pc' := 26) rfl (hb hby d6_20) rfl (flt (own_n255 (hcf 1 (by decide)))).2.2.2 (by decide) (by decide) kt_) ?_
  show own_Go p e below s _ _ _ (T2.setTop (mkF m 26 #[.val (.ref r0), .val (.int (1 : Int32)), .val (.ref r2), .val (.int (1 : Int32)), .val (.int (2 : Int32)), .val (.int (1 : Int32)), .val (.int (cf 1))] []))
  refine own_go (fun t_ kt_ => XS.aloadN X2g.here hx rfl (hb hby d6_26) rfl rfl kt_) ?_
  show own_Go p e below s _ _ _ (T2.setTop (mkF m 27 #[.val (.ref r0), .val (.int (1 : Int32)), .val (.ref r2), .val (.int (1 : Int32)), .val (.int (2 : Int32)), .val (.int (1 : Int32)), .val (.int (cf 1))] [(.ref r2)]))
  refine own_go (fun t_ kt_ => XS.iloadN X2g.here hx rfl (hb hby d6_27) rfl kt_) ?_
  show own_Go p e below s _ _ _ (T2.setTop (mkF m 28 #[.val (.ref r0), .val (.int (1 : Int32)), .val (.ref r2), .val (.int (1 : Int32)), .val (.int (2 : Int32)), .val (.int (1 : Int32)), .val (.int (cf 1))] [(.int (1 : Int32)), (.ref r2)]))
  refine own_go (fun t_ kt_ => XS.iload X2g.here hx rfl (hb hby d6_28) rfl kt_) ?_
  show own_Go p e below s _ _ _ (T2.setTop (mkF m 30 #[.val (.ref r0), .val (.int (1 : Int32)), .val (.ref r2), .val (.int (1 : Int32)), .val (.int (2 : Int32)), .val (.int (1 : Int32)), .val (.int (cf 1))] [(.int (cf 1)), (.int (1 : Int32)), (.ref r2)]))
  refine own_go (fun t_ kt_ => XS.i2b X2g.here hx rfl (hb hby d6_30) rfl kt_) ?_
  show own_Go p e below s _ _ _ (T2.setTop (mkF m 31 #[.val (.ref r0), .val (.int (1 : Int32)), .val (.ref r2), .val (.int (1 : Int32)), .val (.int (2 : Int32)), .val (.int (1 : Int32)), .val (.int (cf 1))] [(.int ((cf 1).toInt8.toInt32)), (.int (1 : Int32)), (.ref r2)]))
  obtain ⟨ce4, Ar4, S4, G4⟩ := id VB_2
  obtain ⟨T4, h4, X4, e4, W4, st4⟩ := stB X2g hx hZ e2 Ar4 (j := (1 : Int32)) (own_in (i := 1) S4 (by decide) (by decide)) (g := (mkF m 31 #[.val (.ref r0), .val (.int (1 : Int32)), .val (.ref r2), .val (.int (1 : Int32)), .val (.int (2 : Int32)), .val (.int (1 : Int32)), .val (.int (cf 1))] [(.int ((cf 1).toInt8.toInt32)), (.int (1 : Int32)), (.ref r2)])) rfl rfl (hb hby d6_31)
  rw [own_cl (j := (1 : Int32)) (i := 1) (by decide)] at W4 X4
  refine own_go (fun t_ kt_ => st4 _ kt_) ?_
  have N4 := Fr.snoc X4 N2g g0
  obtain ⟨lo4, X4g, N4g⟩ : ∃ lo, Stand p l e ({ frames := 0, cells := 0, slots := 0, locals := 0 } : Room) s m #[(.ref r0), (.int (0 : Int32)), (.ref r2), (.int (0 : Int32)), (.int (2 : Int32))] below meth c T4 lo 0 0 ∧ Fr n0 lo := ⟨_, X4, N4⟩
  rw [(own_nary _ : nar .byte ((cf 1).toInt8.toInt32) = (own_y (cf 1)))] at W4
  have ZZ_4 : n0 ≤ h4.size := Nat.le_trans ZZ_2 (Nat.le_of_eq W4.size.symm)
  have VC_4 : own_Ary Z h4 r0 .char 2 (fun j => .int (cf j)) := VC_2.other W4 ne0
  have VB_4 : own_Ary Z h4 r2 .byte 2 (own_set (own_set (fun _ => .int (0 : Int32)) 0 (.int (own_y (cf 0)))) 1 (.int (own_y (cf 1)))) := own_Ary.set Ar4 S4 G4 W4
  have K4 : Keep h0 h4 [r2] := K2.wr W4 (Or.inl (by simp))
  show own_Go p e below s _ _ _ (T4.setTop (mkF m 32 #[.val (.ref r0), .val (.int (1 : Int32)), .val (.ref r2), .val (.int (1 : Int32)), .val (.int (2 : Int32)), .val (.int (1 : Int32)), .val (.int (cf 1))] []))
  refine own_go (fun t_ kt_ => XS.iinc X4g.here hx rfl (hb hby d6_32) rfl (l' := #[.val (.ref r0), .val (.int (2 : Int32)), .val (.ref r2), .val (.int (1 : Int32)), .val (.int (2 : Int32)), .val (.int (1 : Int32)), .val (.int (cf 1))]) rfl kt_) ?_
  show own_Go p e below s _ _ _ (T4.setTop (mkF m 35 #[.val (.ref r0), .val (.int (2 : Int32)), .val (.ref r2), .val (.int (1 : Int32)), .val (.int (2 : Int32)), .val (.int (1 : Int32)), .val (.int (cf 1))] []))
  refine own_go (fun t_ kt_ => XS.iinc X4g.here hx rfl (hb hby d6_35) rfl (l' := #[.val (.ref r0), .val (.int (2 : Int32)), .val (.ref r2), .val (.int (2 : Int32)), .val (.int (2 : Int32)), .val (.int (1 : Int32)), .val (.int (cf 1))]) rfl kt_) ?_
  show own_Go p e below s _ _ _ (T4.setTop (mkF m 38 #[.val (.ref r0), .val (.int (2 : Int32)), .val (.ref r2), .val (.int (2 : Int32)), .val (.int (2 : Int32)), .val (.int (1 : Int32)), .val (.int (cf 1))] []))
  refine own_go (fun t_ kt_ => XS.iinc X4g.here hx rfl (hb hby d6_38) rfl (l' := #[.val (.ref r0), .val (.int (2 : Int32)), .val (.ref r2), .val (.int (2 : Int32)), .val (.int (2 : Int32)), .val (.int (2 : Int32)), .val (.int (cf 1))]) rfl kt_) ?_
  show own_Go p e below s _ _ _ (T4.setTop (mkF m 41 #[.val (.ref r0), .val (.int (2 : Int32)), .val (.ref r2), .val (.int (2 : Int32)), .val (.int (2 : Int32)), .val (.int (2 : Int32)), .val (.int (cf 1))] []))
  refine own_go (fun t_ kt_ => XS.goto X4g.here hx rfl (pc0 := 41) (pc' := 3) rfl (hb hby d6_41) (by decide) (by decide) kt_) ?_
  show own_Go p e below s _ _ _ (T4.setTop (mkF m 3 #[.val (.ref r0), .val (.int (2 : Int32)), .val (.ref r2), .val (.int (2 : Int32)), .val (.int (2 : Int32)), .val (.int (2 : Int32)), .val (.int (cf 1))] []))
  refine own_go (fun t_ kt_ => XS.iload X4g.here hx rfl (hb hby d6_3) rfl kt_) ?_
  show own_Go p e below s _ _ _ (T4.setTop (mkF m 5 #[.val (.ref r0), .val (.int (2 : Int32)), .val (.ref r2), .val (.int (2 : Int32)), .val (.int (2 : Int32)), .val (.int (2 : Int32)), .val (.int (cf 1))] [(.int (2 : Int32))]))
  refine own_go (fun t_ kt_ => XS.iload X4g.here hx rfl (hb hby d6_5) rfl kt_) ?_
  show own_Go p e below s _ _ _ (T4.setTop (mkF m 7 #[.val (.ref r0), .val (.int (2 : Int32)), .val (.ref r2), .val (.int (2 : Int32)), .val (.int (2 : Int32)), .val (.int (2 : Int32)), .val (.int (cf 1))] [(.int (2 : Int32)), (.int (2 : Int32))]))
  refine own_go (fun t_ kt_ => XS.icmpYes X4g.here hx rfl (pc0 := 7) (pc' := 44) rfl (hb hby d6_7) rfl (flt (by decide)).2.1 (by decide) (by decide) kt_) ?_
  show own_Go p e below s _ _ _ (T4.setTop (mkF m 44 #[.val (.ref r0), .val (.int (2 : Int32)), .val (.ref r2), .val (.int (2 : Int32)), .val (.int (2 : Int32)), .val (.int (2 : Int32)), .val (.int (cf 1))] []))
  refine own_go (fun t_ kt_ => XS.iload X4g.here hx rfl (hb hby d6_44) rfl kt_) ?_
  show own_Go p e below s _ _ _ (T4.setTop (mkF m 46 #[.val (.ref r0), .val (.int (2 : Int32)), .val (.ref r2), .val (.int (2 : Int32)), .val (.int (2 : Int32)), .val (.int (2 : Int32)), .val (.int (cf 1))] [(.int (2 : Int32))]))
  refine own_ret X4g (v := some (.int (2 : Int32))) (fun h => by rw [hret] at h; cases h) hlk ?_ (by decide) (by decide) (fun fs hr => retI X4g hx hret (hb hby d6_46) hr)
  show Q62 Z r0 r2 cf h0 n0 (some (.int (2 : Int32))) T4.heap _
  rw [e4]
  exact ⟨rfl, N4g, K4, VB_4.congr (fun j hj => by
    rcases (by omega : j = 0 ∨ j = 1) with rfl | rfl <;> rfl)⟩
theorem ef_52 (m : MethodId) (r0 : Addr) : entryFrame m #[(.ref r0), (.int (0 : Int32)), (.int (2 : Int32))] 6 = mkF m 0 #[.val (.ref r0), .val (.int (0 : Int32)), .val (.int (2 : Int32)), .unset, .unset, .unset] [] := by first | (simp [entryFrame, mkF, argsToLocals, Value.category]; done) | rfl
def Q52 (Z : State) (r0 : Addr) (cf : Nat → Int32) (h0 : Heap) (n0 : Nat) (v : Option Value) (h : Heap) (L : List Loc) : Prop := ∃ b : Addr, v = some (.ref b) ∧ Fr n0 L ∧ Keep h0 h [] ∧ n0 ≤ b ∧ h0.size ≤ b ∧ own_Ary Z h b .byte 2 (fun j => .int (own_y (cf j)))
set_option maxRecDepth 65536 in
set_option maxHeartbeats 40000000 in
theorem rm52 (l : Launch) (Z : State) (a0 : Array Value) (hw : ∀ d ∈ tables_1, d.before a0 Z = true) (ws : List Jvm.Cond) (r0 : Addr) (cf : Nat → Int32) (h0 : Heap) (n0 : Nat) (Z0 : n0 ≤ h0.size) (VC0 : own_Ary Z h0 r0 .char 2 (fun j => .int (cf j))) (hcf : ∀ j, j < 2 → 0 ≤ (cf j).toInt ∧ (cf j).toInt ≤ 255) :
    MetFree l (⟨"java/lang/StringUTF16", "compress", "([CII)[B"⟩ : MethodName) (head1 (Jvm.Cond.code (⟨"java/lang/StringUTF16", "compress", "([CII)[B"⟩ : MethodName) jdk_52_method_16_code 6 (some (.array .byte)) :: ws) ({ frames := 1, cells := 1, slots := 2, locals := 18 } : Room)) (fun a U => a = #[(.ref r0), (.int (0 : Int32)), (.int (2 : Int32))] ∧ Z.Warmed39 U.vm ∧ U.heap = h0) (fun _ _ _ _ _ => True) (fun _ U o U' => ∃ v L, o = .returned v ∧ Q52 Z r0 cf h0 n0 v U'.heap L ∧ FrameEnd U o U' L (({ frames := 1, cells := 1, slots := 2, locals := 18 } : Room)).cells (({ frames := 1, cells := 1, slots := 2, locals := 18 } : Room)).slots) := by
  refine MetFree.of_bodySF (plainFor_of_name pn_0) hisR ?_
  intro p e s m args below meth c s₁ Bd hml0 hP hK
  obtain ⟨rfl, hZ, hh⟩ := hP
  have hx := Bd.exec
  have hby := Bd.bytes
  have hml : c.maxLocals = 6 := hml0
  have hown : s.vm.findClass "java/lang/StringUTF16" = some m.cls := findClass_of_methodNamed Bd.named
  have hnm := (name_of_methodNamed Bd.named Bd.method).1
  have hlk : meth.locks = false := Bd.notSynchronized
  have X0 : Stand p l e ({ frames := 1, cells := 1, slots := 2, locals := 18 } : Room) s m #[(.ref r0), (.int (0 : Int32)), (.int (2 : Int32))] below meth c s₁ [] 0 0 := Stand.of_body Bd
  have e0 : s₁.heap = h0 := by rw [← hh, Bd.state]; rfl
  have N0 := Fr.nil n0
  have hret := Bd.returns
  show own_Go p e below s (Q52 Z r0 cf h0 n0) _ _ (s₁.setTop (entryFrame m #[(.ref r0), (.int (0 : Int32)), (.int (2 : Int32))] 6))
  refine own_go (fun t k => castTop (ef_52 m r0) k) ?_
  show own_Go p e below s _ _ _ (s₁.setTop (mkF m 0 #[.val (.ref r0), .val (.int (0 : Int32)), .val (.int (2 : Int32)), .unset, .unset, .unset] []))
  refine own_go (fun t_ kt_ => XS.iloadN X0.here hx rfl (hb hby d5_0) rfl kt_) ?_
  show own_Go p e below s _ _ _ (s₁.setTop (mkF m 1 #[.val (.ref r0), .val (.int (0 : Int32)), .val (.int (2 : Int32)), .unset, .unset, .unset] [(.int (2 : Int32))]))
  obtain ⟨T1, h1, k1, X1, e1, E1, A1, st1⟩ := newP X0 hx hZ (hw _ (List.mem_of_getElem? (i := 26) rfl)) e0 (g := (mkF m 1 #[.val (.ref r0), .val (.int (0 : Int32)), .val (.int (2 : Int32)), .unset, .unset, .unset] [(.int (2 : Int32))])) rfl (hb hby d5_1) rfl (by decide) (cap := 2) (by decide) (by decide) (by decide) (by decide)
  obtain ⟨ba, g1⟩ : ∃ z, z = h0.size := ⟨_, rfl⟩
  rw [← g1] at A1 st1
  refine own_go (fun t_ kt_ => st1 _ kt_) ?_
  have gt_ba : n0 ≤ ba := Nat.le_trans Z0 (Nat.le_of_eq g1.symm)
  have ne_r0_ba : r0 ≠ ba := Nat.ne_of_lt (Nat.lt_of_lt_of_le VC0.lt (Nat.le_of_eq g1.symm))
  have sz_ba : h0.size ≤ ba := Nat.le_trans (Keep.refl h0 []).1 (Nat.le_of_eq g1.symm)
  have ZZ_1 : n0 ≤ h1.size := Nat.le_trans Z0 E1.1
  have VC_1 : own_Ary Z h1 r0 .char 2 (fun j => .int (cf j)) := VC0.ext E1
  have K1 : Keep h0 h1 [] := (Keep.refl h0 []).ext E1
  have V_ba : own_Ary Z h1 ba .byte 2 (fun _ => (.int (0 : Int32))) := own_Ary.new A1 (by decide)
  show own_Go p e below s _ _ _ (T1.setTop (mkF m 3 #[.val (.ref r0), .val (.int (0 : Int32)), .val (.int (2 : Int32)), .unset, .unset, .unset] [(.ref ba)]))
  refine own_go (fun t_ kt_ => XS.astoreN X1.here hx rfl (hb hby d5_3) rfl rfl (l' := #[.val (.ref r0), .val (.int (0 : Int32)), .val (.int (2 : Int32)), .val (.ref ba), .unset, .unset]) rfl kt_) ?_
  show own_Go p e below s _ _ _ (T1.setTop (mkF m 4 #[.val (.ref r0), .val (.int (0 : Int32)), .val (.int (2 : Int32)), .val (.ref ba), .unset, .unset] []))
  refine own_go (fun t_ kt_ => XS.aloadN X1.here hx rfl (hb hby d5_4) rfl rfl kt_) ?_
  show own_Go p e below s _ _ _ (T1.setTop (mkF m 5 #[.val (.ref r0), .val (.int (0 : Int32)), .val (.int (2 : Int32)), .val (.ref ba), .unset, .unset] [(.ref r0)]))
  refine own_go (fun t_ kt_ => XS.iloadN X1.here hx rfl (hb hby d5_5) rfl kt_) ?_
  show own_Go p e below s _ _ _ (T1.setTop (mkF m 6 #[.val (.ref r0), .val (.int (0 : Int32)), .val (.int (2 : Int32)), .val (.ref ba), .unset, .unset] [(.int (0 : Int32)), (.ref r0)]))
  refine own_go (fun t_ kt_ => XS.aloadN X1.here hx rfl (hb hby d5_6) rfl rfl kt_) ?_
  show own_Go p e below s _ _ _ (T1.setTop (mkF m 7 #[.val (.ref r0), .val (.int (0 : Int32)), .val (.int (2 : Int32)), .val (.ref ba), .unset, .unset] [(.ref ba), (.int (0 : Int32)), (.ref r0)]))
  refine own_go (fun t_ kt_ => XS.iconst X1.here hx rfl (hb hby d5_7) kt_) ?_
  show own_Go p e below s _ _ _ (T1.setTop (mkF m 8 #[.val (.ref r0), .val (.int (0 : Int32)), .val (.int (2 : Int32)), .val (.ref ba), .unset, .unset] [(.int (0 : Int32)), (.ref ba), (.int (0 : Int32)), (.ref r0)]))
  refine own_go (fun t_ kt_ => XS.iloadN X1.here hx rfl (hb hby d5_8) rfl kt_) ?_
  show own_Go p e below s _ _ _ (T1.setTop (mkF m 9 #[.val (.ref r0), .val (.int (0 : Int32)), .val (.int (2 : Int32)), .val (.ref ba), .unset, .unset] [(.int (2 : Int32)), (.int (0 : Int32)), (.ref ba), (.int (0 : Int32)), (.ref r0)]))
  obtain ⟨_, _, ⟨T2, L2, k2, n2⟩, -, X2, ⟨Lc2, hQ2, l2, y2, z2⟩, st2⟩ := Jvm.LawKit.callS X1 hx (y := (⟨"java/lang/StringUTF16", "compress", "([CI[BII)I"⟩ : MethodName)) hown (mvT hZ (hw _ (List.mem_of_getElem? (i := 27) rfl))) (mvT hZ (hw _ (List.mem_of_getElem? (i := 28) rfl))) (mvT hZ (hw _ (List.mem_of_getElem? (i := 24) rfl))) (mvT hZ (hw _ (List.mem_of_getElem? (i := 29) rfl))) (by decide) (backOf (W := 0) (rm62 l Z a0 hw [] (r0) (ba) (cf) h1 n0 ZZ_1 VC_1 V_ba hcf ne_r0_ba gt_ba) hZ (hw _ (List.mem_of_getElem? (i := 29) rfl)) (hw _ (List.mem_of_getElem? (i := 24) rfl)) (by decide) (by decide)) (g := (mkF m 9 #[.val (.ref r0), .val (.int (0 : Int32)), .val (.int (2 : Int32)), .val (.ref ba), .unset, .unset] [(.int (2 : Int32)), (.int (0 : Int32)), (.ref ba), (.int (0 : Int32)), (.ref r0)])) rfl (by rw [hml]; rfl) (argsL := [(.ref r0), (.int (0 : Int32)), (.ref ba), (.int (0 : Int32)), (.int (2 : Int32))]) (rest := []) (lenOf pd_0 rfl) rfl (by show 2 * 0 + _ ≤ _; exact Nat.le_of_eq rfl) (hb hby d5_9) (fun _ _ => ⟨rfl, e1, (by decide : 1 + 0 ≤ _), (by decide : 2 + 0 ≤ _)⟩)
  dsimp only [Pt.U, Pt.locs, Pt.cells, Pt.slots] at X2 l2 y2 z2 st2 hQ2
  subst l2 y2 z2
  obtain ⟨rfl, Nq2, Kq2, Vq2⟩ := hQ2
  have N2 := Fr.app N0 Nq2
  refine own_go (fun t_ kt_ => st2 _ kt_) ?_
  obtain ⟨lo2, X2g, N2g⟩ : ∃ lo, Stand p l e ({ frames := 1, cells := 1, slots := 2, locals := 18 } : Room) s m #[(.ref r0), (.int (0 : Int32)), (.int (2 : Int32))] below meth c T2 lo 1 2 ∧ Fr n0 lo := ⟨_, X2, N2⟩
  obtain ⟨h2, e2⟩ : ∃ z, T2.heap = z := ⟨_, rfl⟩
  rw [e2] at Kq2 Vq2
  have ZZ_2 : n0 ≤ h2.size := Nat.le_trans ZZ_1 Kq2.1
  have VC_2 : own_Ary Z h2 r0 .char 2 (fun j => .int (cf j)) := VC_1.keep Kq2 (ninS ne_r0_ba nin0)
  have K2 : Keep h0 h2 [] := K1.trans Kq2 (allS (Or.inr sz_ba) all0)
  show own_Go p e below s _ _ _ (T2.setTop (mkF m 12 #[.val (.ref r0), .val (.int (0 : Int32)), .val (.int (2 : Int32)), .val (.ref ba), .unset, .unset] [(.int (2 : Int32))]))
  refine own_go (fun t_ kt_ => XS.istore X2g.here hx rfl (hb hby d5_12) rfl (l' := #[.val (.ref r0), .val (.int (0 : Int32)), .val (.int (2 : Int32)), .val (.ref ba), .val (.int (2 : Int32)), .unset]) rfl kt_) ?_
  show own_Go p e below s _ _ _ (T2.setTop (mkF m 14 #[.val (.ref r0), .val (.int (0 : Int32)), .val (.int (2 : Int32)), .val (.ref ba), .val (.int (2 : Int32)), .unset] []))
  refine own_go (fun t_ kt_ => XS.iload X2g.here hx rfl (hb hby d5_14) rfl kt_) ?_
  show own_Go p e below s _ _ _ (T2.setTop (mkF m 16 #[.val (.ref r0), .val (.int (0 : Int32)), .val (.int (2 : Int32)), .val (.ref ba), .val (.int (2 : Int32)), .unset] [(.int (2 : Int32))]))
  refine own_go (fun t_ kt_ => XS.iloadN X2g.here hx rfl (hb hby d5_16) rfl kt_) ?_
  show own_Go p e below s _ _ _ (T2.setTop (mkF m 17 #[.val (.ref r0), .val (.int (0 : Int32)), .val (.int (2 : Int32)), .val (.ref ba), .val (.int (2 : Int32)), .unset] [(.int (2 : Int32)), (.int (2 : Int32))]))
  refine own_go (fun t_ kt_ => XS.icmpYes X2g.here hx rfl (pc0 := 17) (pc' := 57) rfl (hb hby d5_17) rfl (teq (by decide)).1 (by decide) (by decide) kt_) ?_
  show own_Go p e below s _ _ _ (T2.setTop (mkF m 57 #[.val (.ref r0), .val (.int (0 : Int32)), .val (.int (2 : Int32)), .val (.ref ba), .val (.int (2 : Int32)), .unset] []))
  refine own_go (fun t_ kt_ => XS.aloadN X2g.here hx rfl (hb hby d5_57) rfl rfl kt_) ?_
  show own_Go p e below s _ _ _ (T2.setTop (mkF m 58 #[.val (.ref r0), .val (.int (0 : Int32)), .val (.int (2 : Int32)), .val (.ref ba), .val (.int (2 : Int32)), .unset] [(.ref ba)]))
  refine own_ret X2g (v := some (.ref ba)) (fun h => by rw [hret] at h; cases h) hlk ?_ (by decide) (by decide) (fun fs hr => X2g.areturnOut hx rfl hret rfl (hb hby d5_58) hr)
  show Q52 Z r0 cf h0 n0 (some (.ref ba)) T2.heap _
  rw [e2]
  exact ⟨ba, rfl, N2g, K2, gt_ba, sz_ba, Vq2⟩
theorem ef_72 (m : MethodId) (r0 : Addr) : entryFrame m #[(.ref r0), (.int (2 : Int32))] 2 = mkF m 0 #[.val (.ref r0), .val (.int (2 : Int32))] [] := by first | (simp [entryFrame, mkF, argsToLocals, Value.category]; done) | rfl
def Q72 (Z : State) (r0 : Addr) (bf : Nat → Value) (h0 : Heap) (n0 : Nat) (v : Option Value) (h : Heap) (L : List Loc) : Prop := v = some (.int (0 : Int32)) ∧ Fr n0 L ∧ h = h0
set_option maxRecDepth 65536 in
set_option maxHeartbeats 40000000 in
theorem rm72 (l : Launch) (Z : State) (a0 : Array Value) (hw : ∀ d ∈ tables_1, d.before a0 Z = true) (ws : List Jvm.Cond) (r0 : Addr) (bf : Nat → Value) (h0 : Heap) (n0 : Nat) (Z0 : n0 ≤ h0.size) (VB0 : own_Ary Z h0 r0 .byte 2 bf) :
    MetFree l (⟨"java/lang/StringUTF16", "coderFromArrayLen", "([BI)B"⟩ : MethodName) (head1 (Jvm.Cond.code (⟨"java/lang/StringUTF16", "coderFromArrayLen", "([BI)B"⟩ : MethodName) jdk_52_method_15_code 2 (some .byte) :: ws) ({ frames := 0, cells := 0, slots := 0, locals := 0 } : Room)) (fun a U => a = #[(.ref r0), (.int (2 : Int32))] ∧ Z.Warmed39 U.vm ∧ U.heap = h0) (fun _ _ _ _ _ => True) (fun _ U o U' => ∃ v L, o = .returned v ∧ Q72 Z r0 bf h0 n0 v U'.heap L ∧ FrameEnd U o U' L (({ frames := 0, cells := 0, slots := 0, locals := 0 } : Room)).cells (({ frames := 0, cells := 0, slots := 0, locals := 0 } : Room)).slots) := by
  refine MetFree.of_bodySF (plainFor_of_name pn_0) hisR ?_
  intro p e s m args below meth c s₁ Bd hml0 hP hK
  obtain ⟨rfl, hZ, hh⟩ := hP
  have hx := Bd.exec
  have hby := Bd.bytes
  have hml : c.maxLocals = 2 := hml0
  have hown : s.vm.findClass "java/lang/StringUTF16" = some m.cls := findClass_of_methodNamed Bd.named
  have hnm := (name_of_methodNamed Bd.named Bd.method).1
  have hlk : meth.locks = false := Bd.notSynchronized
  have X0 : Stand p l e ({ frames := 0, cells := 0, slots := 0, locals := 0 } : Room) s m #[(.ref r0), (.int (2 : Int32))] below meth c s₁ [] 0 0 := Stand.of_body Bd
  have e0 : s₁.heap = h0 := by rw [← hh, Bd.state]; rfl
  have N0 := Fr.nil n0
  have hret := Bd.returns
  show own_Go p e below s (Q72 Z r0 bf h0 n0) _ _ (s₁.setTop (entryFrame m #[(.ref r0), (.int (2 : Int32))] 2))
  refine own_go (fun t k => castTop (ef_72 m r0) k) ?_
  show own_Go p e below s _ _ _ (s₁.setTop (mkF m 0 #[.val (.ref r0), .val (.int (2 : Int32))] []))
  refine own_go (fun t_ kt_ => XS.iloadN X0.here hx rfl (hb hby d7_0) rfl kt_) ?_
  show own_Go p e below s _ _ _ (s₁.setTop (mkF m 1 #[.val (.ref r0), .val (.int (2 : Int32))] [(.int (2 : Int32))]))
  refine own_go (fun t_ kt_ => XS.aloadN X0.here hx rfl (hb hby d7_1) rfl rfl kt_) ?_
  show own_Go p e below s _ _ _ (s₁.setTop (mkF m 2 #[.val (.ref r0), .val (.int (2 : Int32))] [(.ref r0), (.int (2 : Int32))]))
  obtain ⟨ce1, Ar1, S1, G1⟩ := id VB0
  have q1 : ce1.slots.size.toInt32 = (2 : Int32) := (congrArg Nat.toInt32 S1).trans (by decide)
  refine own_go (fun t_ kt_ => X0.arraylength hx (by rw [e0]; exact Ar1.1) (State.isArrayOf_alike hZ.alike Ar1.2.1) (g := (mkF m 2 #[.val (.ref r0), .val (.int (2 : Int32))] [(.ref r0), (.int (2 : Int32))])) rfl rfl (hb hby d7_2) _ (by rw [q1]; exact kt_)) ?_
  show own_Go p e below s _ _ _ (s₁.setTop (mkF m 3 #[.val (.ref r0), .val (.int (2 : Int32))] [(.int (2 : Int32)), (.int (2 : Int32))]))
  refine own_go (fun t_ kt_ => XS.isub X0.here hx rfl (hb hby d7_3) rfl kt_) ?_
  show own_Go p e below s _ _ _ (s₁.setTop (mkF m 4 #[.val (.ref r0), .val (.int (2 : Int32))] [(.int (0 : Int32))]))
  refine own_go (fun t_ kt_ => XS.bipush X0.here hx rfl (hb hby d7_4) kt_) ?_
  show own_Go p e below s _ _ _ (s₁.setTop (mkF m 6 #[.val (.ref r0), .val (.int (2 : Int32))] [(.int (31 : Int32)), (.int (0 : Int32))]))
  refine own_go (fun t_ kt_ => XS.iushr X0.here hx rfl (hb hby d7_6) rfl kt_) ?_
  show own_Go p e below s _ _ _ (s₁.setTop (mkF m 7 #[.val (.ref r0), .val (.int (2 : Int32))] [(.int (((0 : Int32).toUInt32 >>> ((31 : Int32) &&& 31).toUInt32).toInt32))]))
  refine own_go (fun t_ kt_ => XS.i2b X0.here hx rfl (hb hby d7_7) rfl kt_) ?_
  show own_Go p e below s _ _ _ (s₁.setTop (mkF m 8 #[.val (.ref r0), .val (.int (2 : Int32))] [(.int ((((0 : Int32).toUInt32 >>> ((31 : Int32) &&& 31).toUInt32).toInt32).toInt8.toInt32))]))
  refine own_ret X0 (v := some (.int (nar .byte ((((0 : Int32).toUInt32 >>> ((31 : Int32) &&& 31).toUInt32).toInt32).toInt8.toInt32)))) (fun h => by rw [hret] at h; cases h) hlk ?_ (by decide) (by decide) (fun fs hr => retN X0 hx (t := .byte) hret (by simp) (hb hby d7_8) hr)
  show Q72 Z r0 bf h0 n0 (some (.int (nar .byte ((((0 : Int32).toUInt32 >>> ((31 : Int32) &&& 31).toUInt32).toInt32).toInt8.toInt32)))) s₁.heap _
  rw [e0]
  exact ⟨congrArg (fun z => some (Value.int z)) (by decide), N0, rfl⟩
theorem pn_1 : plainName "java/lang/String" = true := by first | (simp [plainName, overriddenIn]; done) | decide +kernel
theorem d3_0 : decode jdk_42_method_149_code 0 = .ok (.aload_n 0, 1) := by decide +kernel
theorem d3_1 : decode jdk_42_method_149_code 1 = .ok (.invokespecial 1, 3) := by decide +kernel
theorem d3_4 : decode jdk_42_method_149_code 4 = .ok (.iload_n 3, 1) := by decide +kernel
theorem d3_5 : decode jdk_42_method_149_code 5 = .ok (.ifCond .ne 22, 3) := by decide +kernel
theorem d3_27 : decode jdk_42_method_149_code 27 = .ok (.getstatic 38, 3) := by decide +kernel
theorem d3_30 : decode jdk_42_method_149_code 30 = .ok (.ifCond .eq 28, 3) := by decide +kernel
theorem d3_33 : decode jdk_42_method_149_code 33 = .ok (.aload_n 1, 1) := by decide +kernel
theorem d3_34 : decode jdk_42_method_149_code 34 = .ok (.iload_n 2, 1) := by decide +kernel
theorem d3_35 : decode jdk_42_method_149_code 35 = .ok (.iload_n 3, 1) := by decide +kernel
theorem d3_36 : decode jdk_42_method_149_code 36 = .ok (.invokestatic 177, 3) := by decide +kernel
theorem pd_1 : parseMethodDescriptor "([CII)[B" = some ⟨[(.array .char), .int, .int], some (.array .byte)⟩ := by decide +kernel
theorem d3_39 : decode jdk_42_method_149_code 39 = .ok (.astore 5, 2) := by decide +kernel
theorem d3_41 : decode jdk_42_method_149_code 41 = .ok (.aload_n 0, 1) := by decide +kernel
theorem d3_42 : decode jdk_42_method_149_code 42 = .ok (.aload 5, 2) := by decide +kernel
theorem d3_44 : decode jdk_42_method_149_code 44 = .ok (.iload_n 3, 1) := by decide +kernel
theorem d3_45 : decode jdk_42_method_149_code 45 = .ok (.invokestatic 47, 3) := by decide +kernel
theorem pd_2 : parseMethodDescriptor "([BI)B" = some ⟨[(.array .byte), .int], some .byte⟩ := by decide +kernel
theorem d3_48 : decode jdk_42_method_149_code 48 = .ok (.putfield 15, 3) := by decide +kernel
theorem d3_51 : decode jdk_42_method_149_code 51 = .ok (.aload_n 0, 1) := by decide +kernel
theorem d3_52 : decode jdk_42_method_149_code 52 = .ok (.aload 5, 2) := by decide +kernel
theorem d3_54 : decode jdk_42_method_149_code 54 = .ok (.putfield 9, 3) := by decide +kernel
theorem d3_57 : decode jdk_42_method_149_code 57 = .ok (.return_, 1) := by decide +kernel
theorem ef_31 (m : MethodId) (r0 : Addr) (r1 : Addr) : entryFrame m #[(.ref r0), (.ref r1), (.int (0 : Int32)), (.int (1 : Int32)), .null] 6 = mkF m 0 #[.val (.ref r0), .val (.ref r1), .val (.int (0 : Int32)), .val (.int (1 : Int32)), .val .null, .unset] [] := by first | (simp [entryFrame, mkF, argsToLocals, Value.category]; done) | rfl
def Q31 (Z : State) (r0 : Addr) (r1 : Addr) (cf : Nat → Int32) (cs : Int32) (h0 : Heap) (n0 : Nat) (v : Option Value) (h : Heap) (L : List Loc) : Prop := ∃ b : Addr, v = none ∧ Fr n0 L ∧ Keep h0 h [r0] ∧ Fld Z h r0 "java/lang/String" "coder" "B" (.int (0 : Int32)) ∧ Fld Z h r0 "java/lang/String" "value" "[B" (.ref b) ∧ own_Ary Z h b .byte 1 (fun j => .int (own_y (cf j)))
set_option maxRecDepth 65536 in
set_option maxHeartbeats 40000000 in
theorem rm31 (l : Launch) (Z : State) (a0 : Array Value) (hw : ∀ d ∈ tables_1, d.before a0 Z = true) (ws : List Jvm.Cond) (r0 : Addr) (r1 : Addr) (cf : Nat → Int32) (cs : Int32) (h0 : Heap) (n0 : Nat) (Z0 : n0 ≤ h0.size) (E0 : Exa Z h0 r0 "java/lang/String") (FC0 : Fld Z h0 r0 "java/lang/String" "coder" "B" (.int (0 : Int32))) (FV0 : Fld Z h0 r0 "java/lang/String" "value" "[B" .null) (g0 : n0 ≤ r0) (SC0 : Sta Z h0 "java/lang/String" "COMPACT_STRINGS" "Z" (.int cs)) (hcs : ¬ cs = (0 : Int32)) (VC0 : own_Ary Z h0 r1 .char 1 (fun j => .int (cf j))) (hcf : ∀ j, j < 1 → 0 ≤ (cf j).toInt ∧ (cf j).toInt ≤ 255) :
    MetFree l (⟨"java/lang/String", "<init>", "([CIILjava/lang/Void;)V"⟩ : MethodName) (head1 (Jvm.Cond.code (⟨"java/lang/String", "<init>", "([CIILjava/lang/Void;)V"⟩ : MethodName) jdk_42_method_149_code 6 none :: ws) ({ frames := 2, cells := 1, slots := 1, locals := 35 } : Room)) (fun a U => a = #[(.ref r0), (.ref r1), (.int (0 : Int32)), (.int (1 : Int32)), .null] ∧ Z.Warmed39 U.vm ∧ U.heap = h0) (fun _ _ _ _ _ => True) (fun _ U o U' => ∃ v L, o = .returned v ∧ Q31 Z r0 r1 cf cs h0 n0 v U'.heap L ∧ FrameEnd U o U' L (({ frames := 2, cells := 1, slots := 1, locals := 35 } : Room)).cells (({ frames := 2, cells := 1, slots := 1, locals := 35 } : Room)).slots) := by
  refine MetFree.of_bodySF (plainFor_of_name pn_1) hisR ?_
  intro p e s m args below meth c s₁ Bd hml0 hP hK
  obtain ⟨rfl, hZ, hh⟩ := hP
  have hx := Bd.exec
  have hby := Bd.bytes
  have hml : c.maxLocals = 6 := hml0
  have hown : s.vm.findClass "java/lang/String" = some m.cls := findClass_of_methodNamed Bd.named
  have hnm := (name_of_methodNamed Bd.named Bd.method).1
  have hlk : meth.locks = false := Bd.notSynchronized
  have X0 : Stand p l e ({ frames := 2, cells := 1, slots := 1, locals := 35 } : Room) s m #[(.ref r0), (.ref r1), (.int (0 : Int32)), (.int (1 : Int32)), .null] below meth c s₁ [] 0 0 := Stand.of_body Bd
  have e0 : s₁.heap = h0 := by rw [← hh, Bd.state]; rfl
  have N0 := Fr.nil n0
  have hret := Bd.returns
  show own_Go p e below s (Q31 Z r0 r1 cf cs h0 n0) _ _ (s₁.setTop (entryFrame m #[(.ref r0), (.ref r1), (.int (0 : Int32)), (.int (1 : Int32)), .null] 6))
  refine own_go (fun t k => castTop (ef_31 m r0 r1) k) ?_
  show own_Go p e below s _ _ _ (s₁.setTop (mkF m 0 #[.val (.ref r0), .val (.ref r1), .val (.int (0 : Int32)), .val (.int (1 : Int32)), .val .null, .unset] []))
  refine own_go (fun t_ kt_ => XS.aloadN X0.here hx rfl (hb hby d3_0) rfl rfl kt_) ?_
  show own_Go p e below s _ _ _ (s₁.setTop (mkF m 1 #[.val (.ref r0), .val (.ref r1), .val (.int (0 : Int32)), .val (.int (1 : Int32)), .val .null, .unset] [(.ref r0)]))
  obtain ⟨T1, X1, e1, st1⟩ := initO X0 hx hZ hown (hw _ (List.mem_of_getElem? (i := 18) rfl)) (hw _ (List.mem_of_getElem? (i := 19) rfl)) (hw _ (List.mem_of_getElem? (i := 20) rfl)) e0 (g := (mkF m 1 #[.val (.ref r0), .val (.ref r1), .val (.int (0 : Int32)), .val (.int (1 : Int32)), .val .null, .unset] [(.ref r0)])) rfl (by rw [hml]; rfl) rfl (hb hby d3_1) (by decide) (W := 0) (by show 2 * 0 + _ ≤ _; exact Nat.le_of_eq rfl) (by decide)
  refine own_go (fun t_ kt_ => st1 _ kt_) ?_
  show own_Go p e below s _ _ _ (T1.setTop (mkF m 4 #[.val (.ref r0), .val (.ref r1), .val (.int (0 : Int32)), .val (.int (1 : Int32)), .val .null, .unset] []))
  refine own_go (fun t_ kt_ => XS.iloadN X1.here hx rfl (hb hby d3_4) rfl kt_) ?_
  show own_Go p e below s _ _ _ (T1.setTop (mkF m 5 #[.val (.ref r0), .val (.ref r1), .val (.int (0 : Int32)), .val (.int (1 : Int32)), .val .null, .unset] [(.int (1 : Int32))]))
  refine own_go (fun t_ kt_ => XS.ifYes X1.here hx rfl (pc0 := 5) (pc' := 27) rfl (hb hby d3_5) rfl ((if0 _ _).trans (feq (by decide)).2) (by decide) (by decide) kt_) ?_
  show own_Go p e below s _ _ _ (T1.setTop (mkF m 27 #[.val (.ref r0), .val (.ref r1), .val (.int (0 : Int32)), .val (.int (1 : Int32)), .val .null, .unset] []))
  obtain ⟨T2, X2, e2, st2⟩ := getS2 X1 hx hZ hown (host := "") (Or.inl (hw _ (List.mem_of_getElem? (i := 21) rfl))) Via.refl e1 SC0 (g := (mkF m 27 #[.val (.ref r0), .val (.ref r1), .val (.int (0 : Int32)), .val (.int (1 : Int32)), .val .null, .unset] [])) rfl (hb hby d3_27)
  refine own_go (fun t_ kt_ => st2 _ kt_) ?_
  show own_Go p e below s _ _ _ (T2.setTop (mkF m 30 #[.val (.ref r0), .val (.ref r1), .val (.int (0 : Int32)), .val (.int (1 : Int32)), .val .null, .unset] [(.int cs)]))
  refine own_go (fun t_ kt_ => XS.ifNo X2.here hx rfl (hb hby d3_30) rfl ((if0 _ _).trans (feq hcs).1) kt_) ?_
  show own_Go p e below s _ _ _ (T2.setTop (mkF m 33 #[.val (.ref r0), .val (.ref r1), .val (.int (0 : Int32)), .val (.int (1 : Int32)), .val .null, .unset] []))
  refine own_go (fun t_ kt_ => XS.aloadN X2.here hx rfl (hb hby d3_33) rfl rfl kt_) ?_
  show own_Go p e below s _ _ _ (T2.setTop (mkF m 34 #[.val (.ref r0), .val (.ref r1), .val (.int (0 : Int32)), .val (.int (1 : Int32)), .val .null, .unset] [(.ref r1)]))
  refine own_go (fun t_ kt_ => XS.iloadN X2.here hx rfl (hb hby d3_34) rfl kt_) ?_
  show own_Go p e below s _ _ _ (T2.setTop (mkF m 35 #[.val (.ref r0), .val (.ref r1), .val (.int (0 : Int32)), .val (.int (1 : Int32)), .val .null, .unset] [(.int (0 : Int32)), (.ref r1)]))
  refine own_go (fun t_ kt_ => XS.iloadN X2.here hx rfl (hb hby d3_35) rfl kt_) ?_
  show own_Go p e below s _ _ _ (T2.setTop (mkF m 36 #[.val (.ref r0), .val (.ref r1), .val (.int (0 : Int32)), .val (.int (1 : Int32)), .val .null, .unset] [(.int (1 : Int32)), (.int (0 : Int32)), (.ref r1)]))
  obtain ⟨_, _, ⟨T3, L3, k3, n3⟩, -, X3, ⟨Lc3, hQ3, l3, y3, z3⟩, st3⟩ := Jvm.LawKit.callS X2 hx (y := (⟨"java/lang/StringUTF16", "compress", "([CII)[B"⟩ : MethodName)) hown (mvT hZ (hw _ (List.mem_of_getElem? (i := 22) rfl))) (mvT hZ (hw _ (List.mem_of_getElem? (i := 23) rfl))) (mvT hZ (hw _ (List.mem_of_getElem? (i := 24) rfl))) (mvT hZ (hw _ (List.mem_of_getElem? (i := 25) rfl))) (by decide) (backOf (W := 0) (rm51 l Z a0 hw [] (r1) (cf) h0 n0 Z0 VC0 hcf) hZ (hw _ (List.mem_of_getElem? (i := 25) rfl)) (hw _ (List.mem_of_getElem? (i := 24) rfl)) (by decide) (by decide)) (g := (mkF m 36 #[.val (.ref r0), .val (.ref r1), .val (.int (0 : Int32)), .val (.int (1 : Int32)), .val .null, .unset] [(.int (1 : Int32)), (.int (0 : Int32)), (.ref r1)])) rfl (by rw [hml]; rfl) (argsL := [(.ref r1), (.int (0 : Int32)), (.int (1 : Int32))]) (rest := []) (lenOf pd_1 rfl) rfl (by show 2 * 0 + _ ≤ _; exact Nat.le_of_eq rfl) (hb hby d3_36) (fun _ _ => ⟨rfl, e2, (by decide : 0 + 1 ≤ _), (by decide : 0 + 1 ≤ _)⟩)
  dsimp only [Pt.U, Pt.locs, Pt.cells, Pt.slots] at X3 l3 y3 z3 st3 hQ3
  subst l3 y3 z3
  obtain ⟨ba, rfl, Nq3, Kq3, gtq3, szq3, Vq3⟩ := hQ3
  have N3 := Fr.app N0 Nq3
  refine own_go (fun t_ kt_ => st3 _ kt_) ?_
  obtain ⟨lo3, X3g, N3g⟩ : ∃ lo, Stand p l e ({ frames := 2, cells := 1, slots := 1, locals := 35 } : Room) s m #[(.ref r0), (.ref r1), (.int (0 : Int32)), (.int (1 : Int32)), .null] below meth c T3 lo 1 1 ∧ Fr n0 lo := ⟨_, X3, N3⟩
  obtain ⟨h3, e3⟩ : ∃ z, T3.heap = z := ⟨_, rfl⟩
  rw [e3] at Kq3 Vq3
  have ZZ_3 : n0 ≤ h3.size := Nat.le_trans Z0 Kq3.1
  have EE_3 : Exa Z h3 r0 "java/lang/String" := E0.keep Kq3
  have FC_3 : Fld Z h3 r0 "java/lang/String" "coder" "B" (.int (0 : Int32)) := FC0.keep Kq3 nin0
  have FV_3 : Fld Z h3 r0 "java/lang/String" "value" "[B" .null := FV0.keep Kq3 nin0
  have S_COMPACT_STRINGS_3 : Sta Z h3 "java/lang/String" "COMPACT_STRINGS" "Z" (.int cs) := own_sta_keep SC0 Kq3
  have VC_3 : own_Ary Z h3 r1 .char 1 (fun j => .int (cf j)) := VC0.keep Kq3 nin0
  have K3 : Keep h0 h3 [r0] := (Keep.refl h0 [r0]).trans Kq3 all0
  have ne_ba_r0 : ba ≠ r0 := Ne.symm (Nat.ne_of_lt (Nat.lt_of_lt_of_le E0.lt szq3))
  show own_Go p e below s _ _ _ (T3.setTop (mkF m 39 #[.val (.ref r0), .val (.ref r1), .val (.int (0 : Int32)), .val (.int (1 : Int32)), .val .null, .unset] [(.ref ba)]))
  refine own_go (fun t_ kt_ => XS.astore X3g.here hx rfl (hb hby d3_39) rfl rfl (l' := #[.val (.ref r0), .val (.ref r1), .val (.int (0 : Int32)), .val (.int (1 : Int32)), .val .null, .val (.ref ba)]) rfl kt_) ?_
  show own_Go p e below s _ _ _ (T3.setTop (mkF m 41 #[.val (.ref r0), .val (.ref r1), .val (.int (0 : Int32)), .val (.int (1 : Int32)), .val .null, .val (.ref ba)] []))
  refine own_go (fun t_ kt_ => XS.aloadN X3g.here hx rfl (hb hby d3_41) rfl rfl kt_) ?_
  show own_Go p e below s _ _ _ (T3.setTop (mkF m 42 #[.val (.ref r0), .val (.ref r1), .val (.int (0 : Int32)), .val (.int (1 : Int32)), .val .null, .val (.ref ba)] [(.ref r0)]))
  refine own_go (fun t_ kt_ => XS.aload X3g.here hx rfl (hb hby d3_42) rfl rfl kt_) ?_
  show own_Go p e below s _ _ _ (T3.setTop (mkF m 44 #[.val (.ref r0), .val (.ref r1), .val (.int (0 : Int32)), .val (.int (1 : Int32)), .val .null, .val (.ref ba)] [(.ref ba), (.ref r0)]))
  refine own_go (fun t_ kt_ => XS.iloadN X3g.here hx rfl (hb hby d3_44) rfl kt_) ?_
  show own_Go p e below s _ _ _ (T3.setTop (mkF m 45 #[.val (.ref r0), .val (.ref r1), .val (.int (0 : Int32)), .val (.int (1 : Int32)), .val .null, .val (.ref ba)] [(.int (1 : Int32)), (.ref ba), (.ref r0)]))
  obtain ⟨_, _, ⟨T4, L4, k4, n4⟩, -, X4, ⟨Lc4, hQ4, l4, y4, z4⟩, st4⟩ := Jvm.LawKit.callS X3g hx (y := (⟨"java/lang/StringUTF16", "coderFromArrayLen", "([BI)B"⟩ : MethodName)) hown (mvT hZ (hw _ (List.mem_of_getElem? (i := 30) rfl))) (mvT hZ (hw _ (List.mem_of_getElem? (i := 31) rfl))) (mvT hZ (hw _ (List.mem_of_getElem? (i := 24) rfl))) (mvT hZ (hw _ (List.mem_of_getElem? (i := 32) rfl))) (by decide) (backOf (W := 1) (rm71 l Z a0 hw [] (ba) ((fun j => .int (own_y (cf j)))) h3 n0 ZZ_3 Vq3) hZ (hw _ (List.mem_of_getElem? (i := 32) rfl)) (hw _ (List.mem_of_getElem? (i := 24) rfl)) (by decide) (by decide)) (g := (mkF m 45 #[.val (.ref r0), .val (.ref r1), .val (.int (0 : Int32)), .val (.int (1 : Int32)), .val .null, .val (.ref ba)] [(.int (1 : Int32)), (.ref ba), (.ref r0)])) rfl (by rw [hml]; rfl) (argsL := [(.ref ba), (.int (1 : Int32))]) (rest := [(.ref r0)]) (lenOf pd_2 rfl) rfl (by show 2 * 0 + _ ≤ _; exact Nat.le_of_eq rfl) (hb hby d3_45) (fun _ _ => ⟨rfl, e3, (by decide : 1 + 0 ≤ _), (by decide : 1 + 0 ≤ _)⟩)
  dsimp only [Pt.U, Pt.locs, Pt.cells, Pt.slots] at X4 l4 y4 z4 st4 hQ4
  subst l4 y4 z4
  obtain ⟨rfl, Nq4, eh4⟩ := hQ4
  have N4 := Fr.app N3g Nq4
  refine own_go (fun t_ kt_ => st4 _ kt_) ?_
  obtain ⟨lo4, X4g, N4g⟩ : ∃ lo, Stand p l e ({ frames := 2, cells := 1, slots := 1, locals := 35 } : Room) s m #[(.ref r0), (.ref r1), (.int (0 : Int32)), (.int (1 : Int32)), .null] below meth c T4 lo 1 1 ∧ Fr n0 lo := ⟨_, X4, N4⟩
  have e4 : T4.heap = h3 := eh4
  show own_Go p e below s _ _ _ (T4.setTop (mkF m 48 #[.val (.ref r0), .val (.ref r1), .val (.int (0 : Int32)), .val (.int (1 : Int32)), .val .null, .val (.ref ba)] [(.int (0 : Int32)), (.ref r0)]))
  obtain ⟨T5, h5, X5, e5, W5, st5⟩ := putFN X4g hx hZ hown (hw _ (List.mem_of_getElem? (i := 33) rfl)) Via.refl e4 FC_3 EE_3 (Or.inr ⟨(hw _ (List.mem_of_getElem? (i := 34) rfl)), rfl, hnm⟩) (hw _ (List.mem_of_getElem? (i := 8) rfl)) (ty := .byte) (v' := (.int (0 : Int32))) (by decide) rfl rfl (g := (mkF m 48 #[.val (.ref r0), .val (.ref r1), .val (.int (0 : Int32)), .val (.int (1 : Int32)), .val .null, .val (.ref ba)] [(.int (0 : Int32)), (.ref r0)])) rfl rfl (hb hby d3_48)
  refine own_go (fun t_ kt_ => st5 _ kt_) ?_
  have N5 := Fr.snoc X5 N4g g0
  obtain ⟨lo5, X5g, N5g⟩ : ∃ lo, Stand p l e ({ frames := 2, cells := 1, slots := 1, locals := 35 } : Room) s m #[(.ref r0), (.ref r1), (.int (0 : Int32)), (.int (1 : Int32)), .null] below meth c T5 lo 1 1 ∧ Fr n0 lo := ⟨_, X5, N5⟩
  have ZZ_5 : n0 ≤ h5.size := Nat.le_trans ZZ_3 (Nat.le_of_eq W5.size.symm)
  have EE_5 : Exa Z h5 r0 "java/lang/String" := EE_3.wr W5
  have FV_5 : Fld Z h5 r0 "java/lang/String" "value" "[B" .null := FV_3.other W5 (Or.inr (slot_ne (Or.inr (hw _ (List.mem_of_getElem? (i := 36) rfl))) (Or.inr (hw _ (List.mem_of_getElem? (i := 34) rfl))) (by decide) (t := (.array .byte)) (t' := .byte) (by decide) (by decide)))
  have V_ba_5 : own_Ary Z h5 ba .byte 1 (fun j => .int (own_y (cf j))) := Vq3.other W5 ne_ba_r0
  have FC_5 : Fld Z h5 r0 "java/lang/String" "coder" "B" (.int (0 : Int32)) := FC_3.same W5
  have K5 : Keep h0 h5 [r0] := K3.wr W5 (Or.inl (by simp))
  show own_Go p e below s _ _ _ (T5.setTop (mkF m 51 #[.val (.ref r0), .val (.ref r1), .val (.int (0 : Int32)), .val (.int (1 : Int32)), .val .null, .val (.ref ba)] []))
  refine own_go (fun t_ kt_ => XS.aloadN X5g.here hx rfl (hb hby d3_51) rfl rfl kt_) ?_
  show own_Go p e below s _ _ _ (T5.setTop (mkF m 52 #[.val (.ref r0), .val (.ref r1), .val (.int (0 : Int32)), .val (.int (1 : Int32)), .val .null, .val (.ref ba)] [(.ref r0)]))
  refine own_go (fun t_ kt_ => XS.aload X5g.here hx rfl (hb hby d3_52) rfl rfl kt_) ?_
  show own_Go p e below s _ _ _ (T5.setTop (mkF m 54 #[.val (.ref r0), .val (.ref r1), .val (.int (0 : Int32)), .val (.int (1 : Int32)), .val .null, .val (.ref ba)] [(.ref ba), (.ref r0)]))
  obtain ⟨T6, h6, X6, e6, W6, st6⟩ := putF X5g hx hZ hown (host := "") (Or.inl (hw _ (List.mem_of_getElem? (i := 35) rfl))) Via.refl e5 FV_5 EE_5 (Or.inr ⟨(hw _ (List.mem_of_getElem? (i := 36) rfl)), rfl, hnm⟩) (hw _ (List.mem_of_getElem? (i := 8) rfl)) (ty := (.array .byte)) (by decide) rfl rfl (g := (mkF m 54 #[.val (.ref r0), .val (.ref r1), .val (.int (0 : Int32)), .val (.int (1 : Int32)), .val .null, .val (.ref ba)] [(.ref ba), (.ref r0)])) rfl rfl (hb hby d3_54)
  refine own_go (fun t_ kt_ => st6 _ kt_) ?_
  have N6 := Fr.snoc X6 N5g g0
  obtain ⟨lo6, X6g, N6g⟩ : ∃ lo, Stand p l e ({ frames := 2, cells := 1, slots := 1, locals := 35 } : Room) s m #[(.ref r0), (.ref r1), (.int (0 : Int32)), (.int (1 : Int32)), .null] below meth c T6 lo 1 1 ∧ Fr n0 lo := ⟨_, X6, N6⟩
  have ZZ_6 : n0 ≤ h6.size := Nat.le_trans ZZ_5 (Nat.le_of_eq W6.size.symm)
  have EE_6 : Exa Z h6 r0 "java/lang/String" := EE_5.wr W6
  have FC_6 : Fld Z h6 r0 "java/lang/String" "coder" "B" (.int (0 : Int32)) := FC_5.other W6 (Or.inr (slot_ne (Or.inr (hw _ (List.mem_of_getElem? (i := 34) rfl))) (Or.inr (hw _ (List.mem_of_getElem? (i := 36) rfl))) (by decide) (t := .byte) (t' := (.array .byte)) (by decide) (by decide)))
  have V_ba_6 : own_Ary Z h6 ba .byte 1 (fun j => .int (own_y (cf j))) := V_ba_5.other W6 ne_ba_r0
  have FV_6 : Fld Z h6 r0 "java/lang/String" "value" "[B" (.ref ba) := FV_5.same W6
  have K6 : Keep h0 h6 [r0] := K5.wr W6 (Or.inl (by simp))
  show own_Go p e below s _ _ _ (T6.setTop (mkF m 57 #[.val (.ref r0), .val (.ref r1), .val (.int (0 : Int32)), .val (.int (1 : Int32)), .val .null, .val (.ref ba)] []))
  refine own_ret X6g (v := none) (fun _ => rfl) hlk ?_ (by decide) (by decide) (fun fs hr => X6g.returnOut hx hret (hb hby d3_57) hr)
  show Q31 Z r0 r1 cf cs h0 n0 (none) T6.heap _
  rw [e6]
  exact ⟨ba, rfl, N6g, K6, FC_6, FV_6, V_ba_6⟩
theorem d2_0 : decode jdk_42_method_3_code 0 = .ok (.aload_n 0, 1) := by decide +kernel
theorem d2_1 : decode jdk_42_method_3_code 1 = .ok (.aload_n 1, 1) := by decide +kernel
theorem d2_2 : decode jdk_42_method_3_code 2 = .ok (.iconst 0, 1) := by decide +kernel
theorem d2_3 : decode jdk_42_method_3_code 3 = .ok (.aload_n 1, 1) := by decide +kernel
theorem d2_4 : decode jdk_42_method_3_code 4 = .ok (.arraylength, 1) := by decide +kernel
theorem d2_5 : decode jdk_42_method_3_code 5 = .ok (.aconst_null, 1) := by decide +kernel
theorem d2_6 : decode jdk_42_method_3_code 6 = .ok (.invokespecial 27, 3) := by decide +kernel
theorem pd_3 : parseMethodDescriptor "([CIILjava/lang/Void;)V" = some ⟨[(.array .char), .int, .int, (.object "java/lang/Void")], none⟩ := by decide +kernel
theorem d2_9 : decode jdk_42_method_3_code 9 = .ok (.return_, 1) := by decide +kernel
theorem ef_21 (m : MethodId) (r0 : Addr) (r1 : Addr) : entryFrame m #[(.ref r0), (.ref r1)] 2 = mkF m 0 #[.val (.ref r0), .val (.ref r1)] [] := by first | (simp [entryFrame, mkF, argsToLocals, Value.category]; done) | rfl
def Q21 (Z : State) (r0 : Addr) (r1 : Addr) (cf : Nat → Int32) (cs : Int32) (h0 : Heap) (n0 : Nat) (v : Option Value) (h : Heap) (L : List Loc) : Prop := ∃ b : Addr, v = none ∧ Fr n0 L ∧ Keep h0 h [r0] ∧ Fld Z h r0 "java/lang/String" "coder" "B" (.int (0 : Int32)) ∧ Fld Z h r0 "java/lang/String" "value" "[B" (.ref b) ∧ own_Ary Z h b .byte 1 (fun j => .int (own_y (cf j)))
set_option maxRecDepth 65536 in
set_option maxHeartbeats 40000000 in
theorem rm21 (l : Launch) (Z : State) (a0 : Array Value) (hw : ∀ d ∈ tables_1, d.before a0 Z = true) (ws : List Jvm.Cond) (r0 : Addr) (r1 : Addr) (cf : Nat → Int32) (cs : Int32) (h0 : Heap) (n0 : Nat) (Z0 : n0 ≤ h0.size) (E0 : Exa Z h0 r0 "java/lang/String") (FC0 : Fld Z h0 r0 "java/lang/String" "coder" "B" (.int (0 : Int32))) (FV0 : Fld Z h0 r0 "java/lang/String" "value" "[B" .null) (g0 : n0 ≤ r0) (SC0 : Sta Z h0 "java/lang/String" "COMPACT_STRINGS" "Z" (.int cs)) (hcs : ¬ cs = (0 : Int32)) (VC0 : own_Ary Z h0 r1 .char 1 (fun j => .int (cf j))) (hcf : ∀ j, j < 1 → 0 ≤ (cf j).toInt ∧ (cf j).toInt ≤ 255) :
    MetFree l (⟨"java/lang/String", "<init>", "([C)V"⟩ : MethodName) (head1 (Jvm.Cond.code (⟨"java/lang/String", "<init>", "([C)V"⟩ : MethodName) jdk_42_method_3_code 2 none :: ws) ({ frames := 3, cells := 1, slots := 1, locals := 52 } : Room)) (fun a U => a = #[(.ref r0), (.ref r1)] ∧ Z.Warmed39 U.vm ∧ U.heap = h0) (fun _ _ _ _ _ => True) (fun _ U o U' => ∃ v L, o = .returned v ∧ Q21 Z r0 r1 cf cs h0 n0 v U'.heap L ∧ FrameEnd U o U' L (({ frames := 3, cells := 1, slots := 1, locals := 52 } : Room)).cells (({ frames := 3, cells := 1, slots := 1, locals := 52 } : Room)).slots) := by
  refine MetFree.of_bodySF (plainFor_of_name pn_1) hisR ?_
  intro p e s m args below meth c s₁ Bd hml0 hP hK
  obtain ⟨rfl, hZ, hh⟩ := hP
  have hx := Bd.exec
  have hby := Bd.bytes
  have hml : c.maxLocals = 2 := hml0
  have hown : s.vm.findClass "java/lang/String" = some m.cls := findClass_of_methodNamed Bd.named
  have hnm := (name_of_methodNamed Bd.named Bd.method).1
  have hlk : meth.locks = false := Bd.notSynchronized
  have X0 : Stand p l e ({ frames := 3, cells := 1, slots := 1, locals := 52 } : Room) s m #[(.ref r0), (.ref r1)] below meth c s₁ [] 0 0 := Stand.of_body Bd
  have e0 : s₁.heap = h0 := by rw [← hh, Bd.state]; rfl
  have N0 := Fr.nil n0
  have hret := Bd.returns
  show own_Go p e below s (Q21 Z r0 r1 cf cs h0 n0) _ _ (s₁.setTop (entryFrame m #[(.ref r0), (.ref r1)] 2))
  refine own_go (fun t k => castTop (ef_21 m r0 r1) k) ?_
  show own_Go p e below s _ _ _ (s₁.setTop (mkF m 0 #[.val (.ref r0), .val (.ref r1)] []))
  refine own_go (fun t_ kt_ => XS.aloadN X0.here hx rfl (hb hby d2_0) rfl rfl kt_) ?_
  show own_Go p e below s _ _ _ (s₁.setTop (mkF m 1 #[.val (.ref r0), .val (.ref r1)] [(.ref r0)]))
  refine own_go (fun t_ kt_ => XS.aloadN X0.here hx rfl (hb hby d2_1) rfl rfl kt_) ?_
  show own_Go p e below s _ _ _ (s₁.setTop (mkF m 2 #[.val (.ref r0), .val (.ref r1)] [(.ref r1), (.ref r0)]))
  refine own_go (fun t_ kt_ => XS.iconst X0.here hx rfl (hb hby d2_2) kt_) ?_
  show own_Go p e below s _ _ _ (s₁.setTop (mkF m 3 #[.val (.ref r0), .val (.ref r1)] [(.int (0 : Int32)), (.ref r1), (.ref r0)]))
  refine own_go (fun t_ kt_ => XS.aloadN X0.here hx rfl (hb hby d2_3) rfl rfl kt_) ?_
  show own_Go p e below s _ _ _ (s₁.setTop (mkF m 4 #[.val (.ref r0), .val (.ref r1)] [(.ref r1), (.int (0 : Int32)), (.ref r1), (.ref r0)]))
  obtain ⟨ce1, Ar1, S1, G1⟩ := id VC0
  have q1 : ce1.slots.size.toInt32 = (1 : Int32) := (congrArg Nat.toInt32 S1).trans (by decide)
  refine own_go (fun t_ kt_ => X0.arraylength hx (by rw [e0]; exact Ar1.1) (State.isArrayOf_alike hZ.alike Ar1.2.1) (g := (mkF m 4 #[.val (.ref r0), .val (.ref r1)] [(.ref r1), (.int (0 : Int32)), (.ref r1), (.ref r0)])) rfl rfl (hb hby d2_4) _ (by rw [q1]; exact kt_)) ?_
  show own_Go p e below s _ _ _ (s₁.setTop (mkF m 5 #[.val (.ref r0), .val (.ref r1)] [(.int (1 : Int32)), (.int (0 : Int32)), (.ref r1), (.ref r0)]))
  refine own_go (fun t_ kt_ => XS.aconstNull X0.here hx rfl (hb hby d2_5) kt_) ?_
  show own_Go p e below s _ _ _ (s₁.setTop (mkF m 6 #[.val (.ref r0), .val (.ref r1)] [.null, (.int (1 : Int32)), (.int (0 : Int32)), (.ref r1), (.ref r0)]))
  obtain ⟨_, _, ⟨T2, L2, k2, n2⟩, -, X2, ⟨Lc2, hQ2, l2, y2, z2⟩, st2⟩ := X0.specialBack hx (y := (⟨"java/lang/String", "<init>", "([CIILjava/lang/Void;)V"⟩ : MethodName)) rfl hown (mvT hZ (hw _ (List.mem_of_getElem? (i := 14) rfl))) (mvT hZ (hw _ (List.mem_of_getElem? (i := 15) rfl))) (mvT hZ (hw _ (List.mem_of_getElem? (i := 17) rfl))) (by decide) (backOf (W := 0) (rm31 l Z a0 hw [] (r0) (r1) (cf) (cs) h0 n0 Z0 E0 FC0 FV0 g0 SC0 hcs VC0 hcf) hZ (hw _ (List.mem_of_getElem? (i := 17) rfl)) (hw _ (List.mem_of_getElem? (i := 9) rfl)) (by decide) (by decide)) (g := (mkF m 6 #[.val (.ref r0), .val (.ref r1)] [.null, (.int (1 : Int32)), (.int (0 : Int32)), (.ref r1), (.ref r0)])) rfl (by rw [hml]; rfl) (Steps.refl _) (a := r0) (argsL := [(.ref r1), (.int (0 : Int32)), (.int (1 : Int32)), .null]) (rest := []) (lenOf pd_3 rfl) rfl (by show 2 * 0 + _ ≤ _; exact Nat.le_of_eq rfl) (hb hby d2_6) (fun _ _ => ⟨rfl, e0, (by decide : 0 + 1 ≤ _), (by decide : 0 + 1 ≤ _)⟩)
  dsimp only [Pt.U, Pt.locs, Pt.cells, Pt.slots] at X2 l2 y2 z2 st2 hQ2
  subst l2 y2 z2
  obtain ⟨bq, rfl, Nq2, Kq2, FCq2, FVq2, Vq2⟩ := hQ2
  have N2 := Fr.app N0 Nq2
  refine own_go (fun t_ kt_ => st2.trans kt_) ?_
  obtain ⟨lo2, X2g, N2g⟩ : ∃ lo, Stand p l e ({ frames := 3, cells := 1, slots := 1, locals := 52 } : Room) s m #[(.ref r0), (.ref r1)] below meth c T2 lo 1 1 ∧ Fr n0 lo := ⟨_, X2, N2⟩
  obtain ⟨h2, e2⟩ : ∃ z, T2.heap = z := ⟨_, rfl⟩
  rw [e2] at Kq2 FCq2 FVq2 Vq2
  have ZZ_2 : n0 ≤ h2.size := Nat.le_trans Z0 Kq2.1
  have EE_2 : Exa Z h2 r0 "java/lang/String" := E0.keep Kq2
  have K2 : Keep h0 h2 [r0] := (Keep.refl h0 [r0]).trans Kq2 (allS (Or.inl (by simp)) all0)
  show own_Go p e below s _ _ _ (T2.setTop (mkF m 9 #[.val (.ref r0), .val (.ref r1)] []))
  refine own_ret X2g (v := none) (fun _ => rfl) hlk ?_ (by decide) (by decide) (fun fs hr => X2g.returnOut hx hret (hb hby d2_9) hr)
  show Q21 Z r0 r1 cf cs h0 n0 (none) T2.heap _
  rw [e2]
  exact ⟨bq, rfl, N2g, K2, FCq2, FVq2, Vq2⟩
theorem ef_32 (m : MethodId) (r0 : Addr) (r1 : Addr) : entryFrame m #[(.ref r0), (.ref r1), (.int (0 : Int32)), (.int (2 : Int32)), .null] 6 = mkF m 0 #[.val (.ref r0), .val (.ref r1), .val (.int (0 : Int32)), .val (.int (2 : Int32)), .val .null, .unset] [] := by first | (simp [entryFrame, mkF, argsToLocals, Value.category]; done) | rfl
def Q32 (Z : State) (r0 : Addr) (r1 : Addr) (cf : Nat → Int32) (cs : Int32) (h0 : Heap) (n0 : Nat) (v : Option Value) (h : Heap) (L : List Loc) : Prop := ∃ b : Addr, v = none ∧ Fr n0 L ∧ Keep h0 h [r0] ∧ Fld Z h r0 "java/lang/String" "coder" "B" (.int (0 : Int32)) ∧ Fld Z h r0 "java/lang/String" "value" "[B" (.ref b) ∧ own_Ary Z h b .byte 2 (fun j => .int (own_y (cf j)))
set_option maxRecDepth 65536 in
set_option maxHeartbeats 40000000 in
theorem rm32 (l : Launch) (Z : State) (a0 : Array Value) (hw : ∀ d ∈ tables_1, d.before a0 Z = true) (ws : List Jvm.Cond) (r0 : Addr) (r1 : Addr) (cf : Nat → Int32) (cs : Int32) (h0 : Heap) (n0 : Nat) (Z0 : n0 ≤ h0.size) (E0 : Exa Z h0 r0 "java/lang/String") (FC0 : Fld Z h0 r0 "java/lang/String" "coder" "B" (.int (0 : Int32))) (FV0 : Fld Z h0 r0 "java/lang/String" "value" "[B" .null) (g0 : n0 ≤ r0) (SC0 : Sta Z h0 "java/lang/String" "COMPACT_STRINGS" "Z" (.int cs)) (hcs : ¬ cs = (0 : Int32)) (VC0 : own_Ary Z h0 r1 .char 2 (fun j => .int (cf j))) (hcf : ∀ j, j < 2 → 0 ≤ (cf j).toInt ∧ (cf j).toInt ≤ 255) :
    MetFree l (⟨"java/lang/String", "<init>", "([CIILjava/lang/Void;)V"⟩ : MethodName) (head1 (Jvm.Cond.code (⟨"java/lang/String", "<init>", "([CIILjava/lang/Void;)V"⟩ : MethodName) jdk_42_method_149_code 6 none :: ws) ({ frames := 2, cells := 1, slots := 2, locals := 35 } : Room)) (fun a U => a = #[(.ref r0), (.ref r1), (.int (0 : Int32)), (.int (2 : Int32)), .null] ∧ Z.Warmed39 U.vm ∧ U.heap = h0) (fun _ _ _ _ _ => True) (fun _ U o U' => ∃ v L, o = .returned v ∧ Q32 Z r0 r1 cf cs h0 n0 v U'.heap L ∧ FrameEnd U o U' L (({ frames := 2, cells := 1, slots := 2, locals := 35 } : Room)).cells (({ frames := 2, cells := 1, slots := 2, locals := 35 } : Room)).slots) := by
  refine MetFree.of_bodySF (plainFor_of_name pn_1) hisR ?_
  intro p e s m args below meth c s₁ Bd hml0 hP hK
  obtain ⟨rfl, hZ, hh⟩ := hP
  have hx := Bd.exec
  have hby := Bd.bytes
  have hml : c.maxLocals = 6 := hml0
  have hown : s.vm.findClass "java/lang/String" = some m.cls := findClass_of_methodNamed Bd.named
  have hnm := (name_of_methodNamed Bd.named Bd.method).1
  have hlk : meth.locks = false := Bd.notSynchronized
  have X0 : Stand p l e ({ frames := 2, cells := 1, slots := 2, locals := 35 } : Room) s m #[(.ref r0), (.ref r1), (.int (0 : Int32)), (.int (2 : Int32)), .null] below meth c s₁ [] 0 0 := Stand.of_body Bd
  have e0 : s₁.heap = h0 := by rw [← hh, Bd.state]; rfl
  have N0 := Fr.nil n0
  have hret := Bd.returns
  show own_Go p e below s (Q32 Z r0 r1 cf cs h0 n0) _ _ (s₁.setTop (entryFrame m #[(.ref r0), (.ref r1), (.int (0 : Int32)), (.int (2 : Int32)), .null] 6))
  refine own_go (fun t k => castTop (ef_32 m r0 r1) k) ?_
  show own_Go p e below s _ _ _ (s₁.setTop (mkF m 0 #[.val (.ref r0), .val (.ref r1), .val (.int (0 : Int32)), .val (.int (2 : Int32)), .val .null, .unset] []))
  refine own_go (fun t_ kt_ => XS.aloadN X0.here hx rfl (hb hby d3_0) rfl rfl kt_) ?_
  show own_Go p e below s _ _ _ (s₁.setTop (mkF m 1 #[.val (.ref r0), .val (.ref r1), .val (.int (0 : Int32)), .val (.int (2 : Int32)), .val .null, .unset] [(.ref r0)]))
  obtain ⟨T1, X1, e1, st1⟩ := initO X0 hx hZ hown (hw _ (List.mem_of_getElem? (i := 18) rfl)) (hw _ (List.mem_of_getElem? (i := 19) rfl)) (hw _ (List.mem_of_getElem? (i := 20) rfl)) e0 (g := (mkF m 1 #[.val (.ref r0), .val (.ref r1), .val (.int (0 : Int32)), .val (.int (2 : Int32)), .val .null, .unset] [(.ref r0)])) rfl (by rw [hml]; rfl) rfl (hb hby d3_1) (by decide) (W := 0) (by show 2 * 0 + _ ≤ _; exact Nat.le_of_eq rfl) (by decide)
  refine own_go (fun t_ kt_ => st1 _ kt_) ?_
  show own_Go p e below s _ _ _ (T1.setTop (mkF m 4 #[.val (.ref r0), .val (.ref r1), .val (.int (0 : Int32)), .val (.int (2 : Int32)), .val .null, .unset] []))
  refine own_go (fun t_ kt_ => XS.iloadN X1.here hx rfl (hb hby d3_4) rfl kt_) ?_
  show own_Go p e below s _ _ _ (T1.setTop (mkF m 5 #[.val (.ref r0), .val (.ref r1), .val (.int (0 : Int32)), .val (.int (2 : Int32)), .val .null, .unset] [(.int (2 : Int32))]))
  refine own_go (fun t_ kt_ => XS.ifYes X1.here hx rfl (pc0 := 5) (pc' := 27) rfl (hb hby d3_5) rfl ((if0 _ _).trans (feq (by decide)).2) (by decide) (by decide) kt_) ?_
  show own_Go p e below s _ _ _ (T1.setTop (mkF m 27 #[.val (.ref r0), .val (.ref r1), .val (.int (0 : Int32)), .val (.int (2 : Int32)), .val .null, .unset] []))
  obtain ⟨T2, X2, e2, st2⟩ := getS2 X1 hx hZ hown (host := "") (Or.inl (hw _ (List.mem_of_getElem? (i := 21) rfl))) Via.refl e1 SC0 (g := (mkF m 27 #[.val (.ref r0), .val (.ref r1), .val (.int (0 : Int32)), .val (.int (2 : Int32)), .val .null, .unset] [])) rfl (hb hby d3_27)
  refine own_go (fun t_ kt_ => st2 _ kt_) ?_
  show own_Go p e below s _ _ _ (T2.setTop (mkF m 30 #[.val (.ref r0), .val (.ref r1), .val (.int (0 : Int32)), .val (.int (2 : Int32)), .val .null, .unset] [(.int cs)]))
  refine own_go (fun t_ kt_ => XS.ifNo X2.here hx rfl (hb hby d3_30) rfl ((if0 _ _).trans (feq hcs).1) kt_) ?_
  show own_Go p e below s _ _ _ (T2.setTop (mkF m 33 #[.val (.ref r0), .val (.ref r1), .val (.int (0 : Int32)), .val (.int (2 : Int32)), .val .null, .unset] []))
  refine own_go (fun t_ kt_ => XS.aloadN X2.here hx rfl (hb hby d3_33) rfl rfl kt_) ?_
  show own_Go p e below s _ _ _ (T2.setTop (mkF m 34 #[.val (.ref r0), .val (.ref r1), .val (.int (0 : Int32)), .val (.int (2 : Int32)), .val .null, .unset] [(.ref r1)]))
  refine own_go (fun t_ kt_ => XS.iloadN X2.here hx rfl (hb hby d3_34) rfl kt_) ?_
  show own_Go p e below s _ _ _ (T2.setTop (mkF m 35 #[.val (.ref r0), .val (.ref r1), .val (.int (0 : Int32)), .val (.int (2 : Int32)), .val .null, .unset] [(.int (0 : Int32)), (.ref r1)]))
  refine own_go (fun t_ kt_ => XS.iloadN X2.here hx rfl (hb hby d3_35) rfl kt_) ?_
  show own_Go p e below s _ _ _ (T2.setTop (mkF m 36 #[.val (.ref r0), .val (.ref r1), .val (.int (0 : Int32)), .val (.int (2 : Int32)), .val .null, .unset] [(.int (2 : Int32)), (.int (0 : Int32)), (.ref r1)]))
  obtain ⟨_, _, ⟨T3, L3, k3, n3⟩, -, X3, ⟨Lc3, hQ3, l3, y3, z3⟩, st3⟩ := Jvm.LawKit.callS X2 hx (y := (⟨"java/lang/StringUTF16", "compress", "([CII)[B"⟩ : MethodName)) hown (mvT hZ (hw _ (List.mem_of_getElem? (i := 22) rfl))) (mvT hZ (hw _ (List.mem_of_getElem? (i := 23) rfl))) (mvT hZ (hw _ (List.mem_of_getElem? (i := 24) rfl))) (mvT hZ (hw _ (List.mem_of_getElem? (i := 25) rfl))) (by decide) (backOf (W := 0) (rm52 l Z a0 hw [] (r1) (cf) h0 n0 Z0 VC0 hcf) hZ (hw _ (List.mem_of_getElem? (i := 25) rfl)) (hw _ (List.mem_of_getElem? (i := 24) rfl)) (by decide) (by decide)) (g := (mkF m 36 #[.val (.ref r0), .val (.ref r1), .val (.int (0 : Int32)), .val (.int (2 : Int32)), .val .null, .unset] [(.int (2 : Int32)), (.int (0 : Int32)), (.ref r1)])) rfl (by rw [hml]; rfl) (argsL := [(.ref r1), (.int (0 : Int32)), (.int (2 : Int32))]) (rest := []) (lenOf pd_1 rfl) rfl (by show 2 * 0 + _ ≤ _; exact Nat.le_of_eq rfl) (hb hby d3_36) (fun _ _ => ⟨rfl, e2, (by decide : 0 + 1 ≤ _), (by decide : 0 + 2 ≤ _)⟩)
  dsimp only [Pt.U, Pt.locs, Pt.cells, Pt.slots] at X3 l3 y3 z3 st3 hQ3
  subst l3 y3 z3
  obtain ⟨ba, rfl, Nq3, Kq3, gtq3, szq3, Vq3⟩ := hQ3
  have N3 := Fr.app N0 Nq3
  refine own_go (fun t_ kt_ => st3 _ kt_) ?_
  obtain ⟨lo3, X3g, N3g⟩ : ∃ lo, Stand p l e ({ frames := 2, cells := 1, slots := 2, locals := 35 } : Room) s m #[(.ref r0), (.ref r1), (.int (0 : Int32)), (.int (2 : Int32)), .null] below meth c T3 lo 1 2 ∧ Fr n0 lo := ⟨_, X3, N3⟩
  obtain ⟨h3, e3⟩ : ∃ z, T3.heap = z := ⟨_, rfl⟩
  rw [e3] at Kq3 Vq3
  have ZZ_3 : n0 ≤ h3.size := Nat.le_trans Z0 Kq3.1
  have EE_3 : Exa Z h3 r0 "java/lang/String" := E0.keep Kq3
  have FC_3 : Fld Z h3 r0 "java/lang/String" "coder" "B" (.int (0 : Int32)) := FC0.keep Kq3 nin0
  have FV_3 : Fld Z h3 r0 "java/lang/String" "value" "[B" .null := FV0.keep Kq3 nin0
  have S_COMPACT_STRINGS_3 : Sta Z h3 "java/lang/String" "COMPACT_STRINGS" "Z" (.int cs) := own_sta_keep SC0 Kq3
  have VC_3 : own_Ary Z h3 r1 .char 2 (fun j => .int (cf j)) := VC0.keep Kq3 nin0
  have K3 : Keep h0 h3 [r0] := (Keep.refl h0 [r0]).trans Kq3 all0
  have ne_ba_r0 : ba ≠ r0 := Ne.symm (Nat.ne_of_lt (Nat.lt_of_lt_of_le E0.lt szq3))
  show own_Go p e below s _ _ _ (T3.setTop (mkF m 39 #[.val (.ref r0), .val (.ref r1), .val (.int (0 : Int32)), .val (.int (2 : Int32)), .val .null, .unset] [(.ref ba)]))
  refine own_go (fun t_ kt_ => XS.astore X3g.here hx rfl (hb hby d3_39) rfl rfl (l' := #[.val (.ref r0), .val (.ref r1), .val (.int (0 : Int32)), .val (.int (2 : Int32)), .val .null, .val (.ref ba)]) rfl kt_) ?_
  show own_Go p e below s _ _ _ (T3.setTop (mkF m 41 #[.val (.ref r0), .val (.ref r1), .val (.int (0 : Int32)), .val (.int (2 : Int32)), .val .null, .val (.ref ba)] []))
  refine own_go (fun t_ kt_ => XS.aloadN X3g.here hx rfl (hb hby d3_41) rfl rfl kt_) ?_
  show own_Go p e below s _ _ _ (T3.setTop (mkF m 42 #[.val (.ref r0), .val (.ref r1), .val (.int (0 : Int32)), .val (.int (2 : Int32)), .val .null, .val (.ref ba)] [(.ref r0)]))
  refine own_go (fun t_ kt_ => XS.aload X3g.here hx rfl (hb hby d3_42) rfl rfl kt_) ?_
  show own_Go p e below s _ _ _ (T3.setTop (mkF m 44 #[.val (.ref r0), .val (.ref r1), .val (.int (0 : Int32)), .val (.int (2 : Int32)), .val .null, .val (.ref ba)] [(.ref ba), (.ref r0)]))
  refine own_go (fun t_ kt_ => XS.iloadN X3g.here hx rfl (hb hby d3_44) rfl kt_) ?_
  show own_Go p e below s _ _ _ (T3.setTop (mkF m 45 #[.val (.ref r0), .val (.ref r1), .val (.int (0 : Int32)), .val (.int (2 : Int32)), .val .null, .val (.ref ba)] [(.int (2 : Int32)), (.ref ba), (.ref r0)]))
  obtain ⟨_, _, ⟨T4, L4, k4, n4⟩, -, X4, ⟨Lc4, hQ4, l4, y4, z4⟩, st4⟩ := Jvm.LawKit.callS X3g hx (y := (⟨"java/lang/StringUTF16", "coderFromArrayLen", "([BI)B"⟩ : MethodName)) hown (mvT hZ (hw _ (List.mem_of_getElem? (i := 30) rfl))) (mvT hZ (hw _ (List.mem_of_getElem? (i := 31) rfl))) (mvT hZ (hw _ (List.mem_of_getElem? (i := 24) rfl))) (mvT hZ (hw _ (List.mem_of_getElem? (i := 32) rfl))) (by decide) (backOf (W := 1) (rm72 l Z a0 hw [] (ba) ((fun j => .int (own_y (cf j)))) h3 n0 ZZ_3 Vq3) hZ (hw _ (List.mem_of_getElem? (i := 32) rfl)) (hw _ (List.mem_of_getElem? (i := 24) rfl)) (by decide) (by decide)) (g := (mkF m 45 #[.val (.ref r0), .val (.ref r1), .val (.int (0 : Int32)), .val (.int (2 : Int32)), .val .null, .val (.ref ba)] [(.int (2 : Int32)), (.ref ba), (.ref r0)])) rfl (by rw [hml]; rfl) (argsL := [(.ref ba), (.int (2 : Int32))]) (rest := [(.ref r0)]) (lenOf pd_2 rfl) rfl (by show 2 * 0 + _ ≤ _; exact Nat.le_of_eq rfl) (hb hby d3_45) (fun _ _ => ⟨rfl, e3, (by decide : 1 + 0 ≤ _), (by decide : 2 + 0 ≤ _)⟩)
  dsimp only [Pt.U, Pt.locs, Pt.cells, Pt.slots] at X4 l4 y4 z4 st4 hQ4
  subst l4 y4 z4
  obtain ⟨rfl, Nq4, eh4⟩ := hQ4
  have N4 := Fr.app N3g Nq4
  refine own_go (fun t_ kt_ => st4 _ kt_) ?_
  obtain ⟨lo4, X4g, N4g⟩ : ∃ lo, Stand p l e ({ frames := 2, cells := 1, slots := 2, locals := 35 } : Room) s m #[(.ref r0), (.ref r1), (.int (0 : Int32)), (.int (2 : Int32)), .null] below meth c T4 lo 1 2 ∧ Fr n0 lo := ⟨_, X4, N4⟩
  have e4 : T4.heap = h3 := eh4
  show own_Go p e below s _ _ _ (T4.setTop (mkF m 48 #[.val (.ref r0), .val (.ref r1), .val (.int (0 : Int32)), .val (.int (2 : Int32)), .val .null, .val (.ref ba)] [(.int (0 : Int32)), (.ref r0)]))
  obtain ⟨T5, h5, X5, e5, W5, st5⟩ := putFN X4g hx hZ hown (hw _ (List.mem_of_getElem? (i := 33) rfl)) Via.refl e4 FC_3 EE_3 (Or.inr ⟨(hw _ (List.mem_of_getElem? (i := 34) rfl)), rfl, hnm⟩) (hw _ (List.mem_of_getElem? (i := 8) rfl)) (ty := .byte) (v' := (.int (0 : Int32))) (by decide) rfl rfl (g := (mkF m 48 #[.val (.ref r0), .val (.ref r1), .val (.int (0 : Int32)), .val (.int (2 : Int32)), .val .null, .val (.ref ba)] [(.int (0 : Int32)), (.ref r0)])) rfl rfl (hb hby d3_48)
  refine own_go (fun t_ kt_ => st5 _ kt_) ?_
  have N5 := Fr.snoc X5 N4g g0
  obtain ⟨lo5, X5g, N5g⟩ : ∃ lo, Stand p l e ({ frames := 2, cells := 1, slots := 2, locals := 35 } : Room) s m #[(.ref r0), (.ref r1), (.int (0 : Int32)), (.int (2 : Int32)), .null] below meth c T5 lo 1 2 ∧ Fr n0 lo := ⟨_, X5, N5⟩
  have ZZ_5 : n0 ≤ h5.size := Nat.le_trans ZZ_3 (Nat.le_of_eq W5.size.symm)
  have EE_5 : Exa Z h5 r0 "java/lang/String" := EE_3.wr W5
  have FV_5 : Fld Z h5 r0 "java/lang/String" "value" "[B" .null := FV_3.other W5 (Or.inr (slot_ne (Or.inr (hw _ (List.mem_of_getElem? (i := 36) rfl))) (Or.inr (hw _ (List.mem_of_getElem? (i := 34) rfl))) (by decide) (t := (.array .byte)) (t' := .byte) (by decide) (by decide)))
  have V_ba_5 : own_Ary Z h5 ba .byte 2 (fun j => .int (own_y (cf j))) := Vq3.other W5 ne_ba_r0
  have FC_5 : Fld Z h5 r0 "java/lang/String" "coder" "B" (.int (0 : Int32)) := FC_3.same W5
  have K5 : Keep h0 h5 [r0] := K3.wr W5 (Or.inl (by simp))
  show own_Go p e below s _ _ _ (T5.setTop (mkF m 51 #[.val (.ref r0), .val (.ref r1), .val (.int (0 : Int32)), .val (.int (2 : Int32)), .val .null, .val (.ref ba)] []))
  refine own_go (fun t_ kt_ => XS.aloadN X5g.here hx rfl (hb hby d3_51) rfl rfl kt_) ?_
  show own_Go p e below s _ _ _ (T5.setTop (mkF m 52 #[.val (.ref r0), .val (.ref r1), .val (.int (0 : Int32)), .val (.int (2 : Int32)), .val .null, .val (.ref ba)] [(.ref r0)]))
  refine own_go (fun t_ kt_ => XS.aload X5g.here hx rfl (hb hby d3_52) rfl rfl kt_) ?_
  show own_Go p e below s _ _ _ (T5.setTop (mkF m 54 #[.val (.ref r0), .val (.ref r1), .val (.int (0 : Int32)), .val (.int (2 : Int32)), .val .null, .val (.ref ba)] [(.ref ba), (.ref r0)]))
  obtain ⟨T6, h6, X6, e6, W6, st6⟩ := putF X5g hx hZ hown (host := "") (Or.inl (hw _ (List.mem_of_getElem? (i := 35) rfl))) Via.refl e5 FV_5 EE_5 (Or.inr ⟨(hw _ (List.mem_of_getElem? (i := 36) rfl)), rfl, hnm⟩) (hw _ (List.mem_of_getElem? (i := 8) rfl)) (ty := (.array .byte)) (by decide) rfl rfl (g := (mkF m 54 #[.val (.ref r0), .val (.ref r1), .val (.int (0 : Int32)), .val (.int (2 : Int32)), .val .null, .val (.ref ba)] [(.ref ba), (.ref r0)])) rfl rfl (hb hby d3_54)
  refine own_go (fun t_ kt_ => st6 _ kt_) ?_
  have N6 := Fr.snoc X6 N5g g0
  obtain ⟨lo6, X6g, N6g⟩ : ∃ lo, Stand p l e ({ frames := 2, cells := 1, slots := 2, locals := 35 } : Room) s m #[(.ref r0), (.ref r1), (.int (0 : Int32)), (.int (2 : Int32)), .null] below meth c T6 lo 1 2 ∧ Fr n0 lo := ⟨_, X6, N6⟩
  have ZZ_6 : n0 ≤ h6.size := Nat.le_trans ZZ_5 (Nat.le_of_eq W6.size.symm)
  have EE_6 : Exa Z h6 r0 "java/lang/String" := EE_5.wr W6
  have FC_6 : Fld Z h6 r0 "java/lang/String" "coder" "B" (.int (0 : Int32)) := FC_5.other W6 (Or.inr (slot_ne (Or.inr (hw _ (List.mem_of_getElem? (i := 34) rfl))) (Or.inr (hw _ (List.mem_of_getElem? (i := 36) rfl))) (by decide) (t := .byte) (t' := (.array .byte)) (by decide) (by decide)))
  have V_ba_6 : own_Ary Z h6 ba .byte 2 (fun j => .int (own_y (cf j))) := V_ba_5.other W6 ne_ba_r0
  have FV_6 : Fld Z h6 r0 "java/lang/String" "value" "[B" (.ref ba) := FV_5.same W6
  have K6 : Keep h0 h6 [r0] := K5.wr W6 (Or.inl (by simp))
  show own_Go p e below s _ _ _ (T6.setTop (mkF m 57 #[.val (.ref r0), .val (.ref r1), .val (.int (0 : Int32)), .val (.int (2 : Int32)), .val .null, .val (.ref ba)] []))
  refine own_ret X6g (v := none) (fun _ => rfl) hlk ?_ (by decide) (by decide) (fun fs hr => X6g.returnOut hx hret (hb hby d3_57) hr)
  show Q32 Z r0 r1 cf cs h0 n0 (none) T6.heap _
  rw [e6]
  exact ⟨ba, rfl, N6g, K6, FC_6, FV_6, V_ba_6⟩
theorem ef_22 (m : MethodId) (r0 : Addr) (r1 : Addr) : entryFrame m #[(.ref r0), (.ref r1)] 2 = mkF m 0 #[.val (.ref r0), .val (.ref r1)] [] := by first | (simp [entryFrame, mkF, argsToLocals, Value.category]; done) | rfl
def Q22 (Z : State) (r0 : Addr) (r1 : Addr) (cf : Nat → Int32) (cs : Int32) (h0 : Heap) (n0 : Nat) (v : Option Value) (h : Heap) (L : List Loc) : Prop := ∃ b : Addr, v = none ∧ Fr n0 L ∧ Keep h0 h [r0] ∧ Fld Z h r0 "java/lang/String" "coder" "B" (.int (0 : Int32)) ∧ Fld Z h r0 "java/lang/String" "value" "[B" (.ref b) ∧ own_Ary Z h b .byte 2 (fun j => .int (own_y (cf j)))
set_option maxRecDepth 65536 in
set_option maxHeartbeats 40000000 in
theorem rm22 (l : Launch) (Z : State) (a0 : Array Value) (hw : ∀ d ∈ tables_1, d.before a0 Z = true) (ws : List Jvm.Cond) (r0 : Addr) (r1 : Addr) (cf : Nat → Int32) (cs : Int32) (h0 : Heap) (n0 : Nat) (Z0 : n0 ≤ h0.size) (E0 : Exa Z h0 r0 "java/lang/String") (FC0 : Fld Z h0 r0 "java/lang/String" "coder" "B" (.int (0 : Int32))) (FV0 : Fld Z h0 r0 "java/lang/String" "value" "[B" .null) (g0 : n0 ≤ r0) (SC0 : Sta Z h0 "java/lang/String" "COMPACT_STRINGS" "Z" (.int cs)) (hcs : ¬ cs = (0 : Int32)) (VC0 : own_Ary Z h0 r1 .char 2 (fun j => .int (cf j))) (hcf : ∀ j, j < 2 → 0 ≤ (cf j).toInt ∧ (cf j).toInt ≤ 255) :
    MetFree l (⟨"java/lang/String", "<init>", "([C)V"⟩ : MethodName) (head1 (Jvm.Cond.code (⟨"java/lang/String", "<init>", "([C)V"⟩ : MethodName) jdk_42_method_3_code 2 none :: ws) ({ frames := 3, cells := 1, slots := 2, locals := 52 } : Room)) (fun a U => a = #[(.ref r0), (.ref r1)] ∧ Z.Warmed39 U.vm ∧ U.heap = h0) (fun _ _ _ _ _ => True) (fun _ U o U' => ∃ v L, o = .returned v ∧ Q22 Z r0 r1 cf cs h0 n0 v U'.heap L ∧ FrameEnd U o U' L (({ frames := 3, cells := 1, slots := 2, locals := 52 } : Room)).cells (({ frames := 3, cells := 1, slots := 2, locals := 52 } : Room)).slots) := by
  refine MetFree.of_bodySF (plainFor_of_name pn_1) hisR ?_
  intro p e s m args below meth c s₁ Bd hml0 hP hK
  obtain ⟨rfl, hZ, hh⟩ := hP
  have hx := Bd.exec
  have hby := Bd.bytes
  have hml : c.maxLocals = 2 := hml0
  have hown : s.vm.findClass "java/lang/String" = some m.cls := findClass_of_methodNamed Bd.named
  have hnm := (name_of_methodNamed Bd.named Bd.method).1
  have hlk : meth.locks = false := Bd.notSynchronized
  have X0 : Stand p l e ({ frames := 3, cells := 1, slots := 2, locals := 52 } : Room) s m #[(.ref r0), (.ref r1)] below meth c s₁ [] 0 0 := Stand.of_body Bd
  have e0 : s₁.heap = h0 := by rw [← hh, Bd.state]; rfl
  have N0 := Fr.nil n0
  have hret := Bd.returns
  show own_Go p e below s (Q22 Z r0 r1 cf cs h0 n0) _ _ (s₁.setTop (entryFrame m #[(.ref r0), (.ref r1)] 2))
  refine own_go (fun t k => castTop (ef_22 m r0 r1) k) ?_
  show own_Go p e below s _ _ _ (s₁.setTop (mkF m 0 #[.val (.ref r0), .val (.ref r1)] []))
  refine own_go (fun t_ kt_ => XS.aloadN X0.here hx rfl (hb hby d2_0) rfl rfl kt_) ?_
  show own_Go p e below s _ _ _ (s₁.setTop (mkF m 1 #[.val (.ref r0), .val (.ref r1)] [(.ref r0)]))
  refine own_go (fun t_ kt_ => XS.aloadN X0.here hx rfl (hb hby d2_1) rfl rfl kt_) ?_
  show own_Go p e below s _ _ _ (s₁.setTop (mkF m 2 #[.val (.ref r0), .val (.ref r1)] [(.ref r1), (.ref r0)]))
  refine own_go (fun t_ kt_ => XS.iconst X0.here hx rfl (hb hby d2_2) kt_) ?_
  show own_Go p e below s _ _ _ (s₁.setTop (mkF m 3 #[.val (.ref r0), .val (.ref r1)] [(.int (0 : Int32)), (.ref r1), (.ref r0)]))
  refine own_go (fun t_ kt_ => XS.aloadN X0.here hx rfl (hb hby d2_3) rfl rfl kt_) ?_
  show own_Go p e below s _ _ _ (s₁.setTop (mkF m 4 #[.val (.ref r0), .val (.ref r1)] [(.ref r1), (.int (0 : Int32)), (.ref r1), (.ref r0)]))
  obtain ⟨ce1, Ar1, S1, G1⟩ := id VC0
  have q1 : ce1.slots.size.toInt32 = (2 : Int32) := (congrArg Nat.toInt32 S1).trans (by decide)
  refine own_go (fun t_ kt_ => X0.arraylength hx (by rw [e0]; exact Ar1.1) (State.isArrayOf_alike hZ.alike Ar1.2.1) (g := (mkF m 4 #[.val (.ref r0), .val (.ref r1)] [(.ref r1), (.int (0 : Int32)), (.ref r1), (.ref r0)])) rfl rfl (hb hby d2_4) _ (by rw [q1]; exact kt_)) ?_
  show own_Go p e below s _ _ _ (s₁.setTop (mkF m 5 #[.val (.ref r0), .val (.ref r1)] [(.int (2 : Int32)), (.int (0 : Int32)), (.ref r1), (.ref r0)]))
  refine own_go (fun t_ kt_ => XS.aconstNull X0.here hx rfl (hb hby d2_5) kt_) ?_
  show own_Go p e below s _ _ _ (s₁.setTop (mkF m 6 #[.val (.ref r0), .val (.ref r1)] [.null, (.int (2 : Int32)), (.int (0 : Int32)), (.ref r1), (.ref r0)]))
  obtain ⟨_, _, ⟨T2, L2, k2, n2⟩, -, X2, ⟨Lc2, hQ2, l2, y2, z2⟩, st2⟩ := X0.specialBack hx (y := (⟨"java/lang/String", "<init>", "([CIILjava/lang/Void;)V"⟩ : MethodName)) rfl hown (mvT hZ (hw _ (List.mem_of_getElem? (i := 14) rfl))) (mvT hZ (hw _ (List.mem_of_getElem? (i := 15) rfl))) (mvT hZ (hw _ (List.mem_of_getElem? (i := 17) rfl))) (by decide) (backOf (W := 0) (rm32 l Z a0 hw [] (r0) (r1) (cf) (cs) h0 n0 Z0 E0 FC0 FV0 g0 SC0 hcs VC0 hcf) hZ (hw _ (List.mem_of_getElem? (i := 17) rfl)) (hw _ (List.mem_of_getElem? (i := 9) rfl)) (by decide) (by decide)) (g := (mkF m 6 #[.val (.ref r0), .val (.ref r1)] [.null, (.int (2 : Int32)), (.int (0 : Int32)), (.ref r1), (.ref r0)])) rfl (by rw [hml]; rfl) (Steps.refl _) (a := r0) (argsL := [(.ref r1), (.int (0 : Int32)), (.int (2 : Int32)), .null]) (rest := []) (lenOf pd_3 rfl) rfl (by show 2 * 0 + _ ≤ _; exact Nat.le_of_eq rfl) (hb hby d2_6) (fun _ _ => ⟨rfl, e0, (by decide : 0 + 1 ≤ _), (by decide : 0 + 2 ≤ _)⟩)
  dsimp only [Pt.U, Pt.locs, Pt.cells, Pt.slots] at X2 l2 y2 z2 st2 hQ2
  subst l2 y2 z2
  obtain ⟨bq, rfl, Nq2, Kq2, FCq2, FVq2, Vq2⟩ := hQ2
  have N2 := Fr.app N0 Nq2
  refine own_go (fun t_ kt_ => st2.trans kt_) ?_
  obtain ⟨lo2, X2g, N2g⟩ : ∃ lo, Stand p l e ({ frames := 3, cells := 1, slots := 2, locals := 52 } : Room) s m #[(.ref r0), (.ref r1)] below meth c T2 lo 1 2 ∧ Fr n0 lo := ⟨_, X2, N2⟩
  obtain ⟨h2, e2⟩ : ∃ z, T2.heap = z := ⟨_, rfl⟩
  rw [e2] at Kq2 FCq2 FVq2 Vq2
  have ZZ_2 : n0 ≤ h2.size := Nat.le_trans Z0 Kq2.1
  have EE_2 : Exa Z h2 r0 "java/lang/String" := E0.keep Kq2
  have K2 : Keep h0 h2 [r0] := (Keep.refl h0 [r0]).trans Kq2 (allS (Or.inl (by simp)) all0)
  show own_Go p e below s _ _ _ (T2.setTop (mkF m 9 #[.val (.ref r0), .val (.ref r1)] []))
  refine own_ret X2g (v := none) (fun _ => rfl) hlk ?_ (by decide) (by decide) (fun fs hr => X2g.returnOut hx hret (hb hby d2_9) hr)
  show Q22 Z r0 r1 cf cs h0 n0 (none) T2.heap _
  rw [e2]
  exact ⟨bq, rfl, N2g, K2, FCq2, FVq2, Vq2⟩
def own_EL : List (String × Nat) := [("java/lang/String", 7)]
theorem own_hEL {a0 : Array Value} {Z : State} (hw : ∀ d ∈ tables_1, d.before a0 Z = true) : EW Z a0 own_EL := EW.cons (hw _ (List.mem_of_getElem? (i := 37) rfl)) (fun c hc => by simp at hc) EW.nil
theorem own_memEL : (("java/lang/String", 7) : String × Nat) ∈ own_EL := List.mem_singleton.mpr rfl
def own_GoC (Z : State) (EL : List (String × Nat)) (p : Program) (e : Env) (below : List Frame) (s : State) (QQ : Option Value → Heap → List Loc → Prop) (k n : Nat) (A : State) : Prop :=
  ∃ U o, Steps p.tables e below A U ∧ U.status = .running ∧ Ended U below o ∧ ∃ v L, o = .returned v ∧ QQ v U.heap L ∧ CHr Z EL s.vm s.heap U.vm U.heap ∧ ReturnedEndW s o U L k n
theorem own_goC {Z : State} {EL : List (String × Nat)} {p : Program} {e : Env} {below : List Frame} {s : State} {QQ : Option Value → Heap → List Loc → Prop} {k n : Nat} {A B : State} (h : ∀ t, Steps p.tables e below B t → Steps p.tables e below A t) (g : own_GoC Z EL p e below s QQ k n B) : own_GoC Z EL p e below s QQ k n A := by
  obtain ⟨U, o, h1, r⟩ := g
  exact ⟨U, o, h U h1, r⟩
theorem own_retC {Z : State} {a0 : Array Value} {EL : List (String × Nat)} {h h0 : Heap} {p : Program} {l : Launch} {e : Env} {R : Room} {s : State} {vm₁ : Vm} {m : MethodId} {args : Array Value} {below : List Frame} {meth : Method} {c : Code} {T : State} {locs : List Loc} {cells slots : Nat} {QQ : Option Value → Heap → List Loc → Prop} {k n : Nat} {A : State}
    (X : Stand p l e R (s.setVm vm₁) m args below meth c T locs cells slots) {n1 : Nat} (hS : s.Since vm₁ n1) (hn1 : n1 ≤ T.heap.size) (hh : s.heap = h0) (eT : T.heap = h) (hZ : Z.Warmed39 vm₁) (hEL : EW Z a0 EL) (C : CHr Z EL s.vm h0 vm₁ h) {v : Option Value} (hv : meth.sig.returnType = none → v = none) (hlk : meth.locks = false) (hQ : QQ v T.heap locs) (hk : cells ≤ k) (hn : slots ≤ n)
    (st : ∀ fs, (∀ (f : JFrame) (acts : List Action), f.method = m → f.locked = none → f.entered = [] → (doReturn e (T.setTop f) acts v).1 = T.setFrames fs) → Steps p.tables e below A (T.setFrames fs)) : own_GoC Z EL p e below s QQ k n A := by
  obtain ⟨fs, hr, hrun, hended, hq⟩ := X.leaveW hS hn1 hv hlk
  refine ⟨_, _, st fs hr, hrun, hended, _, _, rfl, hQ, ?_, hq.1, hq.2.1, hq.2.2.1, hq.2.2.2.mono hk hn⟩
  rw [hh]
  subst eT
  have q : CHr Z EL s.vm h0 T.vm T.heap := C.trans (CHv.at X hZ hEL C.1)
  exact q
theorem own_backSH {l : Launch} {R : Room} {p : Program} {e : Env} {below : List Frame} {s Z : State} {args a0 : Array Value} {EL : List (String × Nat)} {h : Heap} {vm0 : Vm} {y : MethodName} {bytes : ByteArray} {maxL : Nat} {ret : Option FieldType} {rm : Room} {len W : Nat} {as' : Array Value} {Q : Option Value → Heap → List Loc → Prop} {ws : List Addr}
    (hM : MetFree l y (head1 [Cond.code y bytes maxL ret] rm) (fun a U => a = as' ∧ Z.Warmed39 U.vm ∧ U.heap = h ∧ CHv Z EL U.vm h ∧ ∀ x ∈ ws, Safe Z EL U.vm h x) (fun _ _ _ _ _ => True) (fun _ U o U' => ∃ v L, o = .returned v ∧ Q v U'.heap L ∧ CHr Z EL U.vm U.heap U'.vm U'.heap ∧ ReturnedEndW U o U' L rm.cells rm.slots))
    (hZ : Z.Warmed39 vm0) (wc : (Cond.code y bytes maxL ret).before a0 Z = true) (wz : (Cond.initialized y.cls).before a0 Z = true) (hf : rm.frames + 1 ≤ R.frames) (hl : W + (maxL + 11) + rm.locals ≤ R.locals) (hEL : EW Z a0 EL) (H : CHv Z EL vm0 h) (hs : ∀ x ∈ ws, x < h.size ∧ Safe Z EL vm0 h x) :
    BackS l R p e below (s.setVm vm0) args y len W (fun A a => a = as' ∧ A.U.heap = h ∧ A.cells + rm.cells ≤ R.cells ∧ A.slots + rm.slots ≤ R.slots)
      (fun A _ v B => ∃ L, Q v B.U.heap L ∧ B.locs = A.locs ++ L ∧ B.cells = A.cells + rm.cells ∧ B.slots = A.slots + rm.slots ∧ CHr Z EL vm0 h B.U.vm B.U.heap) :=
  BackS.of_freeW (bytes := bytes) (maxL := maxL) (ret := ret) (E := fun _ first o t L k n => k = rm.cells ∧ n = rm.slots ∧ (∃ v, o = .returned v ∧ Q v t.heap L) ∧ CHr Z EL first.vm first.heap t.vm t.heap) hM hf hl
    (fun m meth c A a Y hp => have hU : Z.Warmed39 A.U.vm := wtrans (s := s.setVm vm0) hZ Y.warmed
      ⟨by show (Cond.and _ .tt).before a A.U = true; rw [Cond.before_and, mv hU wc]; rfl, mv hU wc, mv hU wz, hp.2.2.1, hp.2.2.2⟩)
    (fun m meth c A a g mk Y hp => ⟨hp.1, wtrans (s := s.setVm vm0) hZ Y.warmed, hp.2.1, (CHv.at Y hZ hEL H).1, fun x hx => (CHv.at Y hZ hEL H).safe (hs x hx).1 (hs x hx).2⟩) (fun _ _ _ _ _ _ _ _ _ => trivial)
    (fun _ _ _ _ ⟨v, L, h1, h2, h3, h4⟩ => ⟨L, _, _, h4, rfl, rfl, ⟨v, h1, h2⟩, h3⟩)
    (fun m meth c A a g mk v t L k n Y hp _ _ ⟨e1, e2, ⟨v', e3, e4⟩, e5⟩ => by
      cases e3; subst e1 e2
      refine ⟨L, e4, rfl, rfl, rfl, (CHv.at Y hZ hEL H).trans ?_⟩
      rw [← hp.2.1]; exact e5)
theorem own_ary0 {Z : State} {h : Heap} {a : Addr} {k : ClassId} {d : Value} {f : Nat → Value} (A : Arv Z h a k .byte 0 [] d) : own_Ary Z h a .byte 0 f := by
  obtain ⟨c, A1, -, A3, -⟩ := A
  exact ⟨c, A1, A3, fun j hj => absurd hj (Nat.not_lt_zero j)⟩
theorem d3_8 : decode jdk_42_method_149_code 8 = .ok (.aload_n 0, 1) := by decide +kernel
theorem d3_9 : decode jdk_42_method_149_code 9 = .ok (.ldc 7, 2) := by decide +kernel
theorem d3_11 : decode jdk_42_method_149_code 11 = .ok (.getfield 9, 3) := by decide +kernel
theorem d3_14 : decode jdk_42_method_149_code 14 = .ok (.putfield 9, 3) := by decide +kernel
theorem d3_17 : decode jdk_42_method_149_code 17 = .ok (.aload_n 0, 1) := by decide +kernel
theorem d3_18 : decode jdk_42_method_149_code 18 = .ok (.ldc 7, 2) := by decide +kernel
theorem d3_20 : decode jdk_42_method_149_code 20 = .ok (.getfield 15, 3) := by decide +kernel
theorem d3_23 : decode jdk_42_method_149_code 23 = .ok (.putfield 15, 3) := by decide +kernel
theorem d3_26 : decode jdk_42_method_149_code 26 = .ok (.return_, 1) := by decide +kernel
theorem ef_3z (m : MethodId) (r0 : Addr) (r1 : Addr) : entryFrame m #[(.ref r0), (.ref r1), (.int (0 : Int32)), (.int (0 : Int32)), .null] 6 = mkF m 0 #[.val (.ref r0), .val (.ref r1), .val (.int (0 : Int32)), .val (.int (0 : Int32)), .val .null, .unset] [] := by first | (simp [entryFrame, mkF, argsToLocals, Value.category]; done) | rfl
def Q3z (Z : State) (r0 : Addr) (r1 : Addr) (h0 : Heap) (n0 : Nat) (v : Option Value) (h : Heap) (L : List Loc) : Prop := ∃ b : Addr, v = none ∧ Fr n0 L ∧ Keep h0 h [r0] ∧ Fld Z h r0 "java/lang/String" "coder" "B" (.int (0 : Int32)) ∧ Fld Z h r0 "java/lang/String" "value" "[B" (.ref b) ∧ own_Ary Z h b .byte 0 (fun _ => .null)
set_option maxRecDepth 65536 in
set_option maxHeartbeats 40000000 in
theorem rm3z (l : Launch) (Z : State) (a0 : Array Value) (hw : ∀ d ∈ tables_1, d.before a0 Z = true) (ws : List Jvm.Cond) (r0 : Addr) (r1 : Addr) (h0 : Heap) (n0 : Nat) (Z0 : n0 ≤ h0.size) (E0 : Exa Z h0 r0 "java/lang/String") (FC0 : Fld Z h0 r0 "java/lang/String" "coder" "B" (.int (0 : Int32))) (FV0 : Fld Z h0 r0 "java/lang/String" "value" "[B" .null) (g0 : n0 ≤ r0) :
    MetFree l (⟨"java/lang/String", "<init>", "([CIILjava/lang/Void;)V"⟩ : MethodName) (head1 (Jvm.Cond.code (⟨"java/lang/String", "<init>", "([CIILjava/lang/Void;)V"⟩ : MethodName) jdk_42_method_149_code 6 none :: ws) ({ frames := 1, cells := 4, slots := 8, locals := 12 } : Room)) (fun a U => a = #[(.ref r0), (.ref r1), (.int (0 : Int32)), (.int (0 : Int32)), .null] ∧ Z.Warmed39 U.vm ∧ U.heap = h0 ∧ CHv Z own_EL U.vm h0 ∧ ∀ x ∈ ([r0] : List Addr), Safe Z own_EL U.vm h0 x) (fun _ _ _ _ _ => True) (fun _ U o U' => ∃ v L, o = .returned v ∧ Q3z Z r0 r1 h0 n0 v U'.heap L ∧ CHr Z own_EL U.vm U.heap U'.vm U'.heap ∧ ReturnedEndW U o U' L (({ frames := 1, cells := 4, slots := 8, locals := 12 } : Room)).cells (({ frames := 1, cells := 4, slots := 8, locals := 12 } : Room)).slots) := by
  refine MetFree.of_bodySF (plainFor_of_name pn_1) hisR ?_
  intro p e s m args below meth c s₁ Bd hml0 hP hK
  obtain ⟨rfl, hZ, hh, CH0, SF0⟩ := hP
  have hx := Bd.exec
  have hby := Bd.bytes
  have hml : c.maxLocals = 6 := hml0
  have hown : s.vm.findClass "java/lang/String" = some m.cls := findClass_of_methodNamed Bd.named
  have hnm := (name_of_methodNamed Bd.named Bd.method).1
  have hlk : meth.locks = false := Bd.notSynchronized
  have X0 : Stand p l e ({ frames := 1, cells := 4, slots := 8, locals := 12 } : Room) s m #[(.ref r0), (.ref r1), (.int (0 : Int32)), (.int (0 : Int32)), .null] below meth c s₁ [] 0 0 := Stand.of_body Bd
  have e0 : s₁.heap = h0 := by rw [← hh, Bd.state]; rfl
  have N0 := Fr.nil n0
  have hret := Bd.returns
  show own_GoC Z own_EL p e below s (Q3z Z r0 r1 h0 n0) _ _ (s₁.setTop (entryFrame m #[(.ref r0), (.ref r1), (.int (0 : Int32)), (.int (0 : Int32)), .null] 6))
  refine own_goC (fun t k => castTop (ef_3z m r0 r1) k) ?_
  have CR0 : CHr Z own_EL s.vm h0 s.vm h0 := CHr.refl CH0
  have hS0 : s.Since s.vm n0 := (State.WarmedH.refl s).since _
  have sf_r0 := SF0 r0 (by simp)
  show own_GoC Z own_EL p e below s _ _ _ (s₁.setTop (mkF m 0 #[.val (.ref r0), .val (.ref r1), .val (.int (0 : Int32)), .val (.int (0 : Int32)), .val .null, .unset] []))
  refine own_goC (fun t_ kt_ => XS.aloadN X0.here hx rfl (hb hby d3_0) rfl rfl kt_) ?_
  show own_GoC Z own_EL p e below s _ _ _ (s₁.setTop (mkF m 1 #[.val (.ref r0), .val (.ref r1), .val (.int (0 : Int32)), .val (.int (0 : Int32)), .val .null, .unset] [(.ref r0)]))
  obtain ⟨T1, X1, e1, st1⟩ := initO X0 hx hZ hown (hw _ (List.mem_of_getElem? (i := 18) rfl)) (hw _ (List.mem_of_getElem? (i := 19) rfl)) (hw _ (List.mem_of_getElem? (i := 20) rfl)) e0 (g := (mkF m 1 #[.val (.ref r0), .val (.ref r1), .val (.int (0 : Int32)), .val (.int (0 : Int32)), .val .null, .unset] [(.ref r0)])) rfl (by rw [hml]; rfl) rfl (hb hby d3_1) (by decide) (W := 0) (by show 2 * 0 + _ ≤ _; exact Nat.le_of_eq rfl) (by decide)
  refine own_goC (fun t_ kt_ => st1 _ kt_) ?_
  show own_GoC Z own_EL p e below s _ _ _ (T1.setTop (mkF m 4 #[.val (.ref r0), .val (.ref r1), .val (.int (0 : Int32)), .val (.int (0 : Int32)), .val .null, .unset] []))
  refine own_goC (fun t_ kt_ => XS.iloadN X1.here hx rfl (hb hby d3_4) rfl kt_) ?_
  show own_GoC Z own_EL p e below s _ _ _ (T1.setTop (mkF m 5 #[.val (.ref r0), .val (.ref r1), .val (.int (0 : Int32)), .val (.int (0 : Int32)), .val .null, .unset] [(.int (0 : Int32))]))
  refine own_goC (fun t_ kt_ => XS.ifNo X1.here hx rfl (hb hby d3_5) rfl ((if0 _ _).trans (teq (by decide)).2) kt_) ?_
  show own_GoC Z own_EL p e below s _ _ _ (T1.setTop (mkF m 8 #[.val (.ref r0), .val (.ref r1), .val (.int (0 : Int32)), .val (.int (0 : Int32)), .val .null, .unset] []))
  refine own_goC (fun t_ kt_ => XS.aloadN X1.here hx rfl (hb hby d3_8) rfl rfl kt_) ?_
  show own_GoC Z own_EL p e below s _ _ _ (T1.setTop (mkF m 9 #[.val (.ref r0), .val (.ref r1), .val (.int (0 : Int32)), .val (.int (0 : Int32)), .val .null, .unset] [(.ref r0)]))
  obtain ⟨b2, T2, h2, k2, bv2, kc2, X2, e2, E2, hS2, hk2, hZ, hown, A2, FC2, FV2, AV2, -, -, CRn2, -, NE2, st2⟩ := ldcCH (s := s) (vm0 := s.vm) X1 hx hZ hown (hw _ (List.mem_of_getElem? (i := 37) rfl)) (own_str hw) e1 hS0 Z0 (own_hEL hw) own_memEL CR0.1 (vs := []) (z := 0) ⟨fun c hc => by simp at hc, by simp⟩ (by decide) rfl (g := (mkF m 9 #[.val (.ref r0), .val (.ref r1), .val (.int (0 : Int32)), .val (.int (0 : Int32)), .val .null, .unset] [(.ref r0)])) rfl (hb hby d3_9) (n := 0) (by decide) (by decide) (by decide) (by decide)
  refine own_goC (fun t_ kt_ => st2 _ kt_) ?_
  have ZZ_2 : n0 ≤ h2.size := Nat.le_trans Z0 E2.1
  have EE_2 : Exa Z h2 r0 "java/lang/String" := E0.ext E2
  have FC_2 : Fld Z h2 r0 "java/lang/String" "coder" "B" (.int (0 : Int32)) := FC0.ext E2
  have FV_2 : Fld Z h2 r0 "java/lang/String" "value" "[B" .null := FV0.ext E2
  have K2 : Keep h0 h2 [r0] := (Keep.refl h0 [r0]).ext E2
  have sf_r0_2 := CRn2.safe E0.lt sf_r0
  have CR2 : CHr Z own_EL s.vm h0 T2.vm h2 := CR0.trans (CRn2)
  have V_b2 : own_Ary Z h2 bv2 .byte 0 (fun _ => .null) := own_ary0 AV2
  show own_GoC Z own_EL p e below s _ _ _ (T2.setTop (mkF m 11 #[.val (.ref r0), .val (.ref r1), .val (.int (0 : Int32)), .val (.int (0 : Int32)), .val .null, .unset] [(.ref b2), (.ref r0)]))
  obtain ⟨T3, X3, e3, st3⟩ := getF X2 hx hZ hown (host := "") (Or.inl (hw _ (List.mem_of_getElem? (i := 35) rfl))) Via.refl e2 FV2 (g := (mkF m 11 #[.val (.ref r0), .val (.ref r1), .val (.int (0 : Int32)), .val (.int (0 : Int32)), .val .null, .unset] [(.ref b2), (.ref r0)])) rfl rfl (hb hby d3_11)
  refine own_goC (fun t_ kt_ => st3 _ kt_) ?_
  show own_GoC Z own_EL p e below s _ _ _ (T3.setTop (mkF m 14 #[.val (.ref r0), .val (.ref r1), .val (.int (0 : Int32)), .val (.int (0 : Int32)), .val .null, .unset] [(.ref bv2), (.ref r0)]))
  obtain ⟨T4, h4, X4, e4, W4, st4⟩ := putF X3 hx hZ hown (host := "") (Or.inl (hw _ (List.mem_of_getElem? (i := 35) rfl))) Via.refl e3 FV_2 EE_2 (Or.inr ⟨(hw _ (List.mem_of_getElem? (i := 36) rfl)), rfl, hnm⟩) (hw _ (List.mem_of_getElem? (i := 8) rfl)) (ty := (.array .byte)) (by decide) rfl rfl (g := (mkF m 14 #[.val (.ref r0), .val (.ref r1), .val (.int (0 : Int32)), .val (.int (0 : Int32)), .val .null, .unset] [(.ref bv2), (.ref r0)])) rfl rfl (hb hby d3_14)
  refine own_goC (fun t_ kt_ => st4 _ kt_) ?_
  have N4 := Fr.snoc X4 N0 g0
  obtain ⟨lo4, X4g, N4g⟩ : ∃ lo, Stand p l e ({ frames := 1, cells := 4, slots := 8, locals := 12 } : Room) (s.setVm T2.vm) m #[(.ref r0), (.ref r1), (.int (0 : Int32)), (.int (0 : Int32)), .null] below meth c T4 lo 2 4 ∧ Fr n0 lo := ⟨_, X4, N4⟩
  have ZZ_4 : n0 ≤ h4.size := Nat.le_trans ZZ_2 (Nat.le_of_eq W4.size.symm)
  have EE_4 : Exa Z h4 r0 "java/lang/String" := EE_2.wr W4
  have FC_4 : Fld Z h4 r0 "java/lang/String" "coder" "B" (.int (0 : Int32)) := FC_2.other W4 (Or.inr (slot_ne (Or.inr (hw _ (List.mem_of_getElem? (i := 34) rfl))) (Or.inr (hw _ (List.mem_of_getElem? (i := 36) rfl))) (by decide) (t := .byte) (t' := (.array .byte)) (by decide) (by decide)))
  have KS_4 : k2 ≤ h4.size := Nat.le_trans hk2 (Nat.le_of_eq W4.size.symm)
  have E_b2_4 : Exa Z h4 b2 "java/lang/String" := A2.wr W4
  have FC_b2_4 : Fld Z h4 b2 "java/lang/String" "coder" "B" (.int (0 : Int32)) := FC2.other W4 (Or.inl (Ne.symm (NE2 r0 sf_r0_2).1))
  have FV_b2_4 : Fld Z h4 b2 "java/lang/String" "value" "[B" (.ref bv2) := FV2.other W4 (Or.inl (Ne.symm (NE2 r0 sf_r0_2).1))
  have V_b2_4 : own_Ary Z h4 bv2 .byte 0 (fun _ => .null) := V_b2.other W4 (Ne.symm (NE2 r0 sf_r0_2).2)
  have sw4 : Safe Z own_EL T2.vm _ r0 := sf_r0_2
  have sf_r0_4 := Safe.wr W4 sw4 CR2.1 sf_r0_2
  have CR4 : CHr Z own_EL s.vm h0 T2.vm h4 := CR2.trans (CHr.wr W4 sw4 CR2.1)
  have FV_4 : Fld Z h4 r0 "java/lang/String" "value" "[B" (.ref bv2) := FV_2.same W4
  have K4 : Keep h0 h4 [r0] := K2.wr W4 (Or.inl (by simp))
  show own_GoC Z own_EL p e below s _ _ _ (T4.setTop (mkF m 17 #[.val (.ref r0), .val (.ref r1), .val (.int (0 : Int32)), .val (.int (0 : Int32)), .val .null, .unset] []))
  refine own_goC (fun t_ kt_ => XS.aloadN X4g.here hx rfl (hb hby d3_17) rfl rfl kt_) ?_
  show own_GoC Z own_EL p e below s _ _ _ (T4.setTop (mkF m 18 #[.val (.ref r0), .val (.ref r1), .val (.int (0 : Int32)), .val (.int (0 : Int32)), .val .null, .unset] [(.ref r0)]))
  obtain ⟨b5, T5, h5, k5, bv5, kc5, X5, e5, E5, hS5, hk5, hZ, hown, A5, FC5, FV5, AV5, -, -, CRn5, -, NE5, st5⟩ := ldcCH (s := s) (vm0 := T2.vm) X4g hx hZ hown (hw _ (List.mem_of_getElem? (i := 37) rfl)) (own_str hw) e4 hS2 KS_4 (own_hEL hw) own_memEL CR4.1 (vs := []) (z := 0) ⟨fun c hc => by simp at hc, by simp⟩ (by decide) rfl (g := (mkF m 18 #[.val (.ref r0), .val (.ref r1), .val (.int (0 : Int32)), .val (.int (0 : Int32)), .val .null, .unset] [(.ref r0)])) rfl (hb hby d3_18) (n := 0) (by decide) (by decide) (by decide) (by decide)
  refine own_goC (fun t_ kt_ => st5 _ kt_) ?_
  have ZZ_5 : n0 ≤ h5.size := Nat.le_trans ZZ_4 E5.1
  have EE_5 : Exa Z h5 r0 "java/lang/String" := EE_4.ext E5
  have FC_5 : Fld Z h5 r0 "java/lang/String" "coder" "B" (.int (0 : Int32)) := FC_4.ext E5
  have FV_5 : Fld Z h5 r0 "java/lang/String" "value" "[B" (.ref bv2) := FV_4.ext E5
  have E_b2_5 : Exa Z h5 b2 "java/lang/String" := E_b2_4.ext E5
  have FC_b2_5 : Fld Z h5 b2 "java/lang/String" "coder" "B" (.int (0 : Int32)) := FC_b2_4.ext E5
  have FV_b2_5 : Fld Z h5 b2 "java/lang/String" "value" "[B" (.ref bv2) := FV_b2_4.ext E5
  have V_b2_5 : own_Ary Z h5 bv2 .byte 0 (fun _ => .null) := V_b2_4.ext E5
  have K5 : Keep h0 h5 [r0] := K4.ext E5
  have sf_r0_5 := CRn5.safe EE_4.lt sf_r0_4
  have CR5 : CHr Z own_EL s.vm h0 T5.vm h5 := CR4.trans (CRn5)
  have V_b5 : own_Ary Z h5 bv5 .byte 0 (fun _ => .null) := own_ary0 AV5
  show own_GoC Z own_EL p e below s _ _ _ (T5.setTop (mkF m 20 #[.val (.ref r0), .val (.ref r1), .val (.int (0 : Int32)), .val (.int (0 : Int32)), .val .null, .unset] [(.ref b5), (.ref r0)]))
  obtain ⟨T6, X6, e6, st6⟩ := getF X5 hx hZ hown (host := "") (Or.inl (hw _ (List.mem_of_getElem? (i := 33) rfl))) Via.refl e5 FC5 (g := (mkF m 20 #[.val (.ref r0), .val (.ref r1), .val (.int (0 : Int32)), .val (.int (0 : Int32)), .val .null, .unset] [(.ref b5), (.ref r0)])) rfl rfl (hb hby d3_20)
  refine own_goC (fun t_ kt_ => st6 _ kt_) ?_
  show own_GoC Z own_EL p e below s _ _ _ (T6.setTop (mkF m 23 #[.val (.ref r0), .val (.ref r1), .val (.int (0 : Int32)), .val (.int (0 : Int32)), .val .null, .unset] [(.int (0 : Int32)), (.ref r0)]))
  obtain ⟨T7, h7, X7, e7, W7, st7⟩ := putFN X6 hx hZ hown (hw _ (List.mem_of_getElem? (i := 33) rfl)) Via.refl e6 FC_5 EE_5 (Or.inr ⟨(hw _ (List.mem_of_getElem? (i := 34) rfl)), rfl, hnm⟩) (hw _ (List.mem_of_getElem? (i := 8) rfl)) (ty := .byte) (v' := (.int (0 : Int32))) (by decide) rfl rfl (g := (mkF m 23 #[.val (.ref r0), .val (.ref r1), .val (.int (0 : Int32)), .val (.int (0 : Int32)), .val .null, .unset] [(.int (0 : Int32)), (.ref r0)])) rfl rfl (hb hby d3_23)
  refine own_goC (fun t_ kt_ => st7 _ kt_) ?_
  have N7 := Fr.snoc X7 N4g g0
  obtain ⟨lo7, X7g, N7g⟩ : ∃ lo, Stand p l e ({ frames := 1, cells := 4, slots := 8, locals := 12 } : Room) (s.setVm T5.vm) m #[(.ref r0), (.ref r1), (.int (0 : Int32)), (.int (0 : Int32)), .null] below meth c T7 lo 4 8 ∧ Fr n0 lo := ⟨_, X7, N7⟩
  have ZZ_7 : n0 ≤ h7.size := Nat.le_trans ZZ_5 (Nat.le_of_eq W7.size.symm)
  have EE_7 : Exa Z h7 r0 "java/lang/String" := EE_5.wr W7
  have FV_7 : Fld Z h7 r0 "java/lang/String" "value" "[B" (.ref bv2) := FV_5.other W7 (Or.inr (slot_ne (Or.inr (hw _ (List.mem_of_getElem? (i := 36) rfl))) (Or.inr (hw _ (List.mem_of_getElem? (i := 34) rfl))) (by decide) (t := (.array .byte)) (t' := .byte) (by decide) (by decide)))
  have E_b2_7 : Exa Z h7 b2 "java/lang/String" := E_b2_5.wr W7
  have FC_b2_7 : Fld Z h7 b2 "java/lang/String" "coder" "B" (.int (0 : Int32)) := FC_b2_5.other W7 (Or.inl (Ne.symm (NE2 r0 sf_r0_2).1))
  have FV_b2_7 : Fld Z h7 b2 "java/lang/String" "value" "[B" (.ref bv2) := FV_b2_5.other W7 (Or.inl (Ne.symm (NE2 r0 sf_r0_2).1))
  have V_b2_7 : own_Ary Z h7 bv2 .byte 0 (fun _ => .null) := V_b2_5.other W7 (Ne.symm (NE2 r0 sf_r0_2).2)
  have KS_7 : k5 ≤ h7.size := Nat.le_trans hk5 (Nat.le_of_eq W7.size.symm)
  have E_b5_7 : Exa Z h7 b5 "java/lang/String" := A5.wr W7
  have FC_b5_7 : Fld Z h7 b5 "java/lang/String" "coder" "B" (.int (0 : Int32)) := FC5.other W7 (Or.inl (Ne.symm (NE5 r0 sf_r0_5).1))
  have FV_b5_7 : Fld Z h7 b5 "java/lang/String" "value" "[B" (.ref bv5) := FV5.other W7 (Or.inl (Ne.symm (NE5 r0 sf_r0_5).1))
  have V_b5_7 : own_Ary Z h7 bv5 .byte 0 (fun _ => .null) := V_b5.other W7 (Ne.symm (NE5 r0 sf_r0_5).2)
  have sw7 : Safe Z own_EL T5.vm _ r0 := sf_r0_5
  have sf_r0_7 := Safe.wr W7 sw7 CR5.1 sf_r0_5
  have CR7 : CHr Z own_EL s.vm h0 T5.vm h7 := CR5.trans (CHr.wr W7 sw7 CR5.1)
  have FC_7 : Fld Z h7 r0 "java/lang/String" "coder" "B" (.int (0 : Int32)) := FC_5.same W7
  have K7 : Keep h0 h7 [r0] := K5.wr W7 (Or.inl (by simp))
  show own_GoC Z own_EL p e below s _ _ _ (T7.setTop (mkF m 26 #[.val (.ref r0), .val (.ref r1), .val (.int (0 : Int32)), .val (.int (0 : Int32)), .val .null, .unset] []))
  refine own_retC (vm₁ := T5.vm) X7g hS5 (by rw [e7]; exact KS_7) hh e7 hZ (own_hEL hw) CR7 (v := none) (fun _ => rfl) hlk ?_ (by decide) (by decide) (fun fs hr => X7g.returnOut hx hret (hb hby d3_26) hr)
  show Q3z Z r0 r1 h0 n0 (none) T7.heap _
  rw [e7]
  exact ⟨bv2, rfl, N7g, K7, FC_7, FV_7, V_b2_7⟩
theorem ef_2z (m : MethodId) (r0 : Addr) (r1 : Addr) : entryFrame m #[(.ref r0), (.ref r1)] 2 = mkF m 0 #[.val (.ref r0), .val (.ref r1)] [] := by first | (simp [entryFrame, mkF, argsToLocals, Value.category]; done) | rfl
def Q2z (Z : State) (r0 : Addr) (r1 : Addr) (fc : Nat → Value) (h0 : Heap) (n0 : Nat) (v : Option Value) (h : Heap) (L : List Loc) : Prop := ∃ b : Addr, v = none ∧ Fr n0 L ∧ Keep h0 h [r0] ∧ Fld Z h r0 "java/lang/String" "coder" "B" (.int (0 : Int32)) ∧ Fld Z h r0 "java/lang/String" "value" "[B" (.ref b) ∧ own_Ary Z h b .byte 0 (fun _ => .null)
set_option maxRecDepth 65536 in
set_option maxHeartbeats 40000000 in
theorem rm2z (l : Launch) (Z : State) (a0 : Array Value) (hw : ∀ d ∈ tables_1, d.before a0 Z = true) (ws : List Jvm.Cond) (r0 : Addr) (r1 : Addr) (fc : Nat → Value) (h0 : Heap) (n0 : Nat) (Z0 : n0 ≤ h0.size) (E0 : Exa Z h0 r0 "java/lang/String") (FC0 : Fld Z h0 r0 "java/lang/String" "coder" "B" (.int (0 : Int32))) (FV0 : Fld Z h0 r0 "java/lang/String" "value" "[B" .null) (g0 : n0 ≤ r0) (VC0 : own_Ary Z h0 r1 .char 0 fc) :
    MetFree l (⟨"java/lang/String", "<init>", "([C)V"⟩ : MethodName) (head1 (Jvm.Cond.code (⟨"java/lang/String", "<init>", "([C)V"⟩ : MethodName) jdk_42_method_3_code 2 none :: ws) ({ frames := 2, cells := 4, slots := 8, locals := 29 } : Room)) (fun a U => a = #[(.ref r0), (.ref r1)] ∧ Z.Warmed39 U.vm ∧ U.heap = h0 ∧ CHv Z own_EL U.vm h0 ∧ ∀ x ∈ ([r0] : List Addr), Safe Z own_EL U.vm h0 x) (fun _ _ _ _ _ => True) (fun _ U o U' => ∃ v L, o = .returned v ∧ Q2z Z r0 r1 fc h0 n0 v U'.heap L ∧ CHr Z own_EL U.vm U.heap U'.vm U'.heap ∧ ReturnedEndW U o U' L (({ frames := 2, cells := 4, slots := 8, locals := 29 } : Room)).cells (({ frames := 2, cells := 4, slots := 8, locals := 29 } : Room)).slots) := by
  refine MetFree.of_bodySF (plainFor_of_name pn_1) hisR ?_
  intro p e s m args below meth c s₁ Bd hml0 hP hK
  obtain ⟨rfl, hZ, hh, CH0, SF0⟩ := hP
  have hx := Bd.exec
  have hby := Bd.bytes
  have hml : c.maxLocals = 2 := hml0
  have hown : s.vm.findClass "java/lang/String" = some m.cls := findClass_of_methodNamed Bd.named
  have hnm := (name_of_methodNamed Bd.named Bd.method).1
  have hlk : meth.locks = false := Bd.notSynchronized
  have X0 : Stand p l e ({ frames := 2, cells := 4, slots := 8, locals := 29 } : Room) s m #[(.ref r0), (.ref r1)] below meth c s₁ [] 0 0 := Stand.of_body Bd
  have e0 : s₁.heap = h0 := by rw [← hh, Bd.state]; rfl
  have N0 := Fr.nil n0
  have hret := Bd.returns
  show own_GoC Z own_EL p e below s (Q2z Z r0 r1 fc h0 n0) _ _ (s₁.setTop (entryFrame m #[(.ref r0), (.ref r1)] 2))
  refine own_goC (fun t k => castTop (ef_2z m r0 r1) k) ?_
  have CR0 : CHr Z own_EL s.vm h0 s.vm h0 := CHr.refl CH0
  have hS0 : s.Since s.vm n0 := (State.WarmedH.refl s).since _
  have sf_r0 := SF0 r0 (by simp)
  show own_GoC Z own_EL p e below s _ _ _ (s₁.setTop (mkF m 0 #[.val (.ref r0), .val (.ref r1)] []))
  refine own_goC (fun t_ kt_ => XS.aloadN X0.here hx rfl (hb hby d2_0) rfl rfl kt_) ?_
  show own_GoC Z own_EL p e below s _ _ _ (s₁.setTop (mkF m 1 #[.val (.ref r0), .val (.ref r1)] [(.ref r0)]))
  refine own_goC (fun t_ kt_ => XS.aloadN X0.here hx rfl (hb hby d2_1) rfl rfl kt_) ?_
  show own_GoC Z own_EL p e below s _ _ _ (s₁.setTop (mkF m 2 #[.val (.ref r0), .val (.ref r1)] [(.ref r1), (.ref r0)]))
  refine own_goC (fun t_ kt_ => XS.iconst X0.here hx rfl (hb hby d2_2) kt_) ?_
  show own_GoC Z own_EL p e below s _ _ _ (s₁.setTop (mkF m 3 #[.val (.ref r0), .val (.ref r1)] [(.int (0 : Int32)), (.ref r1), (.ref r0)]))
  refine own_goC (fun t_ kt_ => XS.aloadN X0.here hx rfl (hb hby d2_3) rfl rfl kt_) ?_
  show own_GoC Z own_EL p e below s _ _ _ (s₁.setTop (mkF m 4 #[.val (.ref r0), .val (.ref r1)] [(.ref r1), (.int (0 : Int32)), (.ref r1), (.ref r0)]))
  obtain ⟨ce1, Ar1, S1, G1⟩ := id VC0
  have q1 : ce1.slots.size.toInt32 = (0 : Int32) := (congrArg Nat.toInt32 S1).trans (by decide)
  refine own_goC (fun t_ kt_ => X0.arraylength hx (by rw [e0]; exact Ar1.1) (State.isArrayOf_alike hZ.alike Ar1.2.1) (g := (mkF m 4 #[.val (.ref r0), .val (.ref r1)] [(.ref r1), (.int (0 : Int32)), (.ref r1), (.ref r0)])) rfl rfl (hb hby d2_4) _ (by rw [q1]; exact kt_)) ?_
  show own_GoC Z own_EL p e below s _ _ _ (s₁.setTop (mkF m 5 #[.val (.ref r0), .val (.ref r1)] [(.int (0 : Int32)), (.int (0 : Int32)), (.ref r1), (.ref r0)]))
  refine own_goC (fun t_ kt_ => XS.aconstNull X0.here hx rfl (hb hby d2_5) kt_) ?_
  show own_GoC Z own_EL p e below s _ _ _ (s₁.setTop (mkF m 6 #[.val (.ref r0), .val (.ref r1)] [.null, (.int (0 : Int32)), (.int (0 : Int32)), (.ref r1), (.ref r0)]))
  obtain ⟨_, _, ⟨T2, L2, k2, n2⟩, -, X2, hSn2, hgn2, ⟨Lc2, hQ2, l2, y2, z2, CRn2⟩, st2⟩ := X0.specialBackS hx (y := (⟨"java/lang/String", "<init>", "([CIILjava/lang/Void;)V"⟩ : MethodName)) rfl hown (mvT hZ (hw _ (List.mem_of_getElem? (i := 14) rfl))) (mvT hZ (hw _ (List.mem_of_getElem? (i := 15) rfl))) (mvT hZ (hw _ (List.mem_of_getElem? (i := 17) rfl))) (by decide) (own_backSH (s := s) (vm0 := s.vm) (W := 0) (rm3z l Z a0 hw [] (r0) (r1) h0 n0 Z0 E0 FC0 FV0 g0) hZ (hw _ (List.mem_of_getElem? (i := 17) rfl)) (hw _ (List.mem_of_getElem? (i := 9) rfl)) (by decide) (by decide) (own_hEL hw) CR0.1 (fun x hx => by cases List.mem_singleton.mp hx; exact ⟨E0.lt, sf_r0⟩)) (g := (mkF m 6 #[.val (.ref r0), .val (.ref r1)] [.null, (.int (0 : Int32)), (.int (0 : Int32)), (.ref r1), (.ref r0)])) rfl (by rw [hml]; rfl) (Steps.refl _) (a := r0) (argsL := [(.ref r1), (.int (0 : Int32)), (.int (0 : Int32)), .null]) (rest := []) (lenOf pd_3 rfl) rfl (by show 2 * 0 + _ ≤ _; exact Nat.le_of_eq rfl) (hb hby d2_6) (fun _ _ => ⟨rfl, e0, (by decide : 0 + 4 ≤ _), (by decide : 0 + 8 ≤ _)⟩)
  dsimp only [Pt.U, Pt.locs, Pt.cells, Pt.slots] at X2 l2 y2 z2 st2 hQ2 hSn2 hgn2 CRn2
  subst l2 y2 z2
  obtain ⟨bq, rfl, Nq2, Kq2, FCq2, FVq2, Vq2⟩ := hQ2
  have N2 := Fr.app N0 Nq2
  refine own_goC (fun t_ kt_ => st2.trans kt_) ?_
  rw [e0] at hgn2
  have hS2 : s.Since T2.vm T2.heap.size := hS0.trans hSn2 (Nat.le_trans Z0 hgn2)
  have hZ : Z.Warmed39 (s.setVm T2.vm).vm := State.Warmed39.trans (t := s) hZ hSn2.1
  have hown : (s.setVm T2.vm).vm.findClass "java/lang/String" = some m.cls := by rw [show (s.setVm T2.vm).vm = T2.vm from rfl, hSn2.1.alike.findClass]; exact hown
  obtain ⟨lo2, X2g, N2g⟩ : ∃ lo, Stand p l e ({ frames := 2, cells := 4, slots := 8, locals := 29 } : Room) (s.setVm T2.vm) m #[(.ref r0), (.ref r1)] below meth c T2 lo 4 8 ∧ Fr n0 lo := ⟨_, X2, N2⟩
  obtain ⟨h2, e2⟩ : ∃ z, T2.heap = z := ⟨_, rfl⟩
  rw [e2] at Kq2 FCq2 FVq2 Vq2
  rw [e2] at hS2 CRn2
  have ZZ_2 : n0 ≤ h2.size := Nat.le_trans Z0 Kq2.1
  have EE_2 : Exa Z h2 r0 "java/lang/String" := E0.keep Kq2
  have sf_r0_2 := CRn2.safe E0.lt sf_r0
  have CR2 : CHr Z own_EL s.vm h0 T2.vm h2 := CR0.trans (CRn2)
  have hk2 : h2.size ≤ h2.size := Nat.le_refl _
  have K2 : Keep h0 h2 [r0] := (Keep.refl h0 [r0]).trans Kq2 (allS (Or.inl (by simp)) all0)
  show own_GoC Z own_EL p e below s _ _ _ (T2.setTop (mkF m 9 #[.val (.ref r0), .val (.ref r1)] []))
  refine own_retC (vm₁ := T2.vm) X2g hS2 (by rw [e2]; exact hk2) hh e2 hZ (own_hEL hw) CR2 (v := none) (fun _ => rfl) hlk ?_ (by decide) (by decide) (fun fs hr => X2g.returnOut hx hret (hb hby d2_9) hr)
  show Q2z Z r0 r1 fc h0 n0 (none) T2.heap _
  rw [e2]
  exact ⟨bq, rfl, N2g, K2, FCq2, FVq2, Vq2⟩
def own_n (p : Int32) : Nat := if p = 0 then 0 else if p = 1 then 1 else 2
def own_cc (x y : Int32) (j : Nat) : Int32 := if j = 0 then x else y
theorem own_sta_keepN {Z : State} {h h' : Heap} {C m d : String} {v : Value} {a : Addr} {K : String} (F : Sta Z h C m d v) (Kp : Keep h h' [a]) (E : Exa Z h a K) : Sta Z h' C m d v := by
  obtain ⟨cf, i, k, g, st, cell, h1, h2, h3, h4, h5, h6, r⟩ := F
  refine ⟨cf, i, k, g, st, cell, h1, h2, h3, h4, Kp.2.1 _ _ h5 (ninS (fun e => ?_) nin0), h6, r⟩
  obtain ⟨c2, k2, e1, -, -, e4, -⟩ := E
  rw [← e] at e1
  cases h5.symm.trans e1
  rw [h6] at e4
  cases e4
theorem pn_2 : plainName "com/example/lint_for_clocks/lintforclocks/model/TokenIsPinLaw" = true := by first | (simp [plainName, overriddenIn]; done) | decide +kernel
theorem d1_0 : decode method_2_code 0 = .ok (.iload_n 0, 1) := by decide +kernel
theorem d1_1 : decode method_2_code 1 = .ok (.ifCond .ne 14, 3) := by decide +kernel
theorem d1_4 : decode method_2_code 4 = .ok (.new 7, 3) := by decide +kernel
theorem d1_7 : decode method_2_code 7 = .ok (.dup, 1) := by decide +kernel
theorem d1_8 : decode method_2_code 8 = .ok (.iconst 0, 1) := by decide +kernel
theorem d1_9 : decode method_2_code 9 = .ok (.newarray .char, 2) := by decide +kernel
theorem d1_11 : decode method_2_code 11 = .ok (.invokespecial 9, 3) := by decide +kernel
theorem pd_4 : parseMethodDescriptor "([C)V" = some ⟨[(.array .char)], none⟩ := by decide +kernel
theorem d1_14 : decode method_2_code 14 = .ok (.areturn, 1) := by decide +kernel
theorem d1_15 : decode method_2_code 15 = .ok (.iload_n 0, 1) := by decide +kernel
theorem d1_16 : decode method_2_code 16 = .ok (.iconst 1, 1) := by decide +kernel
theorem d1_17 : decode method_2_code 17 = .ok (.if_icmp .ne 18, 3) := by decide +kernel
theorem d1_20 : decode method_2_code 20 = .ok (.new 7, 3) := by decide +kernel
theorem d1_23 : decode method_2_code 23 = .ok (.dup, 1) := by decide +kernel
theorem d1_24 : decode method_2_code 24 = .ok (.iconst 1, 1) := by decide +kernel
theorem d1_25 : decode method_2_code 25 = .ok (.newarray .char, 2) := by decide +kernel
theorem d1_27 : decode method_2_code 27 = .ok (.dup, 1) := by decide +kernel
theorem d1_28 : decode method_2_code 28 = .ok (.iconst 0, 1) := by decide +kernel
theorem d1_29 : decode method_2_code 29 = .ok (.iload_n 1, 1) := by decide +kernel
theorem d1_30 : decode method_2_code 30 = .ok (.castore, 1) := by decide +kernel
theorem d1_31 : decode method_2_code 31 = .ok (.invokespecial 9, 3) := by decide +kernel
theorem d1_34 : decode method_2_code 34 = .ok (.areturn, 1) := by decide +kernel
theorem d1_35 : decode method_2_code 35 = .ok (.new 7, 3) := by decide +kernel
theorem d1_38 : decode method_2_code 38 = .ok (.dup, 1) := by decide +kernel
theorem d1_39 : decode method_2_code 39 = .ok (.iconst 2, 1) := by decide +kernel
theorem d1_40 : decode method_2_code 40 = .ok (.newarray .char, 2) := by decide +kernel
theorem d1_42 : decode method_2_code 42 = .ok (.dup, 1) := by decide +kernel
theorem d1_43 : decode method_2_code 43 = .ok (.iconst 0, 1) := by decide +kernel
theorem d1_44 : decode method_2_code 44 = .ok (.iload_n 1, 1) := by decide +kernel
theorem d1_45 : decode method_2_code 45 = .ok (.castore, 1) := by decide +kernel
theorem d1_46 : decode method_2_code 46 = .ok (.dup, 1) := by decide +kernel
theorem d1_47 : decode method_2_code 47 = .ok (.iconst 1, 1) := by decide +kernel
theorem d1_48 : decode method_2_code 48 = .ok (.iload_n 2, 1) := by decide +kernel
theorem d1_49 : decode method_2_code 49 = .ok (.castore, 1) := by decide +kernel
theorem d1_50 : decode method_2_code 50 = .ok (.invokespecial 9, 3) := by decide +kernel
theorem d1_53 : decode method_2_code 53 = .ok (.areturn, 1) := by decide +kernel
theorem ef_1 (m : MethodId) (p0 : Int32) (p1 : Int32) (p2 : Int32) : entryFrame m #[(.int p0), (.int p1), (.int p2)] 3 = mkF m 0 #[.val (.int p0), .val (.int p1), .val (.int p2)] [] := by first | (simp [entryFrame, mkF, argsToLocals, Value.category]; done) | rfl
def Q1 (Z : State) (p0 : Int32) (p1 : Int32) (p2 : Int32) (cs : Int32) (h0 : Heap) (n0 : Nat) (v : Option Value) (h : Heap) (L : List Loc) : Prop := ∃ sr b : Addr, v = some (.ref sr) ∧ Fr n0 L ∧ Keep h0 h [] ∧ n0 ≤ sr ∧ h0.size ≤ sr ∧ Exa Z h sr "java/lang/String" ∧ Fld Z h sr "java/lang/String" "coder" "B" (.int (0 : Int32)) ∧ Fld Z h sr "java/lang/String" "value" "[B" (.ref b) ∧ own_Ary Z h b .byte (own_n p0) (fun j => .int (own_y (own_cc p1 p2 j)))
set_option maxRecDepth 65536 in
set_option maxHeartbeats 40000000 in
theorem rm1 (l : Launch) (Z : State) (a0 : Array Value) (hw : ∀ d ∈ tables_1, d.before a0 Z = true) (ws : List Jvm.Cond) (p0 : Int32) (p1 : Int32) (p2 : Int32) (cs : Int32) (h0 : Heap) (n0 : Nat) (Z0 : n0 ≤ h0.size) (SC0 : Sta Z h0 "java/lang/String" "COMPACT_STRINGS" "Z" (.int cs)) (hcs : ¬ cs = (0 : Int32)) (hp1 : 0 ≤ p1.toInt ∧ p1.toInt ≤ 255) (hp2 : 0 ≤ p2.toInt ∧ p2.toInt ≤ 255) :
    MetFree l (⟨"com/example/lint_for_clocks/lintforclocks/model/TokenIsPinLaw", "mk", "(ICC)Ljava/lang/String;"⟩ : MethodName) (head1 (Jvm.Cond.code (⟨"com/example/lint_for_clocks/lintforclocks/model/TokenIsPinLaw", "mk", "(ICC)Ljava/lang/String;"⟩ : MethodName) method_2_code 3 (some (.object "java/lang/String")) :: ws) ({ frames := 4, cells := 6, slots := 12, locals := 66 } : Room)) (fun a U => a = #[(.int p0), (.int p1), (.int p2)] ∧ Z.Warmed39 U.vm ∧ U.heap = h0 ∧ CHv Z own_EL U.vm h0 ∧ ∀ x ∈ ([] : List Addr), Safe Z own_EL U.vm h0 x) (fun _ _ _ _ _ => True) (fun _ U o U' => ∃ v L, o = .returned v ∧ Q1 Z p0 p1 p2 cs h0 n0 v U'.heap L ∧ CHr Z own_EL U.vm U.heap U'.vm U'.heap ∧ ReturnedEndW U o U' L (({ frames := 4, cells := 6, slots := 12, locals := 66 } : Room)).cells (({ frames := 4, cells := 6, slots := 12, locals := 66 } : Room)).slots) := by
  refine MetFree.of_bodySF (plainFor_of_name pn_2) hisR ?_
  intro p e s m args below meth c s₁ Bd hml0 hP hK
  obtain ⟨rfl, hZ, hh, CH0, SF0⟩ := hP
  have hx := Bd.exec
  have hby := Bd.bytes
  have hml : c.maxLocals = 3 := hml0
  have hown : s.vm.findClass "com/example/lint_for_clocks/lintforclocks/model/TokenIsPinLaw" = some m.cls := findClass_of_methodNamed Bd.named
  have hnm := (name_of_methodNamed Bd.named Bd.method).1
  have hlk : meth.locks = false := Bd.notSynchronized
  have X0 : Stand p l e ({ frames := 4, cells := 6, slots := 12, locals := 66 } : Room) s m #[(.int p0), (.int p1), (.int p2)] below meth c s₁ [] 0 0 := Stand.of_body Bd
  have e0 : s₁.heap = h0 := by rw [← hh, Bd.state]; rfl
  have N0 := Fr.nil n0
  have hret := Bd.returns
  show own_GoC Z own_EL p e below s (Q1 Z p0 p1 p2 cs h0 n0) _ _ (s₁.setTop (entryFrame m #[(.int p0), (.int p1), (.int p2)] 3))
  refine own_goC (fun t k => castTop (ef_1 m p0 p1 p2) k) ?_
  have CR0 : CHr Z own_EL s.vm h0 s.vm h0 := CHr.refl CH0
  have hS0 : s.Since s.vm n0 := (State.WarmedH.refl s).since _
  show own_GoC Z own_EL p e below s _ _ _ (s₁.setTop (mkF m 0 #[.val (.int p0), .val (.int p1), .val (.int p2)] []))
  refine own_goC (fun t_ kt_ => XS.iloadN X0.here hx rfl (hb hby d1_0) rfl kt_) ?_
  show own_GoC Z own_EL p e below s _ _ _ (s₁.setTop (mkF m 1 #[.val (.int p0), .val (.int p1), .val (.int p2)] [(.int p0)]))
  by_cases hc1 : p0 = (0 : Int32)
  · skip
    have hi1 : p0.toInt = 0 := congrArg Int32.toInt hc1
    refine own_goC (fun t_ kt_ => XS.ifNo X0.here hx rfl (hb hby d1_1) rfl ((if0 _ _).trans (teq hc1).2) kt_) ?_
    show own_GoC Z own_EL p e below s _ _ _ (s₁.setTop (mkF m 4 #[.val (.int p0), .val (.int p1), .val (.int p2)] []))
    obtain ⟨T1, h1, X1, e1, E1, A1, D1, U1, st1⟩ := newO X0 hx hZ hown (hw _ (List.mem_of_getElem? (i := 7) rfl)) (hw _ (List.mem_of_getElem? (i := 8) rfl)) (hw _ (List.mem_of_getElem? (i := 9) rfl)) e0 (g := (mkF m 4 #[.val (.int p0), .val (.int p1), .val (.int p2)] [])) rfl (hb hby d1_4) (by decide) (by decide)
    obtain ⟨sr, g1⟩ : ∃ z, z = h0.size := ⟨_, rfl⟩
    rw [← g1] at A1 D1 U1 st1
    refine own_goC (fun t_ kt_ => st1 _ kt_) ?_
    have gt_sr : n0 ≤ sr := Nat.le_trans Z0 (Nat.le_of_eq g1.symm)
    have sz_sr : h0.size ≤ sr := Nat.le_trans (Keep.refl h0 []).1 (Nat.le_of_eq g1.symm)
    have ZZ_1 : n0 ≤ h1.size := Nat.le_trans Z0 E1.1
    have S_COMPACT_STRINGS_1 : Sta Z h1 "java/lang/String" "COMPACT_STRINGS" "Z" (.int cs) := SC0.ext E1
    have KS_1 : n0 ≤ h1.size := Nat.le_trans Z0 E1.1
    have CR1 : CHr Z own_EL s.vm h0 s.vm h1 := CR0.trans (CHr.ext E1 CR0.1)
    have K1 : Keep h0 h1 [] := (Keep.refl h0 []).ext E1
    have F_coder_sr : Fld Z h1 sr "java/lang/String" "coder" "B" (.int (0 : Int32)) := D1 (Or.inr (hw _ (List.mem_of_getElem? (i := 34) rfl))) (ty := .byte) (by decide)
    have F_value_sr : Fld Z h1 sr "java/lang/String" "value" "[B" .null := D1 (Or.inr (hw _ (List.mem_of_getElem? (i := 36) rfl))) (ty := (.array .byte)) (by decide)
    show own_GoC Z own_EL p e below s _ _ _ (T1.setTop (mkF m 7 #[.val (.int p0), .val (.int p1), .val (.int p2)] [(.ref sr)]))
    have sf_sr : Safe Z own_EL s.vm h1 sr := Safe.ext E1 CR0.1 (Safe.new (Nat.le_of_eq g1.symm))
    refine own_goC (fun t_ kt_ => XS.dup X1.here hx rfl (hb hby d1_7) rfl rfl kt_) ?_
    show own_GoC Z own_EL p e below s _ _ _ (T1.setTop (mkF m 8 #[.val (.int p0), .val (.int p1), .val (.int p2)] [(.ref sr), (.ref sr)]))
    refine own_goC (fun t_ kt_ => XS.iconst X1.here hx rfl (hb hby d1_8) kt_) ?_
    show own_GoC Z own_EL p e below s _ _ _ (T1.setTop (mkF m 9 #[.val (.int p0), .val (.int p1), .val (.int p2)] [(.int (0 : Int32)), (.ref sr), (.ref sr)]))
    obtain ⟨T2, h2, k2, X2, e2, E2, A2, st2⟩ := newP X1 hx hZ (hw _ (List.mem_of_getElem? (i := 10) rfl)) e1 (g := (mkF m 9 #[.val (.int p0), .val (.int p1), .val (.int p2)] [(.int (0 : Int32)), (.ref sr), (.ref sr)])) rfl (hb hby d1_9) rfl (by decide) (cap := 0) (by decide) (by decide) (by decide) (by decide)
    obtain ⟨ca, g2⟩ : ∃ z, z = h1.size := ⟨_, rfl⟩
    rw [← g2] at A2 st2
    refine own_goC (fun t_ kt_ => st2 _ kt_) ?_
    have gt_ca : n0 ≤ ca := Nat.le_trans ZZ_1 (Nat.le_of_eq g2.symm)
    have ne_sr_ca : sr ≠ ca := Nat.ne_of_lt (Nat.lt_of_lt_of_le A1.lt (Nat.le_of_eq g2.symm))
    have sz_ca : h0.size ≤ ca := Nat.le_trans K1.1 (Nat.le_of_eq g2.symm)
    have ZZ_2 : n0 ≤ h2.size := Nat.le_trans ZZ_1 E2.1
    have S_COMPACT_STRINGS_2 : Sta Z h2 "java/lang/String" "COMPACT_STRINGS" "Z" (.int cs) := S_COMPACT_STRINGS_1.ext E2
    have KS_2 : n0 ≤ h2.size := Nat.le_trans KS_1 E2.1
    have E_sr_2 : Exa Z h2 sr "java/lang/String" := A1.ext E2
    have F_coder_sr_2 : Fld Z h2 sr "java/lang/String" "coder" "B" (.int (0 : Int32)) := F_coder_sr.ext E2
    have F_value_sr_2 : Fld Z h2 sr "java/lang/String" "value" "[B" .null := F_value_sr.ext E2
    have sf_sr_2 := Safe.ext E2 CR1.1 sf_sr
    have CR2 : CHr Z own_EL s.vm h0 s.vm h2 := CR1.trans (CHr.ext E2 CR1.1)
    have K2 : Keep h0 h2 [] := K1.ext E2
    have V_ca : own_Ary Z h2 ca .char 0 (fun _ => (.int (0 : Int32))) := own_Ary.new A2 (by decide)
    show own_GoC Z own_EL p e below s _ _ _ (T2.setTop (mkF m 11 #[.val (.int p0), .val (.int p1), .val (.int p2)] [(.ref ca), (.ref sr), (.ref sr)]))
    obtain ⟨_, _, ⟨T3, L3, k3, n3⟩, -, X3, hSn3, hgn3, ⟨Lc3, hQ3, l3, y3, z3, CRn3⟩, st3⟩ := X2.specialBackS hx (y := (⟨"java/lang/String", "<init>", "([C)V"⟩ : MethodName)) rfl hown (mvT hZ (hw _ (List.mem_of_getElem? (i := 11) rfl))) (mvT hZ (hw _ (List.mem_of_getElem? (i := 12) rfl))) (mvT hZ (hw _ (List.mem_of_getElem? (i := 13) rfl))) (by decide) (own_backSH (s := s) (vm0 := s.vm) (W := 1) (rm2z l Z a0 hw [] (sr) (ca) ((fun _ => (.int (0 : Int32)))) h2 n0 ZZ_2 E_sr_2 F_coder_sr_2 F_value_sr_2 gt_sr V_ca) hZ (hw _ (List.mem_of_getElem? (i := 13) rfl)) (hw _ (List.mem_of_getElem? (i := 9) rfl)) (by decide) (by decide) (own_hEL hw) CR2.1 (fun x hx => by cases List.mem_singleton.mp hx; exact ⟨E_sr_2.lt, sf_sr_2⟩)) (g := (mkF m 11 #[.val (.int p0), .val (.int p1), .val (.int p2)] [(.ref ca), (.ref sr), (.ref sr)])) rfl (by rw [hml]; rfl) (Steps.refl _) (a := sr) (argsL := [(.ref ca)]) (rest := [(.ref sr)]) (lenOf pd_4 rfl) rfl (by show 2 * 0 + _ ≤ _; exact Nat.le_of_eq rfl) (hb hby d1_11) (fun _ _ => ⟨rfl, e2, (by decide : 2 + 4 ≤ _), (by decide : 4 + 8 ≤ _)⟩)
    dsimp only [Pt.U, Pt.locs, Pt.cells, Pt.slots] at X3 l3 y3 z3 st3 hQ3 hSn3 hgn3 CRn3
    subst l3 y3 z3
    obtain ⟨bq, rfl, Nq3, Kq3, FCq3, FVq3, Vq3⟩ := hQ3
    have N3 := Fr.app N0 Nq3
    refine own_goC (fun t_ kt_ => st3.trans kt_) ?_
    rw [e2] at hgn3
    have hS3 : s.Since T3.vm T3.heap.size := hS0.trans hSn3 (Nat.le_trans KS_2 hgn3)
    have hZ : Z.Warmed39 (s.setVm T3.vm).vm := State.Warmed39.trans (t := s) hZ hSn3.1
    have hown : (s.setVm T3.vm).vm.findClass "com/example/lint_for_clocks/lintforclocks/model/TokenIsPinLaw" = some m.cls := by rw [show (s.setVm T3.vm).vm = T3.vm from rfl, hSn3.1.alike.findClass]; exact hown
    obtain ⟨lo3, X3g, N3g⟩ : ∃ lo, Stand p l e ({ frames := 4, cells := 6, slots := 12, locals := 66 } : Room) (s.setVm T3.vm) m #[(.int p0), (.int p1), (.int p2)] below meth c T3 lo 6 12 ∧ Fr n0 lo := ⟨_, X3, N3⟩
    obtain ⟨h3, e3⟩ : ∃ z, T3.heap = z := ⟨_, rfl⟩
    rw [e3] at Kq3 FCq3 FVq3 Vq3
    rw [e3] at hS3 CRn3
    have ZZ_3 : n0 ≤ h3.size := Nat.le_trans ZZ_2 Kq3.1
    have S_COMPACT_STRINGS_3 : Sta Z h3 "java/lang/String" "COMPACT_STRINGS" "Z" (.int cs) := own_sta_keepN S_COMPACT_STRINGS_2 Kq3 E_sr_2
    have E_sr_3 : Exa Z h3 sr "java/lang/String" := E_sr_2.keep Kq3
    have V_ca_3 : own_Ary Z h3 ca .char 0 (fun _ => (.int (0 : Int32))) := V_ca.keep Kq3 (ninS (Ne.symm ne_sr_ca) nin0)
    have sf_sr_3 := CRn3.safe E_sr_2.lt sf_sr_2
    have CR3 : CHr Z own_EL s.vm h0 T3.vm h3 := CR2.trans (CRn3)
    have hk3 : h3.size ≤ h3.size := Nat.le_refl _
    have K3 : Keep h0 h3 [] := K2.trans Kq3 (allS (Or.inr sz_sr) all0)
    have hn3 : own_n p0 = 0 := by rw [own_n, if_pos hc1]
    have VQ3 : own_Ary Z h3 bq .byte (own_n p0) (fun j => .int (own_y (own_cc p1 p2 j))) := by rw [hn3]; exact Vq3.congr (fun j hj => absurd hj (Nat.not_lt_zero j))
    show own_GoC Z own_EL p e below s _ _ _ (T3.setTop (mkF m 14 #[.val (.int p0), .val (.int p1), .val (.int p2)] [(.ref sr)]))
    refine own_retC (vm₁ := T3.vm) X3g hS3 (by rw [e3]; exact hk3) hh e3 hZ (own_hEL hw) CR3 (v := some (.ref sr)) (fun h => by rw [hret] at h; cases h) hlk ?_ (by decide) (by decide) (fun fs hr => X3g.areturnOut hx rfl hret rfl (hb hby d1_14) hr)
    show Q1 Z p0 p1 p2 cs h0 n0 (some (.ref sr)) T3.heap _
    rw [e3]
    exact ⟨sr, bq, rfl, N3g, K3, gt_sr, sz_sr, E_sr_3, FCq3, FVq3, VQ3⟩
  · skip
    have hi1 : ¬ p0.toInt = 0 := fun q => hc1 (Int32.toInt_inj.mp q)
    refine own_goC (fun t_ kt_ => XS.ifYes X0.here hx rfl (pc0 := 1) (pc' := 15) rfl (hb hby d1_1) rfl ((if0 _ _).trans (feq hc1).2) (by decide) (by decide) kt_) ?_
    show own_GoC Z own_EL p e below s _ _ _ (s₁.setTop (mkF m 15 #[.val (.int p0), .val (.int p1), .val (.int p2)] []))
    refine own_goC (fun t_ kt_ => XS.iloadN X0.here hx rfl (hb hby d1_15) rfl kt_) ?_
    show own_GoC Z own_EL p e below s _ _ _ (s₁.setTop (mkF m 16 #[.val (.int p0), .val (.int p1), .val (.int p2)] [(.int p0)]))
    refine own_goC (fun t_ kt_ => XS.iconst X0.here hx rfl (hb hby d1_16) kt_) ?_
    show own_GoC Z own_EL p e below s _ _ _ (s₁.setTop (mkF m 17 #[.val (.int p0), .val (.int p1), .val (.int p2)] [(.int (1 : Int32)), (.int p0)]))
    by_cases hc17 : p0 = (1 : Int32)
    · skip
      have hi17 : p0.toInt = 1 := congrArg Int32.toInt hc17
      refine own_goC (fun t_ kt_ => XS.icmpNo X0.here hx rfl (hb hby d1_17) rfl (teq hc17).2 kt_) ?_
      show own_GoC Z own_EL p e below s _ _ _ (s₁.setTop (mkF m 20 #[.val (.int p0), .val (.int p1), .val (.int p2)] []))
      obtain ⟨T4, h4, X4, e4, E4, A4, D4, U4, st4⟩ := newO X0 hx hZ hown (hw _ (List.mem_of_getElem? (i := 7) rfl)) (hw _ (List.mem_of_getElem? (i := 8) rfl)) (hw _ (List.mem_of_getElem? (i := 9) rfl)) e0 (g := (mkF m 20 #[.val (.int p0), .val (.int p1), .val (.int p2)] [])) rfl (hb hby d1_20) (by decide) (by decide)
      obtain ⟨sr, g4⟩ : ∃ z, z = h0.size := ⟨_, rfl⟩
      rw [← g4] at A4 D4 U4 st4
      refine own_goC (fun t_ kt_ => st4 _ kt_) ?_
      have gt_sr : n0 ≤ sr := Nat.le_trans Z0 (Nat.le_of_eq g4.symm)
      have sz_sr : h0.size ≤ sr := Nat.le_trans (Keep.refl h0 []).1 (Nat.le_of_eq g4.symm)
      have ZZ_4 : n0 ≤ h4.size := Nat.le_trans Z0 E4.1
      have S_COMPACT_STRINGS_4 : Sta Z h4 "java/lang/String" "COMPACT_STRINGS" "Z" (.int cs) := SC0.ext E4
      have KS_4 : n0 ≤ h4.size := Nat.le_trans Z0 E4.1
      have CR4 : CHr Z own_EL s.vm h0 s.vm h4 := CR0.trans (CHr.ext E4 CR0.1)
      have K4 : Keep h0 h4 [] := (Keep.refl h0 []).ext E4
      have F_coder_sr : Fld Z h4 sr "java/lang/String" "coder" "B" (.int (0 : Int32)) := D4 (Or.inr (hw _ (List.mem_of_getElem? (i := 34) rfl))) (ty := .byte) (by decide)
      have F_value_sr : Fld Z h4 sr "java/lang/String" "value" "[B" .null := D4 (Or.inr (hw _ (List.mem_of_getElem? (i := 36) rfl))) (ty := (.array .byte)) (by decide)
      show own_GoC Z own_EL p e below s _ _ _ (T4.setTop (mkF m 23 #[.val (.int p0), .val (.int p1), .val (.int p2)] [(.ref sr)]))
      have sf_sr : Safe Z own_EL s.vm h4 sr := Safe.ext E4 CR0.1 (Safe.new (Nat.le_of_eq g4.symm))
      refine own_goC (fun t_ kt_ => XS.dup X4.here hx rfl (hb hby d1_23) rfl rfl kt_) ?_
      show own_GoC Z own_EL p e below s _ _ _ (T4.setTop (mkF m 24 #[.val (.int p0), .val (.int p1), .val (.int p2)] [(.ref sr), (.ref sr)]))
      refine own_goC (fun t_ kt_ => XS.iconst X4.here hx rfl (hb hby d1_24) kt_) ?_
      show own_GoC Z own_EL p e below s _ _ _ (T4.setTop (mkF m 25 #[.val (.int p0), .val (.int p1), .val (.int p2)] [(.int (1 : Int32)), (.ref sr), (.ref sr)]))
      obtain ⟨T5, h5, k5, X5, e5, E5, A5, st5⟩ := newP X4 hx hZ (hw _ (List.mem_of_getElem? (i := 10) rfl)) e4 (g := (mkF m 25 #[.val (.int p0), .val (.int p1), .val (.int p2)] [(.int (1 : Int32)), (.ref sr), (.ref sr)])) rfl (hb hby d1_25) rfl (by decide) (cap := 1) (by decide) (by decide) (by decide) (by decide)
      obtain ⟨ca, g5⟩ : ∃ z, z = h4.size := ⟨_, rfl⟩
      rw [← g5] at A5 st5
      refine own_goC (fun t_ kt_ => st5 _ kt_) ?_
      have gt_ca : n0 ≤ ca := Nat.le_trans ZZ_4 (Nat.le_of_eq g5.symm)
      have ne_sr_ca : sr ≠ ca := Nat.ne_of_lt (Nat.lt_of_lt_of_le A4.lt (Nat.le_of_eq g5.symm))
      have sz_ca : h0.size ≤ ca := Nat.le_trans K4.1 (Nat.le_of_eq g5.symm)
      have ZZ_5 : n0 ≤ h5.size := Nat.le_trans ZZ_4 E5.1
      have S_COMPACT_STRINGS_5 : Sta Z h5 "java/lang/String" "COMPACT_STRINGS" "Z" (.int cs) := S_COMPACT_STRINGS_4.ext E5
      have KS_5 : n0 ≤ h5.size := Nat.le_trans KS_4 E5.1
      have E_sr_5 : Exa Z h5 sr "java/lang/String" := A4.ext E5
      have F_coder_sr_5 : Fld Z h5 sr "java/lang/String" "coder" "B" (.int (0 : Int32)) := F_coder_sr.ext E5
      have F_value_sr_5 : Fld Z h5 sr "java/lang/String" "value" "[B" .null := F_value_sr.ext E5
      have sf_sr_5 := Safe.ext E5 CR4.1 sf_sr
      have CR5 : CHr Z own_EL s.vm h0 s.vm h5 := CR4.trans (CHr.ext E5 CR4.1)
      have K5 : Keep h0 h5 [] := K4.ext E5
      have V_ca : own_Ary Z h5 ca .char 1 (fun _ => (.int (0 : Int32))) := own_Ary.new A5 (by decide)
      show own_GoC Z own_EL p e below s _ _ _ (T5.setTop (mkF m 27 #[.val (.int p0), .val (.int p1), .val (.int p2)] [(.ref ca), (.ref sr), (.ref sr)]))
      refine own_goC (fun t_ kt_ => XS.dup X5.here hx rfl (hb hby d1_27) rfl rfl kt_) ?_
      show own_GoC Z own_EL p e below s _ _ _ (T5.setTop (mkF m 28 #[.val (.int p0), .val (.int p1), .val (.int p2)] [(.ref ca), (.ref ca), (.ref sr), (.ref sr)]))
      refine own_goC (fun t_ kt_ => XS.iconst X5.here hx rfl (hb hby d1_28) kt_) ?_
      show own_GoC Z own_EL p e below s _ _ _ (T5.setTop (mkF m 29 #[.val (.int p0), .val (.int p1), .val (.int p2)] [(.int (0 : Int32)), (.ref ca), (.ref ca), (.ref sr), (.ref sr)]))
      refine own_goC (fun t_ kt_ => XS.iloadN X5.here hx rfl (hb hby d1_29) rfl kt_) ?_
      show own_GoC Z own_EL p e below s _ _ _ (T5.setTop (mkF m 30 #[.val (.int p0), .val (.int p1), .val (.int p2)] [(.int p1), (.int (0 : Int32)), (.ref ca), (.ref ca), (.ref sr), (.ref sr)]))
      obtain ⟨ce6, Ar6, S6, G6⟩ := id V_ca
      obtain ⟨T6, h6, X6, e6, W6, st6⟩ := stC X5 hx hZ e5 Ar6 (j := (0 : Int32)) (own_in (i := 0) S6 (by decide) (by decide)) (g := (mkF m 30 #[.val (.int p0), .val (.int p1), .val (.int p2)] [(.int p1), (.int (0 : Int32)), (.ref ca), (.ref ca), (.ref sr), (.ref sr)])) rfl rfl (hb hby d1_30)
      rw [own_cl (j := (0 : Int32)) (i := 0) (by decide)] at W6 X6
      refine own_goC (fun t_ kt_ => st6 _ kt_) ?_
      have N6 := Fr.snoc X6 N0 gt_ca
      obtain ⟨lo6, X6g, N6g⟩ : ∃ lo, Stand p l e ({ frames := 4, cells := 6, slots := 12, locals := 66 } : Room) s m #[(.int p0), (.int p1), (.int p2)] below meth c T6 lo 2 5 ∧ Fr n0 lo := ⟨_, X6, N6⟩
      rw [(own_narc hp1 : nar .char p1 = p1)] at W6
      have ZZ_6 : n0 ≤ h6.size := Nat.le_trans ZZ_5 (Nat.le_of_eq W6.size.symm)
      have S_COMPACT_STRINGS_6 : Sta Z h6 "java/lang/String" "COMPACT_STRINGS" "Z" (.int cs) := S_COMPACT_STRINGS_5.wr W6
      have KS_6 : n0 ≤ h6.size := Nat.le_trans KS_5 (Nat.le_of_eq W6.size.symm)
      have E_sr_6 : Exa Z h6 sr "java/lang/String" := E_sr_5.wr W6
      have F_coder_sr_6 : Fld Z h6 sr "java/lang/String" "coder" "B" (.int (0 : Int32)) := F_coder_sr_5.other W6 (Or.inl ne_sr_ca)
      have F_value_sr_6 : Fld Z h6 sr "java/lang/String" "value" "[B" .null := F_value_sr_5.other W6 (Or.inl ne_sr_ca)
      have sw6 : Safe Z own_EL s.vm _ ca := (Safe.arr hZ.alike Ar6 (by decide))
      have sf_sr_6 := Safe.wr W6 sw6 CR5.1 sf_sr_5
      have CR6 : CHr Z own_EL s.vm h0 s.vm h6 := CR5.trans (CHr.wr W6 sw6 CR5.1)
      have V_ca_6 : own_Ary Z h6 ca .char 1 (own_set (fun _ => (.int (0 : Int32))) 0 (.int p1)) := own_Ary.set Ar6 S6 G6 W6
      have K6 : Keep h0 h6 [] := K5.wr W6 (Or.inr sz_ca)
      show own_GoC Z own_EL p e below s _ _ _ (T6.setTop (mkF m 31 #[.val (.int p0), .val (.int p1), .val (.int p2)] [(.ref ca), (.ref sr), (.ref sr)]))
      have VK : own_Ary Z h6 ca .char 1 (fun j => .int (own_cc p1 p2 j)) := V_ca_6.congr (fun j hj => by
        rcases (by omega : j = 0) with rfl <;> rfl)
      obtain ⟨_, _, ⟨T7, L7, k7, n7⟩, -, X7, ⟨Lc7, hQ7, l7, y7, z7⟩, st7⟩ := X6g.specialBack hx (y := (⟨"java/lang/String", "<init>", "([C)V"⟩ : MethodName)) rfl hown (mvT hZ (hw _ (List.mem_of_getElem? (i := 11) rfl))) (mvT hZ (hw _ (List.mem_of_getElem? (i := 12) rfl))) (mvT hZ (hw _ (List.mem_of_getElem? (i := 13) rfl))) (by decide) (backOf (W := 1) (rm21 l Z a0 hw [] (sr) (ca) ((own_cc p1 p2)) (cs) h6 n0 ZZ_6 E_sr_6 F_coder_sr_6 F_value_sr_6 gt_sr S_COMPACT_STRINGS_6 hcs VK (fun j hj => by unfold own_cc; split; exact hp1; exact hp2)) hZ (hw _ (List.mem_of_getElem? (i := 13) rfl)) (hw _ (List.mem_of_getElem? (i := 9) rfl)) (by decide) (by decide)) (g := (mkF m 31 #[.val (.int p0), .val (.int p1), .val (.int p2)] [(.ref ca), (.ref sr), (.ref sr)])) rfl (by rw [hml]; rfl) (Steps.refl _) (a := sr) (argsL := [(.ref ca)]) (rest := [(.ref sr)]) (lenOf pd_4 rfl) rfl (by show 2 * 0 + _ ≤ _; exact Nat.le_of_eq rfl) (hb hby d1_31) (fun _ _ => ⟨rfl, e6, (by decide : 2 + 1 ≤ _), (by decide : 5 + 1 ≤ _)⟩)
      dsimp only [Pt.U, Pt.locs, Pt.cells, Pt.slots] at X7 l7 y7 z7 st7 hQ7
      subst l7 y7 z7
      obtain ⟨bq, rfl, Nq7, Kq7, FCq7, FVq7, Vq7⟩ := hQ7
      have N7 := Fr.app N6g Nq7
      refine own_goC (fun t_ kt_ => st7.trans kt_) ?_
      obtain ⟨lo7, X7g, N7g⟩ : ∃ lo, Stand p l e ({ frames := 4, cells := 6, slots := 12, locals := 66 } : Room) s m #[(.int p0), (.int p1), (.int p2)] below meth c T7 lo 3 6 ∧ Fr n0 lo := ⟨_, X7, N7⟩
      obtain ⟨h7, e7⟩ : ∃ z, T7.heap = z := ⟨_, rfl⟩
      rw [e7] at Kq7 FCq7 FVq7 Vq7
      have ZZ_7 : n0 ≤ h7.size := Nat.le_trans ZZ_6 Kq7.1
      have S_COMPACT_STRINGS_7 : Sta Z h7 "java/lang/String" "COMPACT_STRINGS" "Z" (.int cs) := own_sta_keepN S_COMPACT_STRINGS_6 Kq7 E_sr_6
      have KS_7 : n0 ≤ h7.size := Nat.le_trans KS_6 Kq7.1
      have E_sr_7 : Exa Z h7 sr "java/lang/String" := E_sr_6.keep Kq7
      have V_ca_7 : own_Ary Z h7 ca .char 1 (own_set (fun _ => (.int (0 : Int32))) 0 (.int p1)) := V_ca_6.keep Kq7 (ninS (Ne.symm ne_sr_ca) nin0)
      have sf_sr_7 := Safe.keep Kq7 (fun x hx => by cases List.mem_singleton.mp hx; exact sf_sr_6) CR6.1 sf_sr_6
      have CR7 : CHr Z own_EL s.vm h0 s.vm h7 := CR6.trans (CHr.keep Kq7 (fun x hx => by cases List.mem_singleton.mp hx; exact sf_sr_6) CR6.1)
      have K7 : Keep h0 h7 [] := K6.trans Kq7 (allS (Or.inr sz_sr) all0)
      have hn7 : own_n p0 = 1 := by rw [own_n, if_neg hc1, if_pos hc17]
      have VQ7 : own_Ary Z h7 bq .byte (own_n p0) (fun j => .int (own_y (own_cc p1 p2 j))) := by rw [hn7]; exact Vq7.congr (fun j hj => rfl)
      show own_GoC Z own_EL p e below s _ _ _ (T7.setTop (mkF m 34 #[.val (.int p0), .val (.int p1), .val (.int p2)] [(.ref sr)]))
      refine own_retC (vm₁ := s.vm) X7g hS0 (by rw [e7]; exact KS_7) hh e7 hZ (own_hEL hw) CR7 (v := some (.ref sr)) (fun h => by rw [hret] at h; cases h) hlk ?_ (by decide) (by decide) (fun fs hr => X7g.areturnOut hx rfl hret rfl (hb hby d1_34) hr)
      show Q1 Z p0 p1 p2 cs h0 n0 (some (.ref sr)) T7.heap _
      rw [e7]
      exact ⟨sr, bq, rfl, N7g, K7, gt_sr, sz_sr, E_sr_7, FCq7, FVq7, VQ7⟩
    · skip
      have hi17 : ¬ p0.toInt = 1 := fun q => hc17 (Int32.toInt_inj.mp q)
      refine own_goC (fun t_ kt_ => XS.icmpYes X0.here hx rfl (pc0 := 17) (pc' := 35) rfl (hb hby d1_17) rfl (feq hc17).2 (by decide) (by decide) kt_) ?_
      show own_GoC Z own_EL p e below s _ _ _ (s₁.setTop (mkF m 35 #[.val (.int p0), .val (.int p1), .val (.int p2)] []))
      obtain ⟨T8, h8, X8, e8, E8, A8, D8, U8, st8⟩ := newO X0 hx hZ hown (hw _ (List.mem_of_getElem? (i := 7) rfl)) (hw _ (List.mem_of_getElem? (i := 8) rfl)) (hw _ (List.mem_of_getElem? (i := 9) rfl)) e0 (g := (mkF m 35 #[.val (.int p0), .val (.int p1), .val (.int p2)] [])) rfl (hb hby d1_35) (by decide) (by decide)
      obtain ⟨sr, g8⟩ : ∃ z, z = h0.size := ⟨_, rfl⟩
      rw [← g8] at A8 D8 U8 st8
      refine own_goC (fun t_ kt_ => st8 _ kt_) ?_
      have gt_sr : n0 ≤ sr := Nat.le_trans Z0 (Nat.le_of_eq g8.symm)
      have sz_sr : h0.size ≤ sr := Nat.le_trans (Keep.refl h0 []).1 (Nat.le_of_eq g8.symm)
      have ZZ_8 : n0 ≤ h8.size := Nat.le_trans Z0 E8.1
      have S_COMPACT_STRINGS_8 : Sta Z h8 "java/lang/String" "COMPACT_STRINGS" "Z" (.int cs) := SC0.ext E8
      have KS_8 : n0 ≤ h8.size := Nat.le_trans Z0 E8.1
      have CR8 : CHr Z own_EL s.vm h0 s.vm h8 := CR0.trans (CHr.ext E8 CR0.1)
      have K8 : Keep h0 h8 [] := (Keep.refl h0 []).ext E8
      have F_coder_sr : Fld Z h8 sr "java/lang/String" "coder" "B" (.int (0 : Int32)) := D8 (Or.inr (hw _ (List.mem_of_getElem? (i := 34) rfl))) (ty := .byte) (by decide)
      have F_value_sr : Fld Z h8 sr "java/lang/String" "value" "[B" .null := D8 (Or.inr (hw _ (List.mem_of_getElem? (i := 36) rfl))) (ty := (.array .byte)) (by decide)
      show own_GoC Z own_EL p e below s _ _ _ (T8.setTop (mkF m 38 #[.val (.int p0), .val (.int p1), .val (.int p2)] [(.ref sr)]))
      have sf_sr : Safe Z own_EL s.vm h8 sr := Safe.ext E8 CR0.1 (Safe.new (Nat.le_of_eq g8.symm))
      refine own_goC (fun t_ kt_ => XS.dup X8.here hx rfl (hb hby d1_38) rfl rfl kt_) ?_
      show own_GoC Z own_EL p e below s _ _ _ (T8.setTop (mkF m 39 #[.val (.int p0), .val (.int p1), .val (.int p2)] [(.ref sr), (.ref sr)]))
      refine own_goC (fun t_ kt_ => XS.iconst X8.here hx rfl (hb hby d1_39) kt_) ?_
      show own_GoC Z own_EL p e below s _ _ _ (T8.setTop (mkF m 40 #[.val (.int p0), .val (.int p1), .val (.int p2)] [(.int (2 : Int32)), (.ref sr), (.ref sr)]))
      obtain ⟨T9, h9, k9, X9, e9, E9, A9, st9⟩ := newP X8 hx hZ (hw _ (List.mem_of_getElem? (i := 10) rfl)) e8 (g := (mkF m 40 #[.val (.int p0), .val (.int p1), .val (.int p2)] [(.int (2 : Int32)), (.ref sr), (.ref sr)])) rfl (hb hby d1_40) rfl (by decide) (cap := 2) (by decide) (by decide) (by decide) (by decide)
      obtain ⟨ca, g9⟩ : ∃ z, z = h8.size := ⟨_, rfl⟩
      rw [← g9] at A9 st9
      refine own_goC (fun t_ kt_ => st9 _ kt_) ?_
      have gt_ca : n0 ≤ ca := Nat.le_trans ZZ_8 (Nat.le_of_eq g9.symm)
      have ne_sr_ca : sr ≠ ca := Nat.ne_of_lt (Nat.lt_of_lt_of_le A8.lt (Nat.le_of_eq g9.symm))
      have sz_ca : h0.size ≤ ca := Nat.le_trans K8.1 (Nat.le_of_eq g9.symm)
      have ZZ_9 : n0 ≤ h9.size := Nat.le_trans ZZ_8 E9.1
      have S_COMPACT_STRINGS_9 : Sta Z h9 "java/lang/String" "COMPACT_STRINGS" "Z" (.int cs) := S_COMPACT_STRINGS_8.ext E9
      have KS_9 : n0 ≤ h9.size := Nat.le_trans KS_8 E9.1
      have E_sr_9 : Exa Z h9 sr "java/lang/String" := A8.ext E9
      have F_coder_sr_9 : Fld Z h9 sr "java/lang/String" "coder" "B" (.int (0 : Int32)) := F_coder_sr.ext E9
      have F_value_sr_9 : Fld Z h9 sr "java/lang/String" "value" "[B" .null := F_value_sr.ext E9
      have sf_sr_9 := Safe.ext E9 CR8.1 sf_sr
      have CR9 : CHr Z own_EL s.vm h0 s.vm h9 := CR8.trans (CHr.ext E9 CR8.1)
      have K9 : Keep h0 h9 [] := K8.ext E9
      have V_ca : own_Ary Z h9 ca .char 2 (fun _ => (.int (0 : Int32))) := own_Ary.new A9 (by decide)
      show own_GoC Z own_EL p e below s _ _ _ (T9.setTop (mkF m 42 #[.val (.int p0), .val (.int p1), .val (.int p2)] [(.ref ca), (.ref sr), (.ref sr)]))
      refine own_goC (fun t_ kt_ => XS.dup X9.here hx rfl (hb hby d1_42) rfl rfl kt_) ?_
      show own_GoC Z own_EL p e below s _ _ _ (T9.setTop (mkF m 43 #[.val (.int p0), .val (.int p1), .val (.int p2)] [(.ref ca), (.ref ca), (.ref sr), (.ref sr)]))
      refine own_goC (fun t_ kt_ => XS.iconst X9.here hx rfl (hb hby d1_43) kt_) ?_
      show own_GoC Z own_EL p e below s _ _ _ (T9.setTop (mkF m 44 #[.val (.int p0), .val (.int p1), .val (.int p2)] [(.int (0 : Int32)), (.ref ca), (.ref ca), (.ref sr), (.ref sr)]))
      refine own_goC (fun t_ kt_ => XS.iloadN X9.here hx rfl (hb hby d1_44) rfl kt_) ?_
      show own_GoC Z own_EL p e below s _ _ _ (T9.setTop (mkF m 45 #[.val (.int p0), .val (.int p1), .val (.int p2)] [(.int p1), (.int (0 : Int32)), (.ref ca), (.ref ca), (.ref sr), (.ref sr)]))
      obtain ⟨ce10, Ar10, S10, G10⟩ := id V_ca
      obtain ⟨T10, h10, X10, e10, W10, st10⟩ := stC X9 hx hZ e9 Ar10 (j := (0 : Int32)) (own_in (i := 0) S10 (by decide) (by decide)) (g := (mkF m 45 #[.val (.int p0), .val (.int p1), .val (.int p2)] [(.int p1), (.int (0 : Int32)), (.ref ca), (.ref ca), (.ref sr), (.ref sr)])) rfl rfl (hb hby d1_45)
      rw [own_cl (j := (0 : Int32)) (i := 0) (by decide)] at W10 X10
      refine own_goC (fun t_ kt_ => st10 _ kt_) ?_
      have N10 := Fr.snoc X10 N0 gt_ca
      obtain ⟨lo10, X10g, N10g⟩ : ∃ lo, Stand p l e ({ frames := 4, cells := 6, slots := 12, locals := 66 } : Room) s m #[(.int p0), (.int p1), (.int p2)] below meth c T10 lo 2 6 ∧ Fr n0 lo := ⟨_, X10, N10⟩
      rw [(own_narc hp1 : nar .char p1 = p1)] at W10
      have ZZ_10 : n0 ≤ h10.size := Nat.le_trans ZZ_9 (Nat.le_of_eq W10.size.symm)
      have S_COMPACT_STRINGS_10 : Sta Z h10 "java/lang/String" "COMPACT_STRINGS" "Z" (.int cs) := S_COMPACT_STRINGS_9.wr W10
      have KS_10 : n0 ≤ h10.size := Nat.le_trans KS_9 (Nat.le_of_eq W10.size.symm)
      have E_sr_10 : Exa Z h10 sr "java/lang/String" := E_sr_9.wr W10
      have F_coder_sr_10 : Fld Z h10 sr "java/lang/String" "coder" "B" (.int (0 : Int32)) := F_coder_sr_9.other W10 (Or.inl ne_sr_ca)
      have F_value_sr_10 : Fld Z h10 sr "java/lang/String" "value" "[B" .null := F_value_sr_9.other W10 (Or.inl ne_sr_ca)
      have sw10 : Safe Z own_EL s.vm _ ca := (Safe.arr hZ.alike Ar10 (by decide))
      have sf_sr_10 := Safe.wr W10 sw10 CR9.1 sf_sr_9
      have CR10 : CHr Z own_EL s.vm h0 s.vm h10 := CR9.trans (CHr.wr W10 sw10 CR9.1)
      have V_ca_10 : own_Ary Z h10 ca .char 2 (own_set (fun _ => (.int (0 : Int32))) 0 (.int p1)) := own_Ary.set Ar10 S10 G10 W10
      have K10 : Keep h0 h10 [] := K9.wr W10 (Or.inr sz_ca)
      show own_GoC Z own_EL p e below s _ _ _ (T10.setTop (mkF m 46 #[.val (.int p0), .val (.int p1), .val (.int p2)] [(.ref ca), (.ref sr), (.ref sr)]))
      refine own_goC (fun t_ kt_ => XS.dup X10g.here hx rfl (hb hby d1_46) rfl rfl kt_) ?_
      show own_GoC Z own_EL p e below s _ _ _ (T10.setTop (mkF m 47 #[.val (.int p0), .val (.int p1), .val (.int p2)] [(.ref ca), (.ref ca), (.ref sr), (.ref sr)]))
      refine own_goC (fun t_ kt_ => XS.iconst X10g.here hx rfl (hb hby d1_47) kt_) ?_
      show own_GoC Z own_EL p e below s _ _ _ (T10.setTop (mkF m 48 #[.val (.int p0), .val (.int p1), .val (.int p2)] [(.int (1 : Int32)), (.ref ca), (.ref ca), (.ref sr), (.ref sr)]))
      refine own_goC (fun t_ kt_ => XS.iloadN X10g.here hx rfl (hb hby d1_48) rfl kt_) ?_
      show own_GoC Z own_EL p e below s _ _ _ (T10.setTop (mkF m 49 #[.val (.int p0), .val (.int p1), .val (.int p2)] [(.int p2), (.int (1 : Int32)), (.ref ca), (.ref ca), (.ref sr), (.ref sr)]))
      obtain ⟨ce11, Ar11, S11, G11⟩ := id V_ca_10
      obtain ⟨T11, h11, X11, e11, W11, st11⟩ := stC X10g hx hZ e10 Ar11 (j := (1 : Int32)) (own_in (i := 1) S11 (by decide) (by decide)) (g := (mkF m 49 #[.val (.int p0), .val (.int p1), .val (.int p2)] [(.int p2), (.int (1 : Int32)), (.ref ca), (.ref ca), (.ref sr), (.ref sr)])) rfl rfl (hb hby d1_49)
      rw [own_cl (j := (1 : Int32)) (i := 1) (by decide)] at W11 X11
      refine own_goC (fun t_ kt_ => st11 _ kt_) ?_
      have N11 := Fr.snoc X11 N10g gt_ca
      obtain ⟨lo11, X11g, N11g⟩ : ∃ lo, Stand p l e ({ frames := 4, cells := 6, slots := 12, locals := 66 } : Room) s m #[(.int p0), (.int p1), (.int p2)] below meth c T11 lo 2 6 ∧ Fr n0 lo := ⟨_, X11, N11⟩
      rw [(own_narc hp2 : nar .char p2 = p2)] at W11
      have ZZ_11 : n0 ≤ h11.size := Nat.le_trans ZZ_10 (Nat.le_of_eq W11.size.symm)
      have S_COMPACT_STRINGS_11 : Sta Z h11 "java/lang/String" "COMPACT_STRINGS" "Z" (.int cs) := S_COMPACT_STRINGS_10.wr W11
      have KS_11 : n0 ≤ h11.size := Nat.le_trans KS_10 (Nat.le_of_eq W11.size.symm)
      have E_sr_11 : Exa Z h11 sr "java/lang/String" := E_sr_10.wr W11
      have F_coder_sr_11 : Fld Z h11 sr "java/lang/String" "coder" "B" (.int (0 : Int32)) := F_coder_sr_10.other W11 (Or.inl ne_sr_ca)
      have F_value_sr_11 : Fld Z h11 sr "java/lang/String" "value" "[B" .null := F_value_sr_10.other W11 (Or.inl ne_sr_ca)
      have sw11 : Safe Z own_EL s.vm _ ca := (Safe.arr hZ.alike Ar11 (by decide))
      have sf_sr_11 := Safe.wr W11 sw11 CR10.1 sf_sr_10
      have CR11 : CHr Z own_EL s.vm h0 s.vm h11 := CR10.trans (CHr.wr W11 sw11 CR10.1)
      have V_ca_11 : own_Ary Z h11 ca .char 2 (own_set (own_set (fun _ => (.int (0 : Int32))) 0 (.int p1)) 1 (.int p2)) := own_Ary.set Ar11 S11 G11 W11
      have K11 : Keep h0 h11 [] := K10.wr W11 (Or.inr sz_ca)
      show own_GoC Z own_EL p e below s _ _ _ (T11.setTop (mkF m 50 #[.val (.int p0), .val (.int p1), .val (.int p2)] [(.ref ca), (.ref sr), (.ref sr)]))
      have VK : own_Ary Z h11 ca .char 2 (fun j => .int (own_cc p1 p2 j)) := V_ca_11.congr (fun j hj => by
        rcases (by omega : j = 0 ∨ j = 1) with rfl | rfl <;> rfl)
      obtain ⟨_, _, ⟨T12, L12, k12, n12⟩, -, X12, ⟨Lc12, hQ12, l12, y12, z12⟩, st12⟩ := X11g.specialBack hx (y := (⟨"java/lang/String", "<init>", "([C)V"⟩ : MethodName)) rfl hown (mvT hZ (hw _ (List.mem_of_getElem? (i := 11) rfl))) (mvT hZ (hw _ (List.mem_of_getElem? (i := 12) rfl))) (mvT hZ (hw _ (List.mem_of_getElem? (i := 13) rfl))) (by decide) (backOf (W := 1) (rm22 l Z a0 hw [] (sr) (ca) ((own_cc p1 p2)) (cs) h11 n0 ZZ_11 E_sr_11 F_coder_sr_11 F_value_sr_11 gt_sr S_COMPACT_STRINGS_11 hcs VK (fun j hj => by unfold own_cc; split; exact hp1; exact hp2)) hZ (hw _ (List.mem_of_getElem? (i := 13) rfl)) (hw _ (List.mem_of_getElem? (i := 9) rfl)) (by decide) (by decide)) (g := (mkF m 50 #[.val (.int p0), .val (.int p1), .val (.int p2)] [(.ref ca), (.ref sr), (.ref sr)])) rfl (by rw [hml]; rfl) (Steps.refl _) (a := sr) (argsL := [(.ref ca)]) (rest := [(.ref sr)]) (lenOf pd_4 rfl) rfl (by show 2 * 0 + _ ≤ _; exact Nat.le_of_eq rfl) (hb hby d1_50) (fun _ _ => ⟨rfl, e11, (by decide : 2 + 1 ≤ _), (by decide : 6 + 2 ≤ _)⟩)
      dsimp only [Pt.U, Pt.locs, Pt.cells, Pt.slots] at X12 l12 y12 z12 st12 hQ12
      subst l12 y12 z12
      obtain ⟨bq, rfl, Nq12, Kq12, FCq12, FVq12, Vq12⟩ := hQ12
      have N12 := Fr.app N11g Nq12
      refine own_goC (fun t_ kt_ => st12.trans kt_) ?_
      obtain ⟨lo12, X12g, N12g⟩ : ∃ lo, Stand p l e ({ frames := 4, cells := 6, slots := 12, locals := 66 } : Room) s m #[(.int p0), (.int p1), (.int p2)] below meth c T12 lo 3 8 ∧ Fr n0 lo := ⟨_, X12, N12⟩
      obtain ⟨h12, e12⟩ : ∃ z, T12.heap = z := ⟨_, rfl⟩
      rw [e12] at Kq12 FCq12 FVq12 Vq12
      have ZZ_12 : n0 ≤ h12.size := Nat.le_trans ZZ_11 Kq12.1
      have S_COMPACT_STRINGS_12 : Sta Z h12 "java/lang/String" "COMPACT_STRINGS" "Z" (.int cs) := own_sta_keepN S_COMPACT_STRINGS_11 Kq12 E_sr_11
      have KS_12 : n0 ≤ h12.size := Nat.le_trans KS_11 Kq12.1
      have E_sr_12 : Exa Z h12 sr "java/lang/String" := E_sr_11.keep Kq12
      have V_ca_12 : own_Ary Z h12 ca .char 2 (own_set (own_set (fun _ => (.int (0 : Int32))) 0 (.int p1)) 1 (.int p2)) := V_ca_11.keep Kq12 (ninS (Ne.symm ne_sr_ca) nin0)
      have sf_sr_12 := Safe.keep Kq12 (fun x hx => by cases List.mem_singleton.mp hx; exact sf_sr_11) CR11.1 sf_sr_11
      have CR12 : CHr Z own_EL s.vm h0 s.vm h12 := CR11.trans (CHr.keep Kq12 (fun x hx => by cases List.mem_singleton.mp hx; exact sf_sr_11) CR11.1)
      have K12 : Keep h0 h12 [] := K11.trans Kq12 (allS (Or.inr sz_sr) all0)
      have hn12 : own_n p0 = 2 := by rw [own_n, if_neg hc1, if_neg hc17]
      have VQ12 : own_Ary Z h12 bq .byte (own_n p0) (fun j => .int (own_y (own_cc p1 p2 j))) := by rw [hn12]; exact Vq12.congr (fun j hj => rfl)
      show own_GoC Z own_EL p e below s _ _ _ (T12.setTop (mkF m 53 #[.val (.int p0), .val (.int p1), .val (.int p2)] [(.ref sr)]))
      refine own_retC (vm₁ := s.vm) X12g hS0 (by rw [e12]; exact KS_12) hh e12 hZ (own_hEL hw) CR12 (v := some (.ref sr)) (fun h => by rw [hret] at h; cases h) hlk ?_ (by decide) (by decide) (fun fs hr => X12g.areturnOut hx rfl hret rfl (hb hby d1_53) hr)
      show Q1 Z p0 p1 p2 cs h0 n0 (some (.ref sr)) T12.heap _
      rw [e12]
      exact ⟨sr, bq, rfl, N12g, K12, gt_sr, sz_sr, E_sr_12, FCq12, FVq12, VQ12⟩
theorem pn_3 : plainName "java/lang/Record" = true := by first | (simp [plainName, overriddenIn]; done) | decide +kernel
theorem d9_0 : decode jdk_30_method_1_code 0 = .ok (.aload_n 0, 1) := by decide +kernel
theorem d9_1 : decode jdk_30_method_1_code 1 = .ok (.invokespecial 1, 3) := by decide +kernel
theorem d9_4 : decode jdk_30_method_1_code 4 = .ok (.return_, 1) := by decide +kernel
theorem ef_9 (m : MethodId) (r0 : Addr) : entryFrame m #[(.ref r0)] 1 = mkF m 0 #[.val (.ref r0)] [] := by first | (simp [entryFrame, mkF, argsToLocals, Value.category]; done) | rfl
def Q9 (Z : State) (r0 : Addr) (h0 : Heap) (n0 : Nat) (v : Option Value) (h : Heap) (L : List Loc) : Prop := v = none ∧ Fr n0 L ∧ h = h0
set_option maxRecDepth 65536 in
set_option maxHeartbeats 40000000 in
theorem rm9 (l : Launch) (Z : State) (a0 : Array Value) (hw : ∀ d ∈ tables_1, d.before a0 Z = true) (ws : List Jvm.Cond) (r0 : Addr) (h0 : Heap) (n0 : Nat) (Z0 : n0 ≤ h0.size) :
    MetFree l (⟨"java/lang/Record", "<init>", "()V"⟩ : MethodName) (head1 (Jvm.Cond.code (⟨"java/lang/Record", "<init>", "()V"⟩ : MethodName) jdk_30_method_1_code 1 none :: ws) ({ frames := 1, cells := 0, slots := 0, locals := 12 } : Room)) (fun a U => a = #[(.ref r0)] ∧ Z.Warmed39 U.vm ∧ U.heap = h0) (fun _ _ _ _ _ => True) (fun _ U o U' => ∃ v L, o = .returned v ∧ Q9 Z r0 h0 n0 v U'.heap L ∧ FrameEnd U o U' L (({ frames := 1, cells := 0, slots := 0, locals := 12 } : Room)).cells (({ frames := 1, cells := 0, slots := 0, locals := 12 } : Room)).slots) := by
  refine MetFree.of_bodySF (plainFor_of_name pn_3) hisR ?_
  intro p e s m args below meth c s₁ Bd hml0 hP hK
  obtain ⟨rfl, hZ, hh⟩ := hP
  have hx := Bd.exec
  have hby := Bd.bytes
  have hml : c.maxLocals = 1 := hml0
  have hown : s.vm.findClass "java/lang/Record" = some m.cls := findClass_of_methodNamed Bd.named
  have hnm := (name_of_methodNamed Bd.named Bd.method).1
  have hlk : meth.locks = false := Bd.notSynchronized
  have X0 : Stand p l e ({ frames := 1, cells := 0, slots := 0, locals := 12 } : Room) s m #[(.ref r0)] below meth c s₁ [] 0 0 := Stand.of_body Bd
  have e0 : s₁.heap = h0 := by rw [← hh, Bd.state]; rfl
  have N0 := Fr.nil n0
  have hret := Bd.returns
  show own_Go p e below s (Q9 Z r0 h0 n0) _ _ (s₁.setTop (entryFrame m #[(.ref r0)] 1))
  refine own_go (fun t k => castTop (ef_9 m r0) k) ?_
  show own_Go p e below s _ _ _ (s₁.setTop (mkF m 0 #[.val (.ref r0)] []))
  refine own_go (fun t_ kt_ => XS.aloadN X0.here hx rfl (hb hby d9_0) rfl rfl kt_) ?_
  show own_Go p e below s _ _ _ (s₁.setTop (mkF m 1 #[.val (.ref r0)] [(.ref r0)]))
  obtain ⟨T1, X1, e1, st1⟩ := initO X0 hx hZ hown (hw _ (List.mem_of_getElem? (i := 51) rfl)) (hw _ (List.mem_of_getElem? (i := 19) rfl)) (hw _ (List.mem_of_getElem? (i := 20) rfl)) e0 (g := (mkF m 1 #[.val (.ref r0)] [(.ref r0)])) rfl (by rw [hml]; rfl) rfl (hb hby d9_1) (by decide) (W := 0) (by show 2 * 0 + _ ≤ _; exact Nat.le_of_eq rfl) (by decide)
  refine own_go (fun t_ kt_ => st1 _ kt_) ?_
  show own_Go p e below s _ _ _ (T1.setTop (mkF m 4 #[.val (.ref r0)] []))
  refine own_ret X1 (v := none) (fun _ => rfl) hlk ?_ (by decide) (by decide) (fun fs hr => X1.returnOut hx hret (hb hby d9_4) hr)
  show Q9 Z r0 h0 n0 (none) T1.heap _
  rw [e1]
  exact ⟨rfl, N0, rfl⟩
theorem pn_4 : plainName "com/example/lint_for_clocks/lintforclocks/model/Token" = true := by first | (simp [plainName, overriddenIn]; done) | decide +kernel
theorem d8_0 : decode prog_61_method_1_code 0 = .ok (.aload_n 0, 1) := by decide +kernel
theorem d8_1 : decode prog_61_method_1_code 1 = .ok (.invokespecial 1, 3) := by decide +kernel
theorem pd_5 : parseMethodDescriptor "()V" = some ⟨[], none⟩ := by decide +kernel
theorem d8_4 : decode prog_61_method_1_code 4 = .ok (.aload_n 0, 1) := by decide +kernel
theorem d8_5 : decode prog_61_method_1_code 5 = .ok (.aload_n 1, 1) := by decide +kernel
theorem d8_6 : decode prog_61_method_1_code 6 = .ok (.putfield 7, 3) := by decide +kernel
theorem d8_9 : decode prog_61_method_1_code 9 = .ok (.aload_n 0, 1) := by decide +kernel
theorem d8_10 : decode prog_61_method_1_code 10 = .ok (.aload_n 2, 1) := by decide +kernel
theorem d8_11 : decode prog_61_method_1_code 11 = .ok (.putfield 13, 3) := by decide +kernel
theorem d8_14 : decode prog_61_method_1_code 14 = .ok (.aload_n 0, 1) := by decide +kernel
theorem d8_15 : decode prog_61_method_1_code 15 = .ok (.iload_n 3, 1) := by decide +kernel
theorem d8_16 : decode prog_61_method_1_code 16 = .ok (.putfield 17, 3) := by decide +kernel
theorem d8_19 : decode prog_61_method_1_code 19 = .ok (.return_, 1) := by decide +kernel
theorem ef_8 (m : MethodId) (r0 : Addr) (r1 : Addr) (r2 : Addr) (p3 : Int32) : entryFrame m #[(.ref r0), (.ref r1), (.ref r2), (.int p3)] 4 = mkF m 0 #[.val (.ref r0), .val (.ref r1), .val (.ref r2), .val (.int p3)] [] := by first | (simp [entryFrame, mkF, argsToLocals, Value.category]; done) | rfl
def Q8 (Z : State) (r0 : Addr) (r1 : Addr) (r2 : Addr) (p3 : Int32) (h0 : Heap) (n0 : Nat) (v : Option Value) (h : Heap) (L : List Loc) : Prop := v = none ∧ Fr n0 L ∧ Keep h0 h [r0] ∧ Fld Z h r0 "com/example/lint_for_clocks/lintforclocks/model/Token" "kind" "Lcom/example/lint_for_clocks/lintforclocks/model/Token$Kind;" (.ref r1) ∧ Fld Z h r0 "com/example/lint_for_clocks/lintforclocks/model/Token" "text" "Ljava/lang/String;" (.ref r2)
set_option maxRecDepth 65536 in
set_option maxHeartbeats 40000000 in
theorem rm8 (l : Launch) (Z : State) (a0 : Array Value) (hw : ∀ d ∈ tables_1, d.before a0 Z = true) (ws : List Jvm.Cond) (r0 : Addr) (r1 : Addr) (r2 : Addr) (p3 : Int32) (h0 : Heap) (n0 : Nat) (Z0 : n0 ≤ h0.size) (F_kind : Fld Z h0 r0 "com/example/lint_for_clocks/lintforclocks/model/Token" "kind" "Lcom/example/lint_for_clocks/lintforclocks/model/Token$Kind;" .null) (F_text : Fld Z h0 r0 "com/example/lint_for_clocks/lintforclocks/model/Token" "text" "Ljava/lang/String;" .null) (F_line : Fld Z h0 r0 "com/example/lint_for_clocks/lintforclocks/model/Token" "line" "I" (.int (0 : Int32))) (E0 : Exa Z h0 r0 "com/example/lint_for_clocks/lintforclocks/model/Token") (g0 : n0 ≤ r0) :
    MetFree l (⟨"com/example/lint_for_clocks/lintforclocks/model/Token", "<init>", "(Lcom/example/lint_for_clocks/lintforclocks/model/Token$Kind;Ljava/lang/String;I)V"⟩ : MethodName) (head1 (Jvm.Cond.code (⟨"com/example/lint_for_clocks/lintforclocks/model/Token", "<init>", "(Lcom/example/lint_for_clocks/lintforclocks/model/Token$Kind;Ljava/lang/String;I)V"⟩ : MethodName) prog_61_method_1_code 4 none :: ws) ({ frames := 2, cells := 0, slots := 0, locals := 24 } : Room)) (fun a U => a = #[(.ref r0), (.ref r1), (.ref r2), (.int p3)] ∧ Z.Warmed39 U.vm ∧ U.heap = h0) (fun _ _ _ _ _ => True) (fun _ U o U' => ∃ v L, o = .returned v ∧ Q8 Z r0 r1 r2 p3 h0 n0 v U'.heap L ∧ FrameEnd U o U' L (({ frames := 2, cells := 0, slots := 0, locals := 24 } : Room)).cells (({ frames := 2, cells := 0, slots := 0, locals := 24 } : Room)).slots) := by
  refine MetFree.of_bodySF (plainFor_of_name pn_4) hisR ?_
  intro p e s m args below meth c s₁ Bd hml0 hP hK
  obtain ⟨rfl, hZ, hh⟩ := hP
  have hx := Bd.exec
  have hby := Bd.bytes
  have hml : c.maxLocals = 4 := hml0
  have hown : s.vm.findClass "com/example/lint_for_clocks/lintforclocks/model/Token" = some m.cls := findClass_of_methodNamed Bd.named
  have hnm := (name_of_methodNamed Bd.named Bd.method).1
  have hlk : meth.locks = false := Bd.notSynchronized
  have X0 : Stand p l e ({ frames := 2, cells := 0, slots := 0, locals := 24 } : Room) s m #[(.ref r0), (.ref r1), (.ref r2), (.int p3)] below meth c s₁ [] 0 0 := Stand.of_body Bd
  have e0 : s₁.heap = h0 := by rw [← hh, Bd.state]; rfl
  have N0 := Fr.nil n0
  have hret := Bd.returns
  show own_Go p e below s (Q8 Z r0 r1 r2 p3 h0 n0) _ _ (s₁.setTop (entryFrame m #[(.ref r0), (.ref r1), (.ref r2), (.int p3)] 4))
  refine own_go (fun t k => castTop (ef_8 m r0 r1 r2 p3) k) ?_
  show own_Go p e below s _ _ _ (s₁.setTop (mkF m 0 #[.val (.ref r0), .val (.ref r1), .val (.ref r2), .val (.int p3)] []))
  refine own_go (fun t_ kt_ => XS.aloadN X0.here hx rfl (hb hby d8_0) rfl rfl kt_) ?_
  show own_Go p e below s _ _ _ (s₁.setTop (mkF m 1 #[.val (.ref r0), .val (.ref r1), .val (.ref r2), .val (.int p3)] [(.ref r0)]))
  obtain ⟨_, _, ⟨T1, L1, k1, n1⟩, -, X1, ⟨Lc1, hQ1, l1, y1, z1⟩, st1⟩ := X0.specialBack hx (y := (⟨"java/lang/Record", "<init>", "()V"⟩ : MethodName)) rfl hown (mvT hZ (hw _ (List.mem_of_getElem? (i := 46) rfl))) (mvT hZ (hw _ (List.mem_of_getElem? (i := 47) rfl))) (mvT hZ (hw _ (List.mem_of_getElem? (i := 50) rfl))) (by decide) (backOf (W := 0) (rm9 l Z a0 hw [] (r0) h0 n0 Z0 ) hZ (hw _ (List.mem_of_getElem? (i := 50) rfl)) (hw _ (List.mem_of_getElem? (i := 49) rfl)) (by decide) (by decide)) (g := (mkF m 1 #[.val (.ref r0), .val (.ref r1), .val (.ref r2), .val (.int p3)] [(.ref r0)])) rfl (by rw [hml]; rfl) (Steps.refl _) (a := r0) (argsL := []) (rest := []) (lenOf pd_5 rfl) rfl (by show 2 * 0 + _ ≤ _; exact Nat.le_of_eq rfl) (hb hby d8_1) (fun _ _ => ⟨rfl, e0, (by decide : 0 + 0 ≤ _), (by decide : 0 + 0 ≤ _)⟩)
  dsimp only [Pt.U, Pt.locs, Pt.cells, Pt.slots] at X1 l1 y1 z1 st1 hQ1
  subst l1 y1 z1
  obtain ⟨rfl, Nq1, eh1⟩ := hQ1
  have N1 := Fr.app N0 Nq1
  refine own_go (fun t_ kt_ => st1.trans kt_) ?_
  obtain ⟨lo1, X1g, N1g⟩ : ∃ lo, Stand p l e ({ frames := 2, cells := 0, slots := 0, locals := 24 } : Room) s m #[(.ref r0), (.ref r1), (.ref r2), (.int p3)] below meth c T1 lo 0 0 ∧ Fr n0 lo := ⟨_, X1, N1⟩
  have e1 : T1.heap = h0 := eh1
  show own_Go p e below s _ _ _ (T1.setTop (mkF m 4 #[.val (.ref r0), .val (.ref r1), .val (.ref r2), .val (.int p3)] []))
  refine own_go (fun t_ kt_ => XS.aloadN X1g.here hx rfl (hb hby d8_4) rfl rfl kt_) ?_
  show own_Go p e below s _ _ _ (T1.setTop (mkF m 5 #[.val (.ref r0), .val (.ref r1), .val (.ref r2), .val (.int p3)] [(.ref r0)]))
  refine own_go (fun t_ kt_ => XS.aloadN X1g.here hx rfl (hb hby d8_5) rfl rfl kt_) ?_
  show own_Go p e below s _ _ _ (T1.setTop (mkF m 6 #[.val (.ref r0), .val (.ref r1), .val (.ref r2), .val (.int p3)] [(.ref r1), (.ref r0)]))
  obtain ⟨T2, h2, X2, e2, W2, st2⟩ := putF X1g hx hZ hown (host := "") (Or.inl (hw _ (List.mem_of_getElem? (i := 52) rfl))) Via.refl e1 F_kind E0 (Or.inr ⟨(hw _ (List.mem_of_getElem? (i := 53) rfl)), rfl, hnm⟩) (hw _ (List.mem_of_getElem? (i := 41) rfl)) (ty := (.object "com/example/lint_for_clocks/lintforclocks/model/Token$Kind")) (by decide) rfl rfl (g := (mkF m 6 #[.val (.ref r0), .val (.ref r1), .val (.ref r2), .val (.int p3)] [(.ref r1), (.ref r0)])) rfl rfl (hb hby d8_6)
  refine own_go (fun t_ kt_ => st2 _ kt_) ?_
  have N2 := Fr.snoc X2 N1g g0
  obtain ⟨lo2, X2g, N2g⟩ : ∃ lo, Stand p l e ({ frames := 2, cells := 0, slots := 0, locals := 24 } : Room) s m #[(.ref r0), (.ref r1), (.ref r2), (.int p3)] below meth c T2 lo 0 0 ∧ Fr n0 lo := ⟨_, X2, N2⟩
  have ZZ_2 : n0 ≤ h2.size := Nat.le_trans Z0 (Nat.le_of_eq W2.size.symm)
  have EE_2 : Exa Z h2 r0 "com/example/lint_for_clocks/lintforclocks/model/Token" := E0.wr W2
  have F_text_2 : Fld Z h2 r0 "com/example/lint_for_clocks/lintforclocks/model/Token" "text" "Ljava/lang/String;" .null := F_text.other W2 (Or.inr (slot_ne (Or.inr (hw _ (List.mem_of_getElem? (i := 55) rfl))) (Or.inr (hw _ (List.mem_of_getElem? (i := 53) rfl))) (by decide) (t := (.object "java/lang/String")) (t' := (.object "com/example/lint_for_clocks/lintforclocks/model/Token$Kind")) (by decide) (by decide)))
  have F_line_2 : Fld Z h2 r0 "com/example/lint_for_clocks/lintforclocks/model/Token" "line" "I" (.int (0 : Int32)) := F_line.other W2 (Or.inr (slot_ne (Or.inr (hw _ (List.mem_of_getElem? (i := 57) rfl))) (Or.inr (hw _ (List.mem_of_getElem? (i := 53) rfl))) (by decide) (t := .int) (t' := (.object "com/example/lint_for_clocks/lintforclocks/model/Token$Kind")) (by decide) (by decide)))
  have F_kind_2 : Fld Z h2 r0 "com/example/lint_for_clocks/lintforclocks/model/Token" "kind" "Lcom/example/lint_for_clocks/lintforclocks/model/Token$Kind;" (.ref r1) := F_kind.same W2
  have K2 : Keep h0 h2 [r0] := (Keep.refl h0 [r0]).wr W2 (Or.inl (by simp))
  show own_Go p e below s _ _ _ (T2.setTop (mkF m 9 #[.val (.ref r0), .val (.ref r1), .val (.ref r2), .val (.int p3)] []))
  refine own_go (fun t_ kt_ => XS.aloadN X2g.here hx rfl (hb hby d8_9) rfl rfl kt_) ?_
  show own_Go p e below s _ _ _ (T2.setTop (mkF m 10 #[.val (.ref r0), .val (.ref r1), .val (.ref r2), .val (.int p3)] [(.ref r0)]))
  refine own_go (fun t_ kt_ => XS.aloadN X2g.here hx rfl (hb hby d8_10) rfl rfl kt_) ?_
  show own_Go p e below s _ _ _ (T2.setTop (mkF m 11 #[.val (.ref r0), .val (.ref r1), .val (.ref r2), .val (.int p3)] [(.ref r2), (.ref r0)]))
  obtain ⟨T3, h3, X3, e3, W3, st3⟩ := putF X2g hx hZ hown (host := "") (Or.inl (hw _ (List.mem_of_getElem? (i := 54) rfl))) Via.refl e2 F_text_2 EE_2 (Or.inr ⟨(hw _ (List.mem_of_getElem? (i := 55) rfl)), rfl, hnm⟩) (hw _ (List.mem_of_getElem? (i := 41) rfl)) (ty := (.object "java/lang/String")) (by decide) rfl rfl (g := (mkF m 11 #[.val (.ref r0), .val (.ref r1), .val (.ref r2), .val (.int p3)] [(.ref r2), (.ref r0)])) rfl rfl (hb hby d8_11)
  refine own_go (fun t_ kt_ => st3 _ kt_) ?_
  have N3 := Fr.snoc X3 N2g g0
  obtain ⟨lo3, X3g, N3g⟩ : ∃ lo, Stand p l e ({ frames := 2, cells := 0, slots := 0, locals := 24 } : Room) s m #[(.ref r0), (.ref r1), (.ref r2), (.int p3)] below meth c T3 lo 0 0 ∧ Fr n0 lo := ⟨_, X3, N3⟩
  have ZZ_3 : n0 ≤ h3.size := Nat.le_trans ZZ_2 (Nat.le_of_eq W3.size.symm)
  have EE_3 : Exa Z h3 r0 "com/example/lint_for_clocks/lintforclocks/model/Token" := EE_2.wr W3
  have F_kind_3 : Fld Z h3 r0 "com/example/lint_for_clocks/lintforclocks/model/Token" "kind" "Lcom/example/lint_for_clocks/lintforclocks/model/Token$Kind;" (.ref r1) := F_kind_2.other W3 (Or.inr (slot_ne (Or.inr (hw _ (List.mem_of_getElem? (i := 53) rfl))) (Or.inr (hw _ (List.mem_of_getElem? (i := 55) rfl))) (by decide) (t := (.object "com/example/lint_for_clocks/lintforclocks/model/Token$Kind")) (t' := (.object "java/lang/String")) (by decide) (by decide)))
  have F_line_3 : Fld Z h3 r0 "com/example/lint_for_clocks/lintforclocks/model/Token" "line" "I" (.int (0 : Int32)) := F_line_2.other W3 (Or.inr (slot_ne (Or.inr (hw _ (List.mem_of_getElem? (i := 57) rfl))) (Or.inr (hw _ (List.mem_of_getElem? (i := 55) rfl))) (by decide) (t := .int) (t' := (.object "java/lang/String")) (by decide) (by decide)))
  have F_text_3 : Fld Z h3 r0 "com/example/lint_for_clocks/lintforclocks/model/Token" "text" "Ljava/lang/String;" (.ref r2) := F_text_2.same W3
  have K3 : Keep h0 h3 [r0] := K2.wr W3 (Or.inl (by simp))
  show own_Go p e below s _ _ _ (T3.setTop (mkF m 14 #[.val (.ref r0), .val (.ref r1), .val (.ref r2), .val (.int p3)] []))
  refine own_go (fun t_ kt_ => XS.aloadN X3g.here hx rfl (hb hby d8_14) rfl rfl kt_) ?_
  show own_Go p e below s _ _ _ (T3.setTop (mkF m 15 #[.val (.ref r0), .val (.ref r1), .val (.ref r2), .val (.int p3)] [(.ref r0)]))
  refine own_go (fun t_ kt_ => XS.iloadN X3g.here hx rfl (hb hby d8_15) rfl kt_) ?_
  show own_Go p e below s _ _ _ (T3.setTop (mkF m 16 #[.val (.ref r0), .val (.ref r1), .val (.ref r2), .val (.int p3)] [(.int p3), (.ref r0)]))
  obtain ⟨T4, h4, X4, e4, W4, st4⟩ := putF X3g hx hZ hown (host := "") (Or.inl (hw _ (List.mem_of_getElem? (i := 56) rfl))) Via.refl e3 F_line_3 EE_3 (Or.inr ⟨(hw _ (List.mem_of_getElem? (i := 57) rfl)), rfl, hnm⟩) (hw _ (List.mem_of_getElem? (i := 41) rfl)) (ty := .int) (by decide) rfl rfl (g := (mkF m 16 #[.val (.ref r0), .val (.ref r1), .val (.ref r2), .val (.int p3)] [(.int p3), (.ref r0)])) rfl rfl (hb hby d8_16)
  refine own_go (fun t_ kt_ => st4 _ kt_) ?_
  have N4 := Fr.snoc X4 N3g g0
  obtain ⟨lo4, X4g, N4g⟩ : ∃ lo, Stand p l e ({ frames := 2, cells := 0, slots := 0, locals := 24 } : Room) s m #[(.ref r0), (.ref r1), (.ref r2), (.int p3)] below meth c T4 lo 0 0 ∧ Fr n0 lo := ⟨_, X4, N4⟩
  have ZZ_4 : n0 ≤ h4.size := Nat.le_trans ZZ_3 (Nat.le_of_eq W4.size.symm)
  have EE_4 : Exa Z h4 r0 "com/example/lint_for_clocks/lintforclocks/model/Token" := EE_3.wr W4
  have F_kind_4 : Fld Z h4 r0 "com/example/lint_for_clocks/lintforclocks/model/Token" "kind" "Lcom/example/lint_for_clocks/lintforclocks/model/Token$Kind;" (.ref r1) := F_kind_3.other W4 (Or.inr (slot_ne (Or.inr (hw _ (List.mem_of_getElem? (i := 53) rfl))) (Or.inr (hw _ (List.mem_of_getElem? (i := 57) rfl))) (by decide) (t := (.object "com/example/lint_for_clocks/lintforclocks/model/Token$Kind")) (t' := .int) (by decide) (by decide)))
  have F_text_4 : Fld Z h4 r0 "com/example/lint_for_clocks/lintforclocks/model/Token" "text" "Ljava/lang/String;" (.ref r2) := F_text_3.other W4 (Or.inr (slot_ne (Or.inr (hw _ (List.mem_of_getElem? (i := 55) rfl))) (Or.inr (hw _ (List.mem_of_getElem? (i := 57) rfl))) (by decide) (t := (.object "java/lang/String")) (t' := .int) (by decide) (by decide)))
  have F_line_4 : Fld Z h4 r0 "com/example/lint_for_clocks/lintforclocks/model/Token" "line" "I" (.int p3) := F_line_3.same W4
  have K4 : Keep h0 h4 [r0] := K3.wr W4 (Or.inl (by simp))
  show own_Go p e below s _ _ _ (T4.setTop (mkF m 19 #[.val (.ref r0), .val (.ref r1), .val (.ref r2), .val (.int p3)] []))
  refine own_ret X4g (v := none) (fun _ => rfl) hlk ?_ (by decide) (by decide) (fun fs hr => X4g.returnOut hx hret (hb hby d8_19) hr)
  show Q8 Z r0 r1 r2 p3 h0 n0 (none) T4.heap _
  rw [e4]
  exact ⟨rfl, N4g, K4, F_kind_4, F_text_4⟩
def own_E (n1 n2 : Nat) (f1 f2 : Nat → Int32) : Prop := n1 = n2 ∧ ∀ j, j < n1 → f1 j = f2 j
def own_R (z : Int32) (P : Prop) : Prop := (z = 1 ∧ P) ∨ (z = 0 ∧ ¬ P)
theorem own_ti {n : Nat} (h : n ≤ 2) : (Nat.toInt32 n).toInt = (n : Int) := by
  show (Int32.ofNat n).toInt = _
  exact Int32.toInt_ofNat_of_lt (by omega)
theorem own_i1 {i : Int32} {k : Nat} (h : i.toInt = (k : Int)) (hk : k < 1000) : (i + 1).toInt = ((k + 1 : Nat) : Int) := by
  have e1 : (1 : Int32).toInt = 1 := by decide
  rw [Int32.toInt_add, h, e1]
  rw [Int.bmod_def]
  omega
theorem pn_5 : plainName "java/lang/StringLatin1" = true := by first | (simp [plainName, overriddenIn]; done) | decide +kernel
theorem d12_0 : decode jdk_43_method_13_code 0 = .ok (.aload_n 0, 1) := by decide +kernel
theorem d12_1 : decode jdk_43_method_13_code 1 = .ok (.arraylength, 1) := by decide +kernel
theorem d12_2 : decode jdk_43_method_13_code 2 = .ok (.aload_n 1, 1) := by decide +kernel
theorem d12_3 : decode jdk_43_method_13_code 3 = .ok (.arraylength, 1) := by decide +kernel
theorem d12_4 : decode jdk_43_method_13_code 4 = .ok (.if_icmp .ne 30, 3) := by decide +kernel
theorem d12_7 : decode jdk_43_method_13_code 7 = .ok (.iconst 0, 1) := by decide +kernel
theorem d12_8 : decode jdk_43_method_13_code 8 = .ok (.istore_n 2, 1) := by decide +kernel
theorem d12_9 : decode jdk_43_method_13_code 9 = .ok (.iload_n 2, 1) := by decide +kernel
theorem d12_10 : decode jdk_43_method_13_code 10 = .ok (.aload_n 0, 1) := by decide +kernel
theorem d12_11 : decode jdk_43_method_13_code 11 = .ok (.arraylength, 1) := by decide +kernel
theorem d12_12 : decode jdk_43_method_13_code 12 = .ok (.if_icmp .ge 20, 3) := by decide +kernel
theorem d12_15 : decode jdk_43_method_13_code 15 = .ok (.aload_n 0, 1) := by decide +kernel
theorem d12_16 : decode jdk_43_method_13_code 16 = .ok (.iload_n 2, 1) := by decide +kernel
theorem d12_17 : decode jdk_43_method_13_code 17 = .ok (.baload, 1) := by decide +kernel
theorem d12_18 : decode jdk_43_method_13_code 18 = .ok (.aload_n 1, 1) := by decide +kernel
theorem d12_19 : decode jdk_43_method_13_code 19 = .ok (.iload_n 2, 1) := by decide +kernel
theorem d12_20 : decode jdk_43_method_13_code 20 = .ok (.baload, 1) := by decide +kernel
theorem d12_21 : decode jdk_43_method_13_code 21 = .ok (.if_icmp .eq 5, 3) := by decide +kernel
theorem d12_26 : decode jdk_43_method_13_code 26 = .ok (.iinc 2 1, 3) := by decide +kernel
theorem d12_29 : decode jdk_43_method_13_code 29 = .ok (.goto (-20), 3) := by decide +kernel
theorem d12_24 : decode jdk_43_method_13_code 24 = .ok (.iconst 0, 1) := by decide +kernel
theorem d12_25 : decode jdk_43_method_13_code 25 = .ok (.ireturn, 1) := by decide +kernel
theorem d12_32 : decode jdk_43_method_13_code 32 = .ok (.iconst 1, 1) := by decide +kernel
theorem d12_33 : decode jdk_43_method_13_code 33 = .ok (.ireturn, 1) := by decide +kernel
theorem d12_34 : decode jdk_43_method_13_code 34 = .ok (.iconst 0, 1) := by decide +kernel
theorem d12_35 : decode jdk_43_method_13_code 35 = .ok (.ireturn, 1) := by decide +kernel
theorem ef_12 (m : MethodId) (r0 : Addr) (r1 : Addr) : entryFrame m #[(.ref r0), (.ref r1)] 3 = mkF m 0 #[.val (.ref r0), .val (.ref r1), .unset] [] := by first | (simp [entryFrame, mkF, argsToLocals, Value.category]; done) | rfl
def Q12 (Z : State) (r0 : Addr) (r1 : Addr) (n1 : Nat) (n2 : Nat) (f1 : Nat → Int32) (f2 : Nat → Int32) (h0 : Heap) (n0 : Nat) (v : Option Value) (h : Heap) (L : List Loc) : Prop := ∃ z : Int32, v = some (.int z) ∧ own_R z (own_E n1 n2 f1 f2) ∧ Fr n0 L ∧ h = h0
set_option maxRecDepth 65536 in
set_option maxHeartbeats 40000000 in
theorem rm12 (l : Launch) (Z : State) (a0 : Array Value) (hw : ∀ d ∈ tables_1, d.before a0 Z = true) (ws : List Jvm.Cond) (r0 : Addr) (r1 : Addr) (n1 : Nat) (n2 : Nat) (f1 : Nat → Int32) (f2 : Nat → Int32) (h0 : Heap) (n0 : Nat) (Z0 : n0 ≤ h0.size) (VA0 : own_Ary Z h0 r0 .byte n1 (fun j => .int (f1 j))) (VB0 : own_Ary Z h0 r1 .byte n2 (fun j => .int (f2 j))) (hn1 : n1 ≤ 2) (hn2 : n2 ≤ 2) :
    MetFree l (⟨"java/lang/StringLatin1", "equals", "([B[B)Z"⟩ : MethodName) (head1 (Jvm.Cond.code (⟨"java/lang/StringLatin1", "equals", "([B[B)Z"⟩ : MethodName) jdk_43_method_13_code 3 (some .boolean) :: ws) ({ frames := 0, cells := 0, slots := 0, locals := 0 } : Room)) (fun a U => a = #[(.ref r0), (.ref r1)] ∧ Z.Warmed39 U.vm ∧ U.heap = h0) (fun _ _ _ _ _ => True) (fun _ U o U' => ∃ v L, o = .returned v ∧ Q12 Z r0 r1 n1 n2 f1 f2 h0 n0 v U'.heap L ∧ FrameEnd U o U' L (({ frames := 0, cells := 0, slots := 0, locals := 0 } : Room)).cells (({ frames := 0, cells := 0, slots := 0, locals := 0 } : Room)).slots) := by
  refine MetFree.of_bodySF (plainFor_of_name pn_5) hisR ?_
  intro p e s m args below meth c s₁ Bd hml0 hP hK
  obtain ⟨rfl, hZ, hh⟩ := hP
  have hx := Bd.exec
  have hby := Bd.bytes
  have hml : c.maxLocals = 3 := hml0
  have hown : s.vm.findClass "java/lang/StringLatin1" = some m.cls := findClass_of_methodNamed Bd.named
  have hnm := (name_of_methodNamed Bd.named Bd.method).1
  have hlk : meth.locks = false := Bd.notSynchronized
  have X0 : Stand p l e ({ frames := 0, cells := 0, slots := 0, locals := 0 } : Room) s m #[(.ref r0), (.ref r1)] below meth c s₁ [] 0 0 := Stand.of_body Bd
  have e0 : s₁.heap = h0 := by rw [← hh, Bd.state]; rfl
  have N0 := Fr.nil n0
  have hret := Bd.returns
  show own_Go p e below s (Q12 Z r0 r1 n1 n2 f1 f2 h0 n0) _ _ (s₁.setTop (entryFrame m #[(.ref r0), (.ref r1)] 3))
  refine own_go (fun t k => castTop (ef_12 m r0 r1) k) ?_
  show own_Go p e below s _ _ _ (s₁.setTop (mkF m 0 #[.val (.ref r0), .val (.ref r1), .unset] []))
  refine own_go (fun t_ kt_ => XS.aloadN X0.here hx rfl (hb hby d12_0) rfl rfl kt_) ?_
  show own_Go p e below s _ _ _ (s₁.setTop (mkF m 1 #[.val (.ref r0), .val (.ref r1), .unset] [(.ref r0)]))
  obtain ⟨ce1, Ar1, S1, G1⟩ := id VA0
  have q1 : ce1.slots.size.toInt32 = (Nat.toInt32 n1) := (congrArg Nat.toInt32 S1).trans rfl
  refine own_go (fun t_ kt_ => X0.arraylength hx (by rw [e0]; exact Ar1.1) (State.isArrayOf_alike hZ.alike Ar1.2.1) (g := (mkF m 1 #[.val (.ref r0), .val (.ref r1), .unset] [(.ref r0)])) rfl rfl (hb hby d12_1) _ (by rw [q1]; exact kt_)) ?_
  show own_Go p e below s _ _ _ (s₁.setTop (mkF m 2 #[.val (.ref r0), .val (.ref r1), .unset] [(.int (Nat.toInt32 n1))]))
  refine own_go (fun t_ kt_ => XS.aloadN X0.here hx rfl (hb hby d12_2) rfl rfl kt_) ?_
  show own_Go p e below s _ _ _ (s₁.setTop (mkF m 3 #[.val (.ref r0), .val (.ref r1), .unset] [(.ref r1), (.int (Nat.toInt32 n1))]))
  obtain ⟨ce2, Ar2, S2, G2⟩ := id VB0
  have q2 : ce2.slots.size.toInt32 = (Nat.toInt32 n2) := (congrArg Nat.toInt32 S2).trans rfl
  refine own_go (fun t_ kt_ => X0.arraylength hx (by rw [e0]; exact Ar2.1) (State.isArrayOf_alike hZ.alike Ar2.2.1) (g := (mkF m 3 #[.val (.ref r0), .val (.ref r1), .unset] [(.ref r1), (.int (Nat.toInt32 n1))])) rfl rfl (hb hby d12_3) _ (by rw [q2]; exact kt_)) ?_
  show own_Go p e below s _ _ _ (s₁.setTop (mkF m 4 #[.val (.ref r0), .val (.ref r1), .unset] [(.int (Nat.toInt32 n2)), (.int (Nat.toInt32 n1))]))
  by_cases hc4 : (Nat.toInt32 n1) = (Nat.toInt32 n2)
  · skip
    have hi4 : ((Nat.toInt32 n1)).toInt = ((Nat.toInt32 n2)).toInt := congrArg Int32.toInt hc4
    refine own_go (fun t_ kt_ => XS.icmpNo X0.here hx rfl (hb hby d12_4) rfl (teq hc4).2 kt_) ?_
    show own_Go p e below s _ _ _ (s₁.setTop (mkF m 7 #[.val (.ref r0), .val (.ref r1), .unset] []))
    have hn12 : n1 = n2 := by have a1 := own_ti hn1; have a2 := own_ti hn2; omega
    refine own_go (fun t_ kt_ => XS.iconst X0.here hx rfl (hb hby d12_7) kt_) ?_
    show own_Go p e below s _ _ _ (s₁.setTop (mkF m 8 #[.val (.ref r0), .val (.ref r1), .unset] [(.int (0 : Int32))]))
    refine own_go (fun t_ kt_ => XS.istoreN X0.here hx rfl (hb hby d12_8) rfl (l' := #[.val (.ref r0), .val (.ref r1), .val (.int (0 : Int32))]) rfl kt_) ?_
    show own_Go p e below s _ _ _ (s₁.setTop (mkF m 9 #[.val (.ref r0), .val (.ref r1), .val (.int (0 : Int32))] []))
    have J9 : ∀ (kk : Nat) (T3 : State) (locs3 : List Loc) (X3 : Stand p l e ({ frames := 0, cells := 0, slots := 0, locals := 0 } : Room) s m #[(.ref r0), (.ref r1)] below meth c T3 locs3 0 0) (e3 : T3.heap = h0) (N3 : Fr n0 locs3) (i : Int32) (kn : Nat) (hin : i.toInt = (kn : Int)) (hkn : kn ≤ n1) (hpre : ∀ j, j < kn → f1 j = f2 j) (hm : kk = n1 - kn), own_Go p e below s (Q12 Z r0 r1 n1 n2 f1 f2 h0 n0) (({ frames := 0, cells := 0, slots := 0, locals := 0 } : Room)).cells (({ frames := 0, cells := 0, slots := 0, locals := 0 } : Room)).slots (T3.setTop (mkF m 9 #[.val (.ref r0), .val (.ref r1), .val (.int i)] [])) := by
      intro kk
      induction kk using Nat.strongRecOn with
      | ind kk ih =>
        intro T3 locs3 X3 e3 N3 i kn hin hkn hpre hm
        refine own_go (fun t_ kt_ => XS.iloadN X3.here hx rfl (hb hby d12_9) rfl kt_) ?_
        show own_Go p e below s _ _ _ (T3.setTop (mkF m 10 #[.val (.ref r0), .val (.ref r1), .val (.int i)] [(.int i)]))
        refine own_go (fun t_ kt_ => XS.aloadN X3.here hx rfl (hb hby d12_10) rfl rfl kt_) ?_
        show own_Go p e below s _ _ _ (T3.setTop (mkF m 11 #[.val (.ref r0), .val (.ref r1), .val (.int i)] [(.ref r0), (.int i)]))
        obtain ⟨ce4, Ar4, S4, G4⟩ := id VA0
        have q4 : ce4.slots.size.toInt32 = (Nat.toInt32 n1) := (congrArg Nat.toInt32 S4).trans rfl
        refine own_go (fun t_ kt_ => X3.arraylength hx (by rw [e3]; exact Ar4.1) (State.isArrayOf_alike hZ.alike Ar4.2.1) (g := (mkF m 11 #[.val (.ref r0), .val (.ref r1), .val (.int i)] [(.ref r0), (.int i)])) rfl rfl (hb hby d12_11) _ (by rw [q4]; exact kt_)) ?_
        show own_Go p e below s _ _ _ (T3.setTop (mkF m 12 #[.val (.ref r0), .val (.ref r1), .val (.int i)] [(.int (Nat.toInt32 n1)), (.int i)]))
        by_cases hc12 : i < (Nat.toInt32 n1)
        · skip
          have hi12 : i.toInt < ((Nat.toInt32 n1)).toInt := Int32.lt_iff_toInt_lt.mp hc12
          refine own_go (fun t_ kt_ => XS.icmpNo X3.here hx rfl (hb hby d12_12) rfl (tlt hc12).2.1 kt_) ?_
          show own_Go p e below s _ _ _ (T3.setTop (mkF m 15 #[.val (.ref r0), .val (.ref r1), .val (.int i)] []))
          refine own_go (fun t_ kt_ => XS.aloadN X3.here hx rfl (hb hby d12_15) rfl rfl kt_) ?_
          show own_Go p e below s _ _ _ (T3.setTop (mkF m 16 #[.val (.ref r0), .val (.ref r1), .val (.int i)] [(.ref r0)]))
          refine own_go (fun t_ kt_ => XS.iloadN X3.here hx rfl (hb hby d12_16) rfl kt_) ?_
          show own_Go p e below s _ _ _ (T3.setTop (mkF m 17 #[.val (.ref r0), .val (.ref r1), .val (.int i)] [(.int i), (.ref r0)]))
          obtain ⟨ce5, Ar5, S5, G5⟩ := id VA0
          have q5 : ce5.slots[(i).toNatClampNeg]? = some (.int (f1 kn)) := by rw [own_cl (j := i) (i := kn) hin]; exact (G5 _ (by have := own_ti hn1; omega)).trans (congrArg some (rfl))
          refine own_go (fun t_ kt_ => X3.baloadBytes hx (j := i) (v := (.int (f1 kn))) (by rw [e3]; exact Ar5.1) (State.isArrayOf_alike hZ.alike Ar5.2.1) Ar5.2.2 (own_in (i := kn) S5 hin (by have := own_ti hn1; omega)) q5 (g := (mkF m 17 #[.val (.ref r0), .val (.ref r1), .val (.int i)] [(.int i), (.ref r0)])) rfl rfl (hb hby d12_17) _ kt_) ?_
          show own_Go p e below s _ _ _ (T3.setTop (mkF m 18 #[.val (.ref r0), .val (.ref r1), .val (.int i)] [(.int (f1 kn))]))
          refine own_go (fun t_ kt_ => XS.aloadN X3.here hx rfl (hb hby d12_18) rfl rfl kt_) ?_
          show own_Go p e below s _ _ _ (T3.setTop (mkF m 19 #[.val (.ref r0), .val (.ref r1), .val (.int i)] [(.ref r1), (.int (f1 kn))]))
          refine own_go (fun t_ kt_ => XS.iloadN X3.here hx rfl (hb hby d12_19) rfl kt_) ?_
          show own_Go p e below s _ _ _ (T3.setTop (mkF m 20 #[.val (.ref r0), .val (.ref r1), .val (.int i)] [(.int i), (.ref r1), (.int (f1 kn))]))
          obtain ⟨ce6, Ar6, S6, G6⟩ := id VB0
          have q6 : ce6.slots[(i).toNatClampNeg]? = some (.int (f2 kn)) := by rw [own_cl (j := i) (i := kn) hin]; exact (G6 _ (by have := own_ti hn1; omega)).trans (congrArg some (rfl))
          refine own_go (fun t_ kt_ => X3.baloadBytes hx (j := i) (v := (.int (f2 kn))) (by rw [e3]; exact Ar6.1) (State.isArrayOf_alike hZ.alike Ar6.2.1) Ar6.2.2 (own_in (i := kn) S6 hin (by have := own_ti hn1; omega)) q6 (g := (mkF m 20 #[.val (.ref r0), .val (.ref r1), .val (.int i)] [(.int i), (.ref r1), (.int (f1 kn))])) rfl rfl (hb hby d12_20) _ kt_) ?_
          show own_Go p e below s _ _ _ (T3.setTop (mkF m 21 #[.val (.ref r0), .val (.ref r1), .val (.int i)] [(.int (f2 kn)), (.int (f1 kn))]))
          by_cases hc21 : (f1 kn) = (f2 kn)
          · skip
            have hi21 : ((f1 kn)).toInt = ((f2 kn)).toInt := congrArg Int32.toInt hc21
            refine own_go (fun t_ kt_ => XS.icmpYes X3.here hx rfl (pc0 := 21) (pc' := 26) rfl (hb hby d12_21) rfl (teq hc21).1 (by decide) (by decide) kt_) ?_
            show own_Go p e below s _ _ _ (T3.setTop (mkF m 26 #[.val (.ref r0), .val (.ref r1), .val (.int i)] []))
            refine own_go (fun t_ kt_ => XS.iinc X3.here hx rfl (hb hby d12_26) rfl (l' := #[.val (.ref r0), .val (.ref r1), .val (.int (i + (1 : Int32)))]) rfl kt_) ?_
            show own_Go p e below s _ _ _ (T3.setTop (mkF m 29 #[.val (.ref r0), .val (.ref r1), .val (.int (i + (1 : Int32)))] []))
            refine own_go (fun t_ kt_ => XS.goto X3.here hx rfl (pc0 := 29) (pc' := 9) rfl (hb hby d12_29) (by decide) (by decide) kt_) ?_
            show own_Go p e below s _ _ _ (T3.setTop (mkF m 9 #[.val (.ref r0), .val (.ref r1), .val (.int (i + (1 : Int32)))] []))
            exact ih (n1 - (kn + 1)) (by have := own_ti hn1; omega) T3 _ X3 e3 N3 ((i + (1 : Int32))) ((kn + 1))  (own_i1 hin (by omega)) (by have := own_ti hn1; omega) (fun j hj => by
                  by_cases e : j = kn
                  · rw [e]; exact hc21
                  · exact hpre j (by omega)) (rfl)
          · skip
            have hi21 : ¬ ((f1 kn)).toInt = ((f2 kn)).toInt := fun q => hc21 (Int32.toInt_inj.mp q)
            refine own_go (fun t_ kt_ => XS.icmpNo X3.here hx rfl (hb hby d12_21) rfl (feq hc21).1 kt_) ?_
            show own_Go p e below s _ _ _ (T3.setTop (mkF m 24 #[.val (.ref r0), .val (.ref r1), .val (.int i)] []))
            refine own_go (fun t_ kt_ => XS.iconst X3.here hx rfl (hb hby d12_24) kt_) ?_
            show own_Go p e below s _ _ _ (T3.setTop (mkF m 25 #[.val (.ref r0), .val (.ref r1), .val (.int i)] [(.int (0 : Int32))]))
            refine own_ret X3 (v := some (.int (0 : Int32))) (fun h => by rw [hret] at h; cases h) hlk ?_ (by decide) (by decide) (fun fs hr => retN X3 hx (t := .boolean) hret (by simp) (hb hby d12_25) hr)
            show Q12 Z r0 r1 n1 n2 f1 f2 h0 n0 (some (.int (0 : Int32))) T3.heap _
            rw [e3]
            exact ⟨0, rfl, Or.inr ⟨rfl, fun q => by first | exact hc21 (q.2 kn (by have := own_ti hn1; omega)) | exact hc4 (congrArg Nat.toInt32 q.1)⟩, N3, rfl⟩
        · skip
          have hi12 : ¬ i.toInt < ((Nat.toInt32 n1)).toInt := fun q => hc12 (Int32.lt_iff_toInt_lt.mpr q)
          refine own_go (fun t_ kt_ => XS.icmpYes X3.here hx rfl (pc0 := 12) (pc' := 32) rfl (hb hby d12_12) rfl (flt hc12).2.1 (by decide) (by decide) kt_) ?_
          show own_Go p e below s _ _ _ (T3.setTop (mkF m 32 #[.val (.ref r0), .val (.ref r1), .val (.int i)] []))
          refine own_go (fun t_ kt_ => XS.iconst X3.here hx rfl (hb hby d12_32) kt_) ?_
          show own_Go p e below s _ _ _ (T3.setTop (mkF m 33 #[.val (.ref r0), .val (.ref r1), .val (.int i)] [(.int (1 : Int32))]))
          refine own_ret X3 (v := some (.int (1 : Int32))) (fun h => by rw [hret] at h; cases h) hlk ?_ (by decide) (by decide) (fun fs hr => retN X3 hx (t := .boolean) hret (by simp) (hb hby d12_33) hr)
          show Q12 Z r0 r1 n1 n2 f1 f2 h0 n0 (some (.int (1 : Int32))) T3.heap _
          rw [e3]
          exact ⟨1, rfl, Or.inl ⟨rfl, hn12, fun j hj => hpre j (by have := own_ti hn1; omega)⟩, N3, rfl⟩
    exact J9 (n1 - 0) s₁ _ X0 e0 N0 ((0 : Int32)) (0)  (by rfl) (Nat.zero_le _) (fun j hj => absurd hj (Nat.not_lt_zero j)) (rfl)
  · skip
    have hi4 : ¬ ((Nat.toInt32 n1)).toInt = ((Nat.toInt32 n2)).toInt := fun q => hc4 (Int32.toInt_inj.mp q)
    refine own_go (fun t_ kt_ => XS.icmpYes X0.here hx rfl (pc0 := 4) (pc' := 34) rfl (hb hby d12_4) rfl (feq hc4).2 (by decide) (by decide) kt_) ?_
    show own_Go p e below s _ _ _ (s₁.setTop (mkF m 34 #[.val (.ref r0), .val (.ref r1), .unset] []))
    refine own_go (fun t_ kt_ => XS.iconst X0.here hx rfl (hb hby d12_34) kt_) ?_
    show own_Go p e below s _ _ _ (s₁.setTop (mkF m 35 #[.val (.ref r0), .val (.ref r1), .unset] [(.int (0 : Int32))]))
    refine own_ret X0 (v := some (.int (0 : Int32))) (fun h => by rw [hret] at h; cases h) hlk ?_ (by decide) (by decide) (fun fs hr => retN X0 hx (t := .boolean) hret (by simp) (hb hby d12_35) hr)
    show Q12 Z r0 r1 n1 n2 f1 f2 h0 n0 (some (.int (0 : Int32))) s₁.heap _
    rw [e0]
    exact ⟨0, rfl, Or.inr ⟨rfl, fun q => by first | exact hc21 (q.2 kn (by have := own_ti hn1; omega)) | exact hc4 (congrArg Nat.toInt32 q.1)⟩, N0, rfl⟩
theorem d11_0 : decode jdk_42_method_66_code 0 = .ok (.aload_n 0, 1) := by decide +kernel
theorem d11_1 : decode jdk_42_method_66_code 1 = .ok (.aload_n 1, 1) := by decide +kernel
theorem d11_2 : decode jdk_42_method_66_code 2 = .ok (.if_acmp .ne 5, 3) := by decide +kernel
theorem d11_7 : decode jdk_42_method_66_code 7 = .ok (.aload_n 1, 1) := by decide +kernel
theorem d11_8 : decode jdk_42_method_66_code 8 = .ok (.instanceof 10, 3) := by decide +kernel
theorem d11_11 : decode jdk_42_method_66_code 11 = .ok (.ifCond .eq 43, 3) := by decide +kernel
theorem d11_14 : decode jdk_42_method_66_code 14 = .ok (.aload_n 1, 1) := by decide +kernel
theorem d11_15 : decode jdk_42_method_66_code 15 = .ok (.checkcast 10, 3) := by decide +kernel
theorem d11_18 : decode jdk_42_method_66_code 18 = .ok (.astore_n 2, 1) := by decide +kernel
theorem d11_19 : decode jdk_42_method_66_code 19 = .ok (.getstatic 38, 3) := by decide +kernel
theorem d11_22 : decode jdk_42_method_66_code 22 = .ok (.ifCond .eq 14, 3) := by decide +kernel
theorem d11_25 : decode jdk_42_method_66_code 25 = .ok (.aload_n 0, 1) := by decide +kernel
theorem d11_26 : decode jdk_42_method_66_code 26 = .ok (.getfield 15, 3) := by decide +kernel
theorem d11_29 : decode jdk_42_method_66_code 29 = .ok (.aload_n 2, 1) := by decide +kernel
theorem d11_30 : decode jdk_42_method_66_code 30 = .ok (.getfield 15, 3) := by decide +kernel
theorem d11_33 : decode jdk_42_method_66_code 33 = .ok (.if_icmp .ne 21, 3) := by decide +kernel
theorem d11_36 : decode jdk_42_method_66_code 36 = .ok (.aload_n 0, 1) := by decide +kernel
theorem d11_37 : decode jdk_42_method_66_code 37 = .ok (.getfield 9, 3) := by decide +kernel
theorem d11_40 : decode jdk_42_method_66_code 40 = .ok (.aload_n 2, 1) := by decide +kernel
theorem d11_41 : decode jdk_42_method_66_code 41 = .ok (.getfield 9, 3) := by decide +kernel
theorem d11_44 : decode jdk_42_method_66_code 44 = .ok (.invokestatic 541, 3) := by decide +kernel
theorem pd_6 : parseMethodDescriptor "([B[B)Z" = some ⟨[(.array .byte), (.array .byte)], some .boolean⟩ := by decide +kernel
theorem d11_47 : decode jdk_42_method_66_code 47 = .ok (.ifCond .eq 7, 3) := by decide +kernel
theorem d11_54 : decode jdk_42_method_66_code 54 = .ok (.iconst 0, 1) := by decide +kernel
theorem d11_55 : decode jdk_42_method_66_code 55 = .ok (.ireturn, 1) := by decide +kernel
theorem d11_50 : decode jdk_42_method_66_code 50 = .ok (.iconst 1, 1) := by decide +kernel
theorem d11_51 : decode jdk_42_method_66_code 51 = .ok (.goto 4, 3) := by decide +kernel
theorem ef_11 (m : MethodId) (r0 : Addr) (r1 : Addr) : entryFrame m #[(.ref r0), (.ref r1)] 3 = mkF m 0 #[.val (.ref r0), .val (.ref r1), .unset] [] := by first | (simp [entryFrame, mkF, argsToLocals, Value.category]; done) | rfl
def Q11 (Z : State) (r0 : Addr) (r1 : Addr) (b0 : Addr) (b1 : Addr) (cs : Int32) (n1 : Nat) (n2 : Nat) (f1 : Nat → Int32) (f2 : Nat → Int32) (h0 : Heap) (n0 : Nat) (v : Option Value) (h : Heap) (L : List Loc) : Prop := ∃ z : Int32, v = some (.int z) ∧ own_R z (own_E n1 n2 f1 f2) ∧ Fr n0 L ∧ h = h0
set_option maxRecDepth 65536 in
set_option maxHeartbeats 40000000 in
theorem rm11 (l : Launch) (Z : State) (a0 : Array Value) (hw : ∀ d ∈ tables_1, d.before a0 Z = true) (ws : List Jvm.Cond) (r0 : Addr) (r1 : Addr) (b0 : Addr) (b1 : Addr) (cs : Int32) (n1 : Nat) (n2 : Nat) (f1 : Nat → Int32) (f2 : Nat → Int32) (h0 : Heap) (n0 : Nat) (Z0 : n0 ≤ h0.size) (uE : Exa Z h0 r0 "java/lang/String") (uC : Fld Z h0 r0 "java/lang/String" "coder" "B" (.int (0 : Int32))) (uV : Fld Z h0 r0 "java/lang/String" "value" "[B" (.ref b0)) (uA : own_Ary Z h0 b0 .byte n1 (fun j => .int (f1 j))) (vE : Exa Z h0 r1 "java/lang/String") (vC : Fld Z h0 r1 "java/lang/String" "coder" "B" (.int (0 : Int32))) (vV : Fld Z h0 r1 "java/lang/String" "value" "[B" (.ref b1)) (vA : own_Ary Z h0 b1 .byte n2 (fun j => .int (f2 j))) (hn1 : n1 ≤ 2) (hn2 : n2 ≤ 2) (SC0 : Sta Z h0 "java/lang/String" "COMPACT_STRINGS" "Z" (.int cs)) (hcs : ¬ cs = (0 : Int32)) (ne01 : r0 ≠ r1) :
    MetFree l (⟨"java/lang/String", "equals", "(Ljava/lang/Object;)Z"⟩ : MethodName) (head1 (Jvm.Cond.code (⟨"java/lang/String", "equals", "(Ljava/lang/Object;)Z"⟩ : MethodName) jdk_42_method_66_code 3 (some .boolean) :: ws) ({ frames := 1, cells := 0, slots := 0, locals := 14 } : Room)) (fun a U => a = #[(.ref r0), (.ref r1)] ∧ Z.Warmed39 U.vm ∧ U.heap = h0) (fun _ _ _ _ _ => True) (fun _ U o U' => ∃ v L, o = .returned v ∧ Q11 Z r0 r1 b0 b1 cs n1 n2 f1 f2 h0 n0 v U'.heap L ∧ FrameEnd U o U' L (({ frames := 1, cells := 0, slots := 0, locals := 14 } : Room)).cells (({ frames := 1, cells := 0, slots := 0, locals := 14 } : Room)).slots) := by
  refine MetFree.of_bodySF (plainFor_of_name pn_1) hisR ?_
  intro p e s m args below meth c s₁ Bd hml0 hP hK
  obtain ⟨rfl, hZ, hh⟩ := hP
  have hx := Bd.exec
  have hby := Bd.bytes
  have hml : c.maxLocals = 3 := hml0
  have hown : s.vm.findClass "java/lang/String" = some m.cls := findClass_of_methodNamed Bd.named
  have hnm := (name_of_methodNamed Bd.named Bd.method).1
  have hlk : meth.locks = false := Bd.notSynchronized
  have X0 : Stand p l e ({ frames := 1, cells := 0, slots := 0, locals := 14 } : Room) s m #[(.ref r0), (.ref r1)] below meth c s₁ [] 0 0 := Stand.of_body Bd
  have e0 : s₁.heap = h0 := by rw [← hh, Bd.state]; rfl
  have N0 := Fr.nil n0
  have hret := Bd.returns
  show own_Go p e below s (Q11 Z r0 r1 b0 b1 cs n1 n2 f1 f2 h0 n0) _ _ (s₁.setTop (entryFrame m #[(.ref r0), (.ref r1)] 3))
  refine own_go (fun t k => castTop (ef_11 m r0 r1) k) ?_
  show own_Go p e below s _ _ _ (s₁.setTop (mkF m 0 #[.val (.ref r0), .val (.ref r1), .unset] []))
  refine own_go (fun t_ kt_ => XS.aloadN X0.here hx rfl (hb hby d11_0) rfl rfl kt_) ?_
  show own_Go p e below s _ _ _ (s₁.setTop (mkF m 1 #[.val (.ref r0), .val (.ref r1), .unset] [(.ref r0)]))
  refine own_go (fun t_ kt_ => XS.aloadN X0.here hx rfl (hb hby d11_1) rfl rfl kt_) ?_
  show own_Go p e below s _ _ _ (s₁.setTop (mkF m 2 #[.val (.ref r0), .val (.ref r1), .unset] [(.ref r1), (.ref r0)]))
  refine own_go (fun t_ kt_ => Jvm.RoadKit.acmp (g := (mkF m 2 #[.val (.ref r0), .val (.ref r1), .unset] [(.ref r1), (.ref r0)])) X0 hx rfl rfl rfl (pc0 := 2) (pc' := 7) (same := false) rfl (hb hby d11_2) rfl (decide_eq_false (fun q => ne01 (Value.ref.inj q))) (by decide) (by decide) kt_) ?_
  show own_Go p e below s _ _ _ (s₁.setTop (mkF m 7 #[.val (.ref r0), .val (.ref r1), .unset] []))
  refine own_go (fun t_ kt_ => XS.aloadN X0.here hx rfl (hb hby d11_7) rfl rfl kt_) ?_
  show own_Go p e below s _ _ _ (s₁.setTop (mkF m 8 #[.val (.ref r0), .val (.ref r1), .unset] [(.ref r1)]))
  obtain ⟨T1, X1, e1, st1⟩ := instY X0 hx hZ hown (hw _ (List.mem_of_getElem? (i := 72) rfl)) e0 (Ins.self vE) (g := (mkF m 8 #[.val (.ref r0), .val (.ref r1), .unset] [(.ref r1)])) rfl rfl (hb hby d11_8)
  refine own_go (fun t_ kt_ => st1 _ kt_) ?_
  show own_Go p e below s _ _ _ (T1.setTop (mkF m 11 #[.val (.ref r0), .val (.ref r1), .unset] [(.int (1 : Int32))]))
  refine own_go (fun t_ kt_ => XS.ifNo X1.here hx rfl (hb hby d11_11) rfl ((if0 _ _).trans (feq (by decide)).1) kt_) ?_
  show own_Go p e below s _ _ _ (T1.setTop (mkF m 14 #[.val (.ref r0), .val (.ref r1), .unset] []))
  refine own_go (fun t_ kt_ => XS.aloadN X1.here hx rfl (hb hby d11_14) rfl rfl kt_) ?_
  show own_Go p e below s _ _ _ (T1.setTop (mkF m 15 #[.val (.ref r0), .val (.ref r1), .unset] [(.ref r1)]))
  obtain ⟨T2, X2, e2, st2⟩ := castY X1 hx hZ hown (hw _ (List.mem_of_getElem? (i := 72) rfl)) e1 (Ins.self vE) (g := (mkF m 15 #[.val (.ref r0), .val (.ref r1), .unset] [(.ref r1)])) rfl rfl (hb hby d11_15)
  refine own_go (fun t_ kt_ => st2 _ kt_) ?_
  show own_Go p e below s _ _ _ (T2.setTop (mkF m 18 #[.val (.ref r0), .val (.ref r1), .unset] [(.ref r1)]))
  refine own_go (fun t_ kt_ => XS.astoreN X2.here hx rfl (hb hby d11_18) rfl rfl (l' := #[.val (.ref r0), .val (.ref r1), .val (.ref r1)]) rfl kt_) ?_
  show own_Go p e below s _ _ _ (T2.setTop (mkF m 19 #[.val (.ref r0), .val (.ref r1), .val (.ref r1)] []))
  obtain ⟨T3, X3, e3, st3⟩ := getS2 X2 hx hZ hown (host := "") (Or.inl (hw _ (List.mem_of_getElem? (i := 21) rfl))) Via.refl e2 SC0 (g := (mkF m 19 #[.val (.ref r0), .val (.ref r1), .val (.ref r1)] [])) rfl (hb hby d11_19)
  refine own_go (fun t_ kt_ => st3 _ kt_) ?_
  show own_Go p e below s _ _ _ (T3.setTop (mkF m 22 #[.val (.ref r0), .val (.ref r1), .val (.ref r1)] [(.int cs)]))
  refine own_go (fun t_ kt_ => XS.ifNo X3.here hx rfl (hb hby d11_22) rfl ((if0 _ _).trans (feq hcs).1) kt_) ?_
  show own_Go p e below s _ _ _ (T3.setTop (mkF m 25 #[.val (.ref r0), .val (.ref r1), .val (.ref r1)] []))
  refine own_go (fun t_ kt_ => XS.aloadN X3.here hx rfl (hb hby d11_25) rfl rfl kt_) ?_
  show own_Go p e below s _ _ _ (T3.setTop (mkF m 26 #[.val (.ref r0), .val (.ref r1), .val (.ref r1)] [(.ref r0)]))
  obtain ⟨T4, X4, e4, st4⟩ := getF X3 hx hZ hown (host := "") (Or.inl (hw _ (List.mem_of_getElem? (i := 33) rfl))) Via.refl e3 uC (g := (mkF m 26 #[.val (.ref r0), .val (.ref r1), .val (.ref r1)] [(.ref r0)])) rfl rfl (hb hby d11_26)
  refine own_go (fun t_ kt_ => st4 _ kt_) ?_
  show own_Go p e below s _ _ _ (T4.setTop (mkF m 29 #[.val (.ref r0), .val (.ref r1), .val (.ref r1)] [(.int (0 : Int32))]))
  refine own_go (fun t_ kt_ => XS.aloadN X4.here hx rfl (hb hby d11_29) rfl rfl kt_) ?_
  show own_Go p e below s _ _ _ (T4.setTop (mkF m 30 #[.val (.ref r0), .val (.ref r1), .val (.ref r1)] [(.ref r1), (.int (0 : Int32))]))
  obtain ⟨T5, X5, e5, st5⟩ := getF X4 hx hZ hown (host := "") (Or.inl (hw _ (List.mem_of_getElem? (i := 33) rfl))) Via.refl e4 vC (g := (mkF m 30 #[.val (.ref r0), .val (.ref r1), .val (.ref r1)] [(.ref r1), (.int (0 : Int32))])) rfl rfl (hb hby d11_30)
  refine own_go (fun t_ kt_ => st5 _ kt_) ?_
  show own_Go p e below s _ _ _ (T5.setTop (mkF m 33 #[.val (.ref r0), .val (.ref r1), .val (.ref r1)] [(.int (0 : Int32)), (.int (0 : Int32))]))
  refine own_go (fun t_ kt_ => XS.icmpNo X5.here hx rfl (hb hby d11_33) rfl (teq (by decide)).2 kt_) ?_
  show own_Go p e below s _ _ _ (T5.setTop (mkF m 36 #[.val (.ref r0), .val (.ref r1), .val (.ref r1)] []))
  refine own_go (fun t_ kt_ => XS.aloadN X5.here hx rfl (hb hby d11_36) rfl rfl kt_) ?_
  show own_Go p e below s _ _ _ (T5.setTop (mkF m 37 #[.val (.ref r0), .val (.ref r1), .val (.ref r1)] [(.ref r0)]))
  obtain ⟨T6, X6, e6, st6⟩ := getF X5 hx hZ hown (host := "") (Or.inl (hw _ (List.mem_of_getElem? (i := 35) rfl))) Via.refl e5 uV (g := (mkF m 37 #[.val (.ref r0), .val (.ref r1), .val (.ref r1)] [(.ref r0)])) rfl rfl (hb hby d11_37)
  refine own_go (fun t_ kt_ => st6 _ kt_) ?_
  show own_Go p e below s _ _ _ (T6.setTop (mkF m 40 #[.val (.ref r0), .val (.ref r1), .val (.ref r1)] [(.ref b0)]))
  refine own_go (fun t_ kt_ => XS.aloadN X6.here hx rfl (hb hby d11_40) rfl rfl kt_) ?_
  show own_Go p e below s _ _ _ (T6.setTop (mkF m 41 #[.val (.ref r0), .val (.ref r1), .val (.ref r1)] [(.ref r1), (.ref b0)]))
  obtain ⟨T7, X7, e7, st7⟩ := getF X6 hx hZ hown (host := "") (Or.inl (hw _ (List.mem_of_getElem? (i := 35) rfl))) Via.refl e6 vV (g := (mkF m 41 #[.val (.ref r0), .val (.ref r1), .val (.ref r1)] [(.ref r1), (.ref b0)])) rfl rfl (hb hby d11_41)
  refine own_go (fun t_ kt_ => st7 _ kt_) ?_
  show own_Go p e below s _ _ _ (T7.setTop (mkF m 44 #[.val (.ref r0), .val (.ref r1), .val (.ref r1)] [(.ref b1), (.ref b0)]))
  obtain ⟨_, _, ⟨T8, L8, k8, n8⟩, -, X8, ⟨Lc8, hQ8, l8, y8, z8⟩, st8⟩ := Jvm.LawKit.callS X7 hx (y := (⟨"java/lang/StringLatin1", "equals", "([B[B)Z"⟩ : MethodName)) hown (mvT hZ (hw _ (List.mem_of_getElem? (i := 73) rfl))) (mvT hZ (hw _ (List.mem_of_getElem? (i := 74) rfl))) (mvT hZ (hw _ (List.mem_of_getElem? (i := 75) rfl))) (mvT hZ (hw _ (List.mem_of_getElem? (i := 76) rfl))) (by decide) (backOf (W := 0) (rm12 l Z a0 hw [] (b0) (b1) (n1) (n2) (f1) (f2) h0 n0 Z0 uA vA hn1 hn2) hZ (hw _ (List.mem_of_getElem? (i := 76) rfl)) (hw _ (List.mem_of_getElem? (i := 75) rfl)) (by decide) (by decide)) (g := (mkF m 44 #[.val (.ref r0), .val (.ref r1), .val (.ref r1)] [(.ref b1), (.ref b0)])) rfl (by rw [hml]; rfl) (argsL := [(.ref b0), (.ref b1)]) (rest := []) (lenOf pd_6 rfl) rfl (by show 2 * 0 + _ ≤ _; exact Nat.le_of_eq rfl) (hb hby d11_44) (fun _ _ => ⟨rfl, e7, (by decide : 0 + 0 ≤ _), (by decide : 0 + 0 ≤ _)⟩)
  dsimp only [Pt.U, Pt.locs, Pt.cells, Pt.slots] at X8 l8 y8 z8 st8 hQ8
  subst l8 y8 z8
  obtain ⟨ze, rfl, hE, Nq8, eh8⟩ := hQ8
  have N8 := Fr.app N0 Nq8
  refine own_go (fun t_ kt_ => st8 _ kt_) ?_
  obtain ⟨lo8, X8g, N8g⟩ : ∃ lo, Stand p l e ({ frames := 1, cells := 0, slots := 0, locals := 14 } : Room) s m #[(.ref r0), (.ref r1)] below meth c T8 lo 0 0 ∧ Fr n0 lo := ⟨_, X8, N8⟩
  have e8 : T8.heap = h0 := eh8
  show own_Go p e below s _ _ _ (T8.setTop (mkF m 47 #[.val (.ref r0), .val (.ref r1), .val (.ref r1)] [(.int ze)]))
  by_cases hc47 : ze = (0 : Int32)
  · skip
    have hi47 : ze.toInt = 0 := congrArg Int32.toInt hc47
    refine own_go (fun t_ kt_ => XS.ifYes X8g.here hx rfl (pc0 := 47) (pc' := 54) rfl (hb hby d11_47) rfl ((if0 _ _).trans (teq hc47).1) (by decide) (by decide) kt_) ?_
    show own_Go p e below s _ _ _ (T8.setTop (mkF m 54 #[.val (.ref r0), .val (.ref r1), .val (.ref r1)] []))
    refine own_go (fun t_ kt_ => XS.iconst X8g.here hx rfl (hb hby d11_54) kt_) ?_
    show own_Go p e below s _ _ _ (T8.setTop (mkF m 55 #[.val (.ref r0), .val (.ref r1), .val (.ref r1)] [(.int (0 : Int32))]))
    refine own_ret X8g (v := some (.int (0 : Int32))) (fun h => by rw [hret] at h; cases h) hlk ?_ (by decide) (by decide) (fun fs hr => retN X8g hx (t := .boolean) hret (by simp) (hb hby d11_55) hr)
    show Q11 Z r0 r1 b0 b1 cs n1 n2 f1 f2 h0 n0 (some (.int (0 : Int32))) T8.heap _
    rw [e8]
    exact ⟨0, rfl, Or.inr ⟨rfl, fun q => hE.elim (fun y => absurd (y.1.symm.trans hc47) (by decide)) (fun y => y.2 q)⟩, N8g, rfl⟩
  · skip
    have hi47 : ¬ ze.toInt = 0 := fun q => hc47 (Int32.toInt_inj.mp q)
    refine own_go (fun t_ kt_ => XS.ifNo X8g.here hx rfl (hb hby d11_47) rfl ((if0 _ _).trans (feq hc47).1) kt_) ?_
    show own_Go p e below s _ _ _ (T8.setTop (mkF m 50 #[.val (.ref r0), .val (.ref r1), .val (.ref r1)] []))
    refine own_go (fun t_ kt_ => XS.iconst X8g.here hx rfl (hb hby d11_50) kt_) ?_
    show own_Go p e below s _ _ _ (T8.setTop (mkF m 51 #[.val (.ref r0), .val (.ref r1), .val (.ref r1)] [(.int (1 : Int32))]))
    refine own_go (fun t_ kt_ => XS.goto X8g.here hx rfl (pc0 := 51) (pc' := 55) rfl (hb hby d11_51) (by decide) (by decide) kt_) ?_
    show own_Go p e below s _ _ _ (T8.setTop (mkF m 55 #[.val (.ref r0), .val (.ref r1), .val (.ref r1)] [(.int (1 : Int32))]))
    refine own_ret X8g (v := some (.int (1 : Int32))) (fun h => by rw [hret] at h; cases h) hlk ?_ (by decide) (by decide) (fun fs hr => retN X8g hx (t := .boolean) hret (by simp) (hb hby d11_55) hr)
    show Q11 Z r0 r1 b0 b1 cs n1 n2 f1 f2 h0 n0 (some (.int (1 : Int32))) T8.heap _
    rw [e8]
    exact ⟨1, rfl, Or.inl ⟨rfl, (hE.resolve_right (fun y => hc47 y.1)).2⟩, N8g, rfl⟩
theorem d10_0 : decode prog_61_method_2_code 0 = .ok (.aload_n 0, 1) := by decide +kernel
theorem d10_1 : decode prog_61_method_2_code 1 = .ok (.getfield 7, 3) := by decide +kernel
theorem d10_4 : decode prog_61_method_2_code 4 = .ok (.getstatic 21, 3) := by decide +kernel
theorem d10_7 : decode prog_61_method_2_code 7 = .ok (.if_acmp .eq 28, 3) := by decide +kernel
theorem d10_35 : decode prog_61_method_2_code 35 = .ok (.iconst 0, 1) := by decide +kernel
theorem d10_36 : decode prog_61_method_2_code 36 = .ok (.ireturn, 1) := by decide +kernel
theorem d10_10 : decode prog_61_method_2_code 10 = .ok (.aload_n 0, 1) := by decide +kernel
theorem d10_11 : decode prog_61_method_2_code 11 = .ok (.getfield 7, 3) := by decide +kernel
theorem d10_14 : decode prog_61_method_2_code 14 = .ok (.getstatic 26, 3) := by decide +kernel
theorem d10_17 : decode prog_61_method_2_code 17 = .ok (.if_acmp .eq 18, 3) := by decide +kernel
theorem d10_20 : decode prog_61_method_2_code 20 = .ok (.aload_n 0, 1) := by decide +kernel
theorem d10_21 : decode prog_61_method_2_code 21 = .ok (.getfield 13, 3) := by decide +kernel
theorem d10_24 : decode prog_61_method_2_code 24 = .ok (.aload_n 1, 1) := by decide +kernel
theorem d10_25 : decode prog_61_method_2_code 25 = .ok (.invokevirtual 29, 3) := by decide +kernel
theorem pd_7 : parseMethodDescriptor "(Ljava/lang/Object;)Z" = some ⟨[(.object "java/lang/Object")], some .boolean⟩ := by decide +kernel
theorem d10_28 : decode prog_61_method_2_code 28 = .ok (.ifCond .eq 7, 3) := by decide +kernel
theorem d10_31 : decode prog_61_method_2_code 31 = .ok (.iconst 1, 1) := by decide +kernel
theorem d10_32 : decode prog_61_method_2_code 32 = .ok (.goto 4, 3) := by decide +kernel
theorem ef_10 (m : MethodId) (r0 : Addr) (r1 : Addr) : entryFrame m #[(.ref r0), (.ref r1)] 2 = mkF m 0 #[.val (.ref r0), .val (.ref r1)] [] := by first | (simp [entryFrame, mkF, argsToLocals, Value.category]; done) | rfl
def Q10 (Z : State) (r0 : Addr) (r1 : Addr) (r2 : Addr) (kd : Addr) (en : Addr) (nu : Addr) (b0 : Addr) (b1 : Addr) (cs : Int32) (n1 : Nat) (n2 : Nat) (f1 : Nat → Int32) (f2 : Nat → Int32) (h0 : Heap) (n0 : Nat) (v : Option Value) (h : Heap) (L : List Loc) : Prop := ∃ z : Int32, v = some (.int z) ∧ own_R z (kd ≠ en ∧ kd ≠ nu ∧ own_E n1 n2 f1 f2) ∧ Fr n0 L ∧ h = h0
set_option maxRecDepth 65536 in
set_option maxHeartbeats 40000000 in
theorem rm10 (l : Launch) (Z : State) (a0 : Array Value) (hw : ∀ d ∈ tables_1, d.before a0 Z = true) (ws : List Jvm.Cond) (r0 : Addr) (r1 : Addr) (r2 : Addr) (kd : Addr) (en : Addr) (nu : Addr) (b0 : Addr) (b1 : Addr) (cs : Int32) (n1 : Nat) (n2 : Nat) (f1 : Nat → Int32) (f2 : Nat → Int32) (h0 : Heap) (n0 : Nat) (Z0 : n0 ≤ h0.size) (uE : Exa Z h0 r2 "java/lang/String") (uC : Fld Z h0 r2 "java/lang/String" "coder" "B" (.int (0 : Int32))) (uV : Fld Z h0 r2 "java/lang/String" "value" "[B" (.ref b0)) (uA : own_Ary Z h0 b0 .byte n1 (fun j => .int (f1 j))) (vE : Exa Z h0 r1 "java/lang/String") (vC : Fld Z h0 r1 "java/lang/String" "coder" "B" (.int (0 : Int32))) (vV : Fld Z h0 r1 "java/lang/String" "value" "[B" (.ref b1)) (vA : own_Ary Z h0 b1 .byte n2 (fun j => .int (f2 j))) (hn1 : n1 ≤ 2) (hn2 : n2 ≤ 2) (SC0 : Sta Z h0 "java/lang/String" "COMPACT_STRINGS" "Z" (.int cs)) (hcs : ¬ cs = (0 : Int32)) (ne01 : r2 ≠ r1) (ET : Exa Z h0 r0 "com/example/lint_for_clocks/lintforclocks/model/Token") (FK : Fld Z h0 r0 "com/example/lint_for_clocks/lintforclocks/model/Token" "kind" "Lcom/example/lint_for_clocks/lintforclocks/model/Token$Kind;" (.ref kd)) (FX : Fld Z h0 r0 "com/example/lint_for_clocks/lintforclocks/model/Token" "text" "Ljava/lang/String;" (.ref r2)) (SE : Sta Z h0 "com/example/lint_for_clocks/lintforclocks/model/Token$Kind" "END" "Lcom/example/lint_for_clocks/lintforclocks/model/Token$Kind;" (.ref en)) (SN : Sta Z h0 "com/example/lint_for_clocks/lintforclocks/model/Token$Kind" "NUMBER" "Lcom/example/lint_for_clocks/lintforclocks/model/Token$Kind;" (.ref nu)) :
    MetFree l (⟨"com/example/lint_for_clocks/lintforclocks/model/Token", "is", "(Ljava/lang/String;)Z"⟩ : MethodName) (head1 (Jvm.Cond.code (⟨"com/example/lint_for_clocks/lintforclocks/model/Token", "is", "(Ljava/lang/String;)Z"⟩ : MethodName) prog_61_method_2_code 2 (some .boolean) :: ws) ({ frames := 2, cells := 0, slots := 0, locals := 28 } : Room)) (fun a U => a = #[(.ref r0), (.ref r1)] ∧ Z.Warmed39 U.vm ∧ U.heap = h0) (fun _ _ _ _ _ => True) (fun _ U o U' => ∃ v L, o = .returned v ∧ Q10 Z r0 r1 r2 kd en nu b0 b1 cs n1 n2 f1 f2 h0 n0 v U'.heap L ∧ FrameEnd U o U' L (({ frames := 2, cells := 0, slots := 0, locals := 28 } : Room)).cells (({ frames := 2, cells := 0, slots := 0, locals := 28 } : Room)).slots) := by
  refine MetFree.of_bodySF (plainFor_of_name pn_4) hisR ?_
  intro p e s m args below meth c s₁ Bd hml0 hP hK
  obtain ⟨rfl, hZ, hh⟩ := hP
  have hx := Bd.exec
  have hby := Bd.bytes
  have hml : c.maxLocals = 2 := hml0
  have hown : s.vm.findClass "com/example/lint_for_clocks/lintforclocks/model/Token" = some m.cls := findClass_of_methodNamed Bd.named
  have hnm := (name_of_methodNamed Bd.named Bd.method).1
  have hlk : meth.locks = false := Bd.notSynchronized
  have X0 : Stand p l e ({ frames := 2, cells := 0, slots := 0, locals := 28 } : Room) s m #[(.ref r0), (.ref r1)] below meth c s₁ [] 0 0 := Stand.of_body Bd
  have e0 : s₁.heap = h0 := by rw [← hh, Bd.state]; rfl
  have N0 := Fr.nil n0
  have hret := Bd.returns
  show own_Go p e below s (Q10 Z r0 r1 r2 kd en nu b0 b1 cs n1 n2 f1 f2 h0 n0) _ _ (s₁.setTop (entryFrame m #[(.ref r0), (.ref r1)] 2))
  refine own_go (fun t k => castTop (ef_10 m r0 r1) k) ?_
  show own_Go p e below s _ _ _ (s₁.setTop (mkF m 0 #[.val (.ref r0), .val (.ref r1)] []))
  refine own_go (fun t_ kt_ => XS.aloadN X0.here hx rfl (hb hby d10_0) rfl rfl kt_) ?_
  show own_Go p e below s _ _ _ (s₁.setTop (mkF m 1 #[.val (.ref r0), .val (.ref r1)] [(.ref r0)]))
  obtain ⟨T1, X1, e1, st1⟩ := getF X0 hx hZ hown (host := "") (Or.inl (hw _ (List.mem_of_getElem? (i := 52) rfl))) Via.refl e0 FK (g := (mkF m 1 #[.val (.ref r0), .val (.ref r1)] [(.ref r0)])) rfl rfl (hb hby d10_1)
  refine own_go (fun t_ kt_ => st1 _ kt_) ?_
  show own_Go p e below s _ _ _ (T1.setTop (mkF m 4 #[.val (.ref r0), .val (.ref r1)] [(.ref kd)]))
  obtain ⟨T2, X2, e2, st2⟩ := getS2 X1 hx hZ hown (host := "") (Or.inl (hw _ (List.mem_of_getElem? (i := 63) rfl))) Via.refl e1 SE (g := (mkF m 4 #[.val (.ref r0), .val (.ref r1)] [(.ref kd)])) rfl (hb hby d10_4)
  refine own_go (fun t_ kt_ => st2 _ kt_) ?_
  show own_Go p e below s _ _ _ (T2.setTop (mkF m 7 #[.val (.ref r0), .val (.ref r1)] [(.ref en), (.ref kd)]))
  by_cases ha7 : ((.ref kd) : Value) = (.ref en)
  · skip
    refine own_go (fun t_ kt_ => Jvm.RoadKit.acmp (g := (mkF m 7 #[.val (.ref r0), .val (.ref r1)] [(.ref en), (.ref kd)])) X2 hx rfl rfl rfl (pc0 := 7) (pc' := 35) (same := true) rfl (hb hby d10_7) rfl (decide_eq_true ha7) (by decide) (by decide) kt_) ?_
    show own_Go p e below s _ _ _ (T2.setTop (mkF m 35 #[.val (.ref r0), .val (.ref r1)] []))
    refine own_go (fun t_ kt_ => XS.iconst X2.here hx rfl (hb hby d10_35) kt_) ?_
    show own_Go p e below s _ _ _ (T2.setTop (mkF m 36 #[.val (.ref r0), .val (.ref r1)] [(.int (0 : Int32))]))
    refine own_ret X2 (v := some (.int (0 : Int32))) (fun h => by rw [hret] at h; cases h) hlk ?_ (by decide) (by decide) (fun fs hr => retN X2 hx (t := .boolean) hret (by simp) (hb hby d10_36) hr)
    show Q10 Z r0 r1 r2 kd en nu b0 b1 cs n1 n2 f1 f2 h0 n0 (some (.int (0 : Int32))) T2.heap _
    rw [e2]
    exact ⟨0, rfl, Or.inr ⟨rfl, fun q => by first | exact q.1 (Value.ref.inj ha7) | exact q.2.1 (Value.ref.inj ha17) | exact hE.elim (fun y => absurd (y.1.symm.trans hc28) (by decide)) (fun y => y.2 q.2.2)⟩, N0, rfl⟩
  · skip
    refine own_go (fun t_ kt_ => Jvm.RoadKit.acmp (g := (mkF m 7 #[.val (.ref r0), .val (.ref r1)] [(.ref en), (.ref kd)])) X2 hx rfl rfl rfl (pc0 := 7) (pc' := 10) (same := false) rfl (hb hby d10_7) rfl (decide_eq_false ha7) (by decide) (by decide) kt_) ?_
    show own_Go p e below s _ _ _ (T2.setTop (mkF m 10 #[.val (.ref r0), .val (.ref r1)] []))
    refine own_go (fun t_ kt_ => XS.aloadN X2.here hx rfl (hb hby d10_10) rfl rfl kt_) ?_
    show own_Go p e below s _ _ _ (T2.setTop (mkF m 11 #[.val (.ref r0), .val (.ref r1)] [(.ref r0)]))
    obtain ⟨T3, X3, e3, st3⟩ := getF X2 hx hZ hown (host := "") (Or.inl (hw _ (List.mem_of_getElem? (i := 52) rfl))) Via.refl e2 FK (g := (mkF m 11 #[.val (.ref r0), .val (.ref r1)] [(.ref r0)])) rfl rfl (hb hby d10_11)
    refine own_go (fun t_ kt_ => st3 _ kt_) ?_
    show own_Go p e below s _ _ _ (T3.setTop (mkF m 14 #[.val (.ref r0), .val (.ref r1)] [(.ref kd)]))
    obtain ⟨T4, X4, e4, st4⟩ := getS2 X3 hx hZ hown (host := "") (Or.inl (hw _ (List.mem_of_getElem? (i := 65) rfl))) Via.refl e3 SN (g := (mkF m 14 #[.val (.ref r0), .val (.ref r1)] [(.ref kd)])) rfl (hb hby d10_14)
    refine own_go (fun t_ kt_ => st4 _ kt_) ?_
    show own_Go p e below s _ _ _ (T4.setTop (mkF m 17 #[.val (.ref r0), .val (.ref r1)] [(.ref nu), (.ref kd)]))
    by_cases ha17 : ((.ref kd) : Value) = (.ref nu)
    · skip
      refine own_go (fun t_ kt_ => Jvm.RoadKit.acmp (g := (mkF m 17 #[.val (.ref r0), .val (.ref r1)] [(.ref nu), (.ref kd)])) X4 hx rfl rfl rfl (pc0 := 17) (pc' := 35) (same := true) rfl (hb hby d10_17) rfl (decide_eq_true ha17) (by decide) (by decide) kt_) ?_
      show own_Go p e below s _ _ _ (T4.setTop (mkF m 35 #[.val (.ref r0), .val (.ref r1)] []))
      refine own_go (fun t_ kt_ => XS.iconst X4.here hx rfl (hb hby d10_35) kt_) ?_
      show own_Go p e below s _ _ _ (T4.setTop (mkF m 36 #[.val (.ref r0), .val (.ref r1)] [(.int (0 : Int32))]))
      refine own_ret X4 (v := some (.int (0 : Int32))) (fun h => by rw [hret] at h; cases h) hlk ?_ (by decide) (by decide) (fun fs hr => retN X4 hx (t := .boolean) hret (by simp) (hb hby d10_36) hr)
      show Q10 Z r0 r1 r2 kd en nu b0 b1 cs n1 n2 f1 f2 h0 n0 (some (.int (0 : Int32))) T4.heap _
      rw [e4]
      exact ⟨0, rfl, Or.inr ⟨rfl, fun q => by first | exact q.1 (Value.ref.inj ha7) | exact q.2.1 (Value.ref.inj ha17) | exact hE.elim (fun y => absurd (y.1.symm.trans hc28) (by decide)) (fun y => y.2 q.2.2)⟩, N0, rfl⟩
    · skip
      refine own_go (fun t_ kt_ => Jvm.RoadKit.acmp (g := (mkF m 17 #[.val (.ref r0), .val (.ref r1)] [(.ref nu), (.ref kd)])) X4 hx rfl rfl rfl (pc0 := 17) (pc' := 20) (same := false) rfl (hb hby d10_17) rfl (decide_eq_false ha17) (by decide) (by decide) kt_) ?_
      show own_Go p e below s _ _ _ (T4.setTop (mkF m 20 #[.val (.ref r0), .val (.ref r1)] []))
      refine own_go (fun t_ kt_ => XS.aloadN X4.here hx rfl (hb hby d10_20) rfl rfl kt_) ?_
      show own_Go p e below s _ _ _ (T4.setTop (mkF m 21 #[.val (.ref r0), .val (.ref r1)] [(.ref r0)]))
      obtain ⟨T5, X5, e5, st5⟩ := getF X4 hx hZ hown (host := "") (Or.inl (hw _ (List.mem_of_getElem? (i := 54) rfl))) Via.refl e4 FX (g := (mkF m 21 #[.val (.ref r0), .val (.ref r1)] [(.ref r0)])) rfl rfl (hb hby d10_21)
      refine own_go (fun t_ kt_ => st5 _ kt_) ?_
      show own_Go p e below s _ _ _ (T5.setTop (mkF m 24 #[.val (.ref r0), .val (.ref r1)] [(.ref r2)]))
      refine own_go (fun t_ kt_ => XS.aloadN X5.here hx rfl (hb hby d10_24) rfl rfl kt_) ?_
      show own_Go p e below s _ _ _ (T5.setTop (mkF m 25 #[.val (.ref r0), .val (.ref r1)] [(.ref r1), (.ref r2)]))
      obtain ⟨cq6, kq6, q6a, q6b, q6c⟩ := isOf hZ e5 uE
      obtain ⟨_, _, ⟨T6, L6, k6, n6⟩, -, X6, ⟨Lc6, hQ6, l6, y6, z6⟩, st6⟩ := X5.virtualBack hx (y := (⟨"java/lang/String", "equals", "(Ljava/lang/Object;)Z"⟩ : MethodName)) (z := (⟨"java/lang/String", "equals", "(Ljava/lang/Object;)Z"⟩ : MethodName)) hown (mvT hZ (hw _ (List.mem_of_getElem? (i := 67) rfl))) (mvT hZ (hw _ (List.mem_of_getElem? (i := 68) rfl))) (notFace_of_selects (args := #[]) (mvT hZ (hw _ (List.mem_of_getElem? (i := 70) rfl)))) (mvT hZ (hw _ (List.mem_of_getElem? (i := 70) rfl))) (mvT hZ (hw _ (List.mem_of_getElem? (i := 69) rfl))) (by decide) (backOf (W := 0) (rm11 l Z a0 hw [] (r2) (r1) (b0) (b1) (cs) (n1) (n2) (f1) (f2) h0 n0 Z0 uE uC uV uA vE vC vV vA hn1 hn2 SC0 hcs ne01) hZ (hw _ (List.mem_of_getElem? (i := 71) rfl)) (hw _ (List.mem_of_getElem? (i := 9) rfl)) (by decide) (by decide)) q6a q6c (g := (mkF m 25 #[.val (.ref r0), .val (.ref r1)] [(.ref r1), (.ref r2)])) rfl (by rw [hml]; rfl) (Steps.refl _) (argsL := [(.ref r1)]) (rest := []) (lenOf pd_7 rfl) rfl (by show 2 * 0 + _ ≤ _; exact Nat.le_of_eq rfl) (hb hby d10_25) (fun _ _ => ⟨rfl, e5, (by decide : 0 + 0 ≤ _), (by decide : 0 + 0 ≤ _)⟩)
      dsimp only [Pt.U, Pt.locs, Pt.cells, Pt.slots] at X6 l6 y6 z6 st6 hQ6
      subst l6 y6 z6
      obtain ⟨ze, rfl, hE, Nq6, eh6⟩ := hQ6
      have N6 := Fr.app N0 Nq6
      refine own_go (fun t_ kt_ => st6.trans kt_) ?_
      obtain ⟨lo6, X6g, N6g⟩ : ∃ lo, Stand p l e ({ frames := 2, cells := 0, slots := 0, locals := 28 } : Room) s m #[(.ref r0), (.ref r1)] below meth c T6 lo 0 0 ∧ Fr n0 lo := ⟨_, X6, N6⟩
      have e6 : T6.heap = h0 := eh6
      show own_Go p e below s _ _ _ (T6.setTop (mkF m 28 #[.val (.ref r0), .val (.ref r1)] [(.int ze)]))
      by_cases hc28 : ze = (0 : Int32)
      · skip
        have hi28 : ze.toInt = 0 := congrArg Int32.toInt hc28
        refine own_go (fun t_ kt_ => XS.ifYes X6g.here hx rfl (pc0 := 28) (pc' := 35) rfl (hb hby d10_28) rfl ((if0 _ _).trans (teq hc28).1) (by decide) (by decide) kt_) ?_
        show own_Go p e below s _ _ _ (T6.setTop (mkF m 35 #[.val (.ref r0), .val (.ref r1)] []))
        refine own_go (fun t_ kt_ => XS.iconst X6g.here hx rfl (hb hby d10_35) kt_) ?_
        show own_Go p e below s _ _ _ (T6.setTop (mkF m 36 #[.val (.ref r0), .val (.ref r1)] [(.int (0 : Int32))]))
        refine own_ret X6g (v := some (.int (0 : Int32))) (fun h => by rw [hret] at h; cases h) hlk ?_ (by decide) (by decide) (fun fs hr => retN X6g hx (t := .boolean) hret (by simp) (hb hby d10_36) hr)
        show Q10 Z r0 r1 r2 kd en nu b0 b1 cs n1 n2 f1 f2 h0 n0 (some (.int (0 : Int32))) T6.heap _
        rw [e6]
        exact ⟨0, rfl, Or.inr ⟨rfl, fun q => by first | exact q.1 (Value.ref.inj ha7) | exact q.2.1 (Value.ref.inj ha17) | exact hE.elim (fun y => absurd (y.1.symm.trans hc28) (by decide)) (fun y => y.2 q.2.2)⟩, N6g, rfl⟩
      · skip
        have hi28 : ¬ ze.toInt = 0 := fun q => hc28 (Int32.toInt_inj.mp q)
        refine own_go (fun t_ kt_ => XS.ifNo X6g.here hx rfl (hb hby d10_28) rfl ((if0 _ _).trans (feq hc28).1) kt_) ?_
        show own_Go p e below s _ _ _ (T6.setTop (mkF m 31 #[.val (.ref r0), .val (.ref r1)] []))
        refine own_go (fun t_ kt_ => XS.iconst X6g.here hx rfl (hb hby d10_31) kt_) ?_
        show own_Go p e below s _ _ _ (T6.setTop (mkF m 32 #[.val (.ref r0), .val (.ref r1)] [(.int (1 : Int32))]))
        refine own_go (fun t_ kt_ => XS.goto X6g.here hx rfl (pc0 := 32) (pc' := 36) rfl (hb hby d10_32) (by decide) (by decide) kt_) ?_
        show own_Go p e below s _ _ _ (T6.setTop (mkF m 36 #[.val (.ref r0), .val (.ref r1)] [(.int (1 : Int32))]))
        refine own_ret X6g (v := some (.int (1 : Int32))) (fun h => by rw [hret] at h; cases h) hlk ?_ (by decide) (by decide) (fun fs hr => retN X6g hx (t := .boolean) hret (by simp) (hb hby d10_36) hr)
        show Q10 Z r0 r1 r2 kd en nu b0 b1 cs n1 n2 f1 f2 h0 n0 (some (.int (1 : Int32))) T6.heap _
        rw [e6]
        exact ⟨1, rfl, Or.inl ⟨rfl, fun q => ha7 (congrArg Value.ref q), fun q => ha17 (congrArg Value.ref q), (hE.resolve_right (fun y => hc28 y.1)).2⟩, N6g, rfl⟩
theorem own_yinj {c d : Int32} (hc : 0 ≤ c.toInt ∧ c.toInt ≤ 255) (hd : 0 ≤ d.toInt ∧ d.toInt ≤ 255) (h : own_y c = own_y d) : c = d := by
  have e := congrArg Int32.toInt h
  unfold own_y at e
  rw [Int8.toInt_toInt32, Int8.toInt_toInt32, Int32.toInt_toInt8, Int32.toInt_toInt8, Int.bmod_def, Int.bmod_def] at e
  apply Int32.toInt_inj.mp
  omega
theorem own_i2c {c : Int32} (h : 0 ≤ c.toInt ∧ c.toInt ≤ 255) : c.toUInt32.toUInt16.toUInt32.toInt32 = c := by
  have hb : (c.toBitVec.toNat : Int) = c.toInt := by
    have e : c.toInt = c.toBitVec.toInt := rfl
    rw [BitVec.toInt_eq_toNat_cond] at e
    have := c.toBitVec.isLt
    split at e <;> omega
  apply Int32.toBitVec_inj.mp
  apply BitVec.eq_of_toNat_eq
  show (BitVec.setWidth 32 (BitVec.setWidth 16 c.toBitVec)).toNat = _
  simp only [BitVec.toNat_setWidth]
  omega
theorem own_r255 (x : Int32) : 0 ≤ (x &&& (255 : Int32)).toInt ∧ (x &&& (255 : Int32)).toInt ≤ 255 := by
  have h1 := c_and x 255 (by decide)
  have e : (255 : Int32).toInt = 255 := by decide
  omega
theorem own_m3 (x : Int32) : 0 ≤ ((x &&& (255 : Int32)) % (3 : Int32)).toInt ∧ ((x &&& (255 : Int32)) % (3 : Int32)).toInt ≤ 2 := by
  have h1 := own_r255 x
  have h2 := (c_irem (x &&& (255 : Int32)) 3 3 (by decide)).1 h1.1
  omega
def own_EQ (a b ta tb ea eb : Int32) : Prop := a = b ∧ (a < 1 ∨ ta = ea) ∧ (a < 2 ∨ tb = eb)
theorem own_c3 {a : Int32} (h : 0 ≤ a.toInt ∧ a.toInt ≤ 2) : a = 0 ∨ a = 1 ∨ a = 2 := by
  rcases (by omega : a.toInt = 0 ∨ a.toInt = 1 ∨ a.toInt = 2) with q | q | q
  · exact Or.inl (Int32.toInt_inj.mp (by rw [q]; decide))
  · exact Or.inr (Or.inl (Int32.toInt_inj.mp (by rw [q]; decide)))
  · exact Or.inr (Or.inr (Int32.toInt_inj.mp (by rw [q]; decide)))
theorem own_n2 (a : Int32) : own_n a ≤ 2 := by unfold own_n; split <;> (try split) <;> omega
theorem own_EEQ {a b ta tb ea eb : Int32} (ha : 0 ≤ a.toInt ∧ a.toInt ≤ 2) (hb : 0 ≤ b.toInt ∧ b.toInt ≤ 2) (h1 : 0 ≤ ta.toInt ∧ ta.toInt ≤ 255) (h2 : 0 ≤ tb.toInt ∧ tb.toInt ≤ 255) (h3 : 0 ≤ ea.toInt ∧ ea.toInt ≤ 255) (h4 : 0 ≤ eb.toInt ∧ eb.toInt ≤ 255) :
    own_E (own_n a) (own_n b) (fun j => own_y (own_cc ta tb j)) (fun j => own_y (own_cc ea eb j)) ↔ own_EQ a b ta tb ea eb := by
  have inj : own_n a = own_n b → a = b := by
    rcases own_c3 ha with rfl | rfl | rfl <;> rcases own_c3 hb with rfl | rfl | rfl <;> decide
  constructor
  · rintro ⟨e, h⟩
    have eab := inj e
    subst eab
    refine ⟨rfl, ?_, ?_⟩
    · rcases own_c3 ha with rfl | rfl | rfl
      · exact Or.inl (by decide)
      · exact Or.inr (own_yinj h1 h3 (h 0 (by decide)))
      · exact Or.inr (own_yinj h1 h3 (h 0 (by decide)))
    · rcases own_c3 ha with rfl | rfl | rfl
      · exact Or.inl (by decide)
      · exact Or.inl (by decide)
      · exact Or.inr (own_yinj h2 h4 (h 1 (by decide)))
  · rintro ⟨rfl, q1, q2⟩
    refine ⟨rfl, fun j hj => ?_⟩
    have g1 : ¬ a < 1 → ta = ea := fun z => q1.resolve_left z
    have g2 : ¬ a < 2 → tb = eb := fun z => q2.resolve_left z
    rcases own_c3 ha with rfl | rfl | rfl
    · exact absurd hj (Nat.not_lt_zero j)
    · have : j = 0 := by have : own_n 1 = 1 := by decide
                         omega
      subst this
      show own_y ta = own_y ea
      rw [g1 (by decide)]
    · rcases (by have : own_n 2 = 2 := by decide
                 omega : j = 0 ∨ j = 1) with rfl | rfl
      · show own_y ta = own_y ea
        rw [g1 (by decide)]
      · show own_y tb = own_y eb
        rw [g2 (by decide)]

theorem own_end {zi w18 : Int32} {ix2 A E EQ : Prop} (hE : E ↔ EQ) (hI : own_R zi (A ∧ E)) (hw : own_R w18 (ix2 ∧ EQ)) (hk : (ix2 ∧ A) ∨ (¬ ix2 ∧ ¬ A)) : zi = w18 := by
  rcases hI with ⟨h1, h2, h3⟩ | ⟨h1, h2⟩ <;> rcases hw with ⟨w1, w2, w3⟩ | ⟨w1, w2⟩ <;> rcases hk with ⟨k1, k2⟩ | ⟨k1, k2⟩
  · rw [h1, w1]
  · rw [h1, w1]
  · exact absurd ⟨k1, hE.mp h3⟩ w2
  · exact absurd h2 k2
  · exact absurd ⟨k2, hE.mpr w3⟩ h2
  · exact absurd w2 k1
  · rw [h1, w1]
  · rw [h1, w1]
theorem own_Rand {z : Int32} {A B C : Prop} (h : own_R z (A ∧ B ∧ C)) : own_R z ((A ∧ B) ∧ C) := by
  rcases h with ⟨h1, h2, h3, h4⟩ | ⟨h1, h2⟩
  · exact Or.inl ⟨h1, ⟨h2, h3⟩, h4⟩
  · exact Or.inr ⟨h1, fun q => h2 ⟨q.1.1, q.1.2, q.2⟩⟩
theorem pd_8 : parseMethodDescriptor "(ICC)Ljava/lang/String;" = some ⟨[.int, .char, .char], some (.object "java/lang/String")⟩ := by decide +kernel
theorem pd_9 : parseMethodDescriptor "(Lcom/example/lint_for_clocks/lintforclocks/model/Token$Kind;Ljava/lang/String;I)V" = some ⟨[(.object "com/example/lint_for_clocks/lintforclocks/model/Token$Kind"), (.object "java/lang/String"), .int], none⟩ := by decide +kernel
theorem pd_10 : parseMethodDescriptor "(Ljava/lang/String;)Z" = some ⟨[(.object "java/lang/String")], some .boolean⟩ := by decide +kernel
theorem ef_0 (m : MethodId) (p0 : Int32) (p1 : Int32) (p2 : Int32) (p3 : Int32) (p4 : Int32) : entryFrame m #[(.int p0), (.int p1), (.int p2), (.int p3), (.int p4)] maxLocals = mkF m 0 #[.val (.int p0), .val (.int p1), .val (.int p2), .val (.int p3), .val (.int p4), .unset, .unset, .unset, .unset, .unset, .unset, .unset, .unset, .unset, .unset, .unset, .unset, .unset, .unset] [] := by first | (simp [entryFrame, mkF, argsToLocals, Value.category, maxLocals]; done) | rfl
def Q0 (Z : State) (p0 : Int32) (p1 : Int32) (p2 : Int32) (p3 : Int32) (p4 : Int32) (cs : Int32) (na : Addr) (nu : Addr) (sy : Addr) (en : Addr) (h0 : Heap) (n0 : Nat) (v : Option Value) (h : Heap) (L : List Loc) : Prop := v = some (.int 1) ∧ Fr n0 L
set_option maxRecDepth 65536 in
set_option maxHeartbeats 40000000 in
theorem rm0 (l : Launch) (Z : State) (a0 : Array Value) (hw : ∀ d ∈ tables_1, d.before a0 Z = true) (ws : List Jvm.Cond) (p0 : Int32) (p1 : Int32) (p2 : Int32) (p3 : Int32) (p4 : Int32) (cs : Int32) (na : Addr) (nu : Addr) (sy : Addr) (en : Addr) (h0 : Heap) (n0 : Nat) (Z0 : n0 ≤ h0.size) (SC0 : Sta Z h0 "java/lang/String" "COMPACT_STRINGS" "Z" (.int cs)) (hcs : ¬ cs = (0 : Int32)) (K_NAME : Sta Z h0 "com/example/lint_for_clocks/lintforclocks/model/Token$Kind" "NAME" "Lcom/example/lint_for_clocks/lintforclocks/model/Token$Kind;" (.ref na)) (K_NUMBER : Sta Z h0 "com/example/lint_for_clocks/lintforclocks/model/Token$Kind" "NUMBER" "Lcom/example/lint_for_clocks/lintforclocks/model/Token$Kind;" (.ref nu)) (K_SYMBOL : Sta Z h0 "com/example/lint_for_clocks/lintforclocks/model/Token$Kind" "SYMBOL" "Lcom/example/lint_for_clocks/lintforclocks/model/Token$Kind;" (.ref sy)) (K_END : Sta Z h0 "com/example/lint_for_clocks/lintforclocks/model/Token$Kind" "END" "Lcom/example/lint_for_clocks/lintforclocks/model/Token$Kind;" (.ref en)) (neNE : na ≠ en) (neNN : na ≠ nu) (neSE : sy ≠ en) (neSN : sy ≠ nu) :
    MetFree l x (head1 (Jvm.Cond.code x code maxLocals ret :: ws) room_1) (fun a U => a = #[(.int p0), (.int p1), (.int p2), (.int p3), (.int p4)] ∧ Z.Warmed39 U.vm ∧ U.heap = h0 ∧ CHv Z own_EL U.vm h0) (fun _ _ _ _ _ => True) (fun _ U o U' => ∃ v L, o = .returned v ∧ Q0 Z p0 p1 p2 p3 p4 cs na nu sy en h0 n0 v U'.heap L ∧ ReturnedEndW U o U' L (room_1).cells (room_1).slots) := by
  refine MetFree.of_bodySF (plainFor_of_name pn_2) hisR ?_
  intro p e s m args below meth c s₁ Bd hml0 hP hK
  obtain ⟨rfl, hZ, hh, CH0⟩ := hP
  have hx := Bd.exec
  have hby := Bd.bytes
  have hml : c.maxLocals = 19 := hml0
  have hown : s.vm.findClass "com/example/lint_for_clocks/lintforclocks/model/TokenIsPinLaw" = some m.cls := findClass_of_methodNamed Bd.named
  have hnm := (name_of_methodNamed Bd.named Bd.method).1
  have hlk : meth.locks = false := Bd.notSynchronized
  have X0 : Stand p l e room_1 s m #[(.int p0), (.int p1), (.int p2), (.int p3), (.int p4)] below meth c s₁ [] 0 0 := Stand.of_body Bd
  have e0 : s₁.heap = h0 := by rw [← hh, Bd.state]; rfl
  have N0 := Fr.nil n0
  have hret := Bd.returns
  show own_GoW p e below s (Q0 Z p0 p1 p2 p3 p4 cs na nu sy en h0 n0) _ _ (s₁.setTop (entryFrame m #[(.int p0), (.int p1), (.int p2), (.int p3), (.int p4)] maxLocals))
  refine own_goW (fun t k => castTop (ef_0 m p0 p1 p2 p3 p4) k) ?_
  have CR0 : CHr Z own_EL s.vm h0 s.vm h0 := CHr.refl CH0
  have hS0 : s.Since s.vm n0 := (State.WarmedH.refl s).since _
  show own_GoW p e below s _ _ _ (s₁.setTop (mkF m 0 #[.val (.int p0), .val (.int p1), .val (.int p2), .val (.int p3), .val (.int p4), .unset, .unset, .unset, .unset, .unset, .unset, .unset, .unset, .unset, .unset, .unset, .unset, .unset, .unset] []))
  refine own_goW (fun t_ kt_ => XS.iloadN X0.here hx rfl (hb hby at_0) rfl kt_) ?_
  show own_GoW p e below s _ _ _ (s₁.setTop (mkF m 1 #[.val (.int p0), .val (.int p1), .val (.int p2), .val (.int p3), .val (.int p4), .unset, .unset, .unset, .unset, .unset, .unset, .unset, .unset, .unset, .unset, .unset, .unset, .unset, .unset] [(.int p0)]))
  refine own_goW (fun t_ kt_ => XS.iconst X0.here hx rfl (hb hby at_1) kt_) ?_
  show own_GoW p e below s _ _ _ (s₁.setTop (mkF m 2 #[.val (.int p0), .val (.int p1), .val (.int p2), .val (.int p3), .val (.int p4), .unset, .unset, .unset, .unset, .unset, .unset, .unset, .unset, .unset, .unset, .unset, .unset, .unset, .unset] [(.int (3 : Int32)), (.int p0)]))
  refine own_goW (fun t_ kt_ => XS.iand X0.here hx rfl (hb hby at_2) rfl kt_) ?_
  show own_GoW p e below s _ _ _ (s₁.setTop (mkF m 3 #[.val (.int p0), .val (.int p1), .val (.int p2), .val (.int p3), .val (.int p4), .unset, .unset, .unset, .unset, .unset, .unset, .unset, .unset, .unset, .unset, .unset, .unset, .unset, .unset] [(.int (p0 &&& (3 : Int32)))]))
  refine own_goW (fun t_ kt_ => XS.istore X0.here hx rfl (hb hby at_3) rfl (l' := #[.val (.int p0), .val (.int p1), .val (.int p2), .val (.int p3), .val (.int p4), .val (.int (p0 &&& (3 : Int32))), .unset, .unset, .unset, .unset, .unset, .unset, .unset, .unset, .unset, .unset, .unset, .unset, .unset]) rfl kt_) ?_
  show own_GoW p e below s _ _ _ (s₁.setTop (mkF m 5 #[.val (.int p0), .val (.int p1), .val (.int p2), .val (.int p3), .val (.int p4), .val (.int (p0 &&& (3 : Int32))), .unset, .unset, .unset, .unset, .unset, .unset, .unset, .unset, .unset, .unset, .unset, .unset, .unset] []))
  obtain ⟨ix, hix⟩ : ∃ z, z = (p0 &&& (3 : Int32)) := ⟨_, rfl⟩
  rw [← hix]
  show own_GoW p e below s _ _ _ (s₁.setTop (mkF m 5 #[.val (.int p0), .val (.int p1), .val (.int p2), .val (.int p3), .val (.int p4), .val (.int ix), .unset, .unset, .unset, .unset, .unset, .unset, .unset, .unset, .unset, .unset, .unset, .unset, .unset] []))
  have J51 : ∀ (T1 : State) (locs1 : List Loc) (X1 : Stand p l e room_1 s m #[(.int p0), (.int p1), (.int p2), (.int p3), (.int p4)] below meth c T1 locs1 0 0) (e1 : T1.heap = h0) (N1 : Fr n0 locs1) (kd : Addr) (hkd : ((ix = (0 : Int32) ∨ ix = (2 : Int32)) ∧ (kd ≠ en ∧ kd ≠ nu)) ∨ (¬ (ix = (0 : Int32) ∨ ix = (2 : Int32)) ∧ ¬ (kd ≠ en ∧ kd ≠ nu))), own_GoW p e below s (Q0 Z p0 p1 p2 p3 p4 cs na nu sy en h0 n0) (room_1).cells (room_1).slots (T1.setTop (mkF m 51 #[.val (.int p0), .val (.int p1), .val (.int p2), .val (.int p3), .val (.int p4), .val (.int ix), .val (.ref kd), .unset, .unset, .unset, .unset, .unset, .unset, .unset, .unset, .unset, .unset, .unset, .unset] [])) := by
    intro T1 locs1 X1 e1 N1 kd hkd
    refine own_goW (fun t_ kt_ => XS.iloadN X1.here hx rfl (hb hby at_51) rfl kt_) ?_
    show own_GoW p e below s _ _ _ (T1.setTop (mkF m 52 #[.val (.int p0), .val (.int p1), .val (.int p2), .val (.int p3), .val (.int p4), .val (.int ix), .val (.ref kd), .unset, .unset, .unset, .unset, .unset, .unset, .unset, .unset, .unset, .unset, .unset, .unset] [(.int p1)]))
    refine own_goW (fun t_ kt_ => XS.sipush X1.here hx rfl (hb hby at_52) kt_) ?_
    show own_GoW p e below s _ _ _ (T1.setTop (mkF m 55 #[.val (.int p0), .val (.int p1), .val (.int p2), .val (.int p3), .val (.int p4), .val (.int ix), .val (.ref kd), .unset, .unset, .unset, .unset, .unset, .unset, .unset, .unset, .unset, .unset, .unset, .unset] [(.int (255 : Int32)), (.int p1)]))
    refine own_goW (fun t_ kt_ => XS.iand X1.here hx rfl (hb hby at_55) rfl kt_) ?_
    show own_GoW p e below s _ _ _ (T1.setTop (mkF m 56 #[.val (.int p0), .val (.int p1), .val (.int p2), .val (.int p3), .val (.int p4), .val (.int ix), .val (.ref kd), .unset, .unset, .unset, .unset, .unset, .unset, .unset, .unset, .unset, .unset, .unset, .unset] [(.int (p1 &&& (255 : Int32)))]))
    refine own_goW (fun t_ kt_ => XS.istore X1.here hx rfl (hb hby at_56) rfl (l' := #[.val (.int p0), .val (.int p1), .val (.int p2), .val (.int p3), .val (.int p4), .val (.int ix), .val (.ref kd), .val (.int (p1 &&& (255 : Int32))), .unset, .unset, .unset, .unset, .unset, .unset, .unset, .unset, .unset, .unset, .unset]) rfl kt_) ?_
    show own_GoW p e below s _ _ _ (T1.setTop (mkF m 58 #[.val (.int p0), .val (.int p1), .val (.int p2), .val (.int p3), .val (.int p4), .val (.int ix), .val (.ref kd), .val (.int (p1 &&& (255 : Int32))), .unset, .unset, .unset, .unset, .unset, .unset, .unset, .unset, .unset, .unset, .unset] []))
    obtain ⟨ta, hta⟩ : ∃ z, z = (p1 &&& (255 : Int32)) := ⟨_, rfl⟩
    rw [← hta]
    show own_GoW p e below s _ _ _ (T1.setTop (mkF m 58 #[.val (.int p0), .val (.int p1), .val (.int p2), .val (.int p3), .val (.int p4), .val (.int ix), .val (.ref kd), .val (.int ta), .unset, .unset, .unset, .unset, .unset, .unset, .unset, .unset, .unset, .unset, .unset] []))
    have hta_ : 0 ≤ ta.toInt ∧ ta.toInt ≤ 255 := by rw [hta]; exact own_r255 _
    refine own_goW (fun t_ kt_ => XS.iloadN X1.here hx rfl (hb hby at_58) rfl kt_) ?_
    show own_GoW p e below s _ _ _ (T1.setTop (mkF m 59 #[.val (.int p0), .val (.int p1), .val (.int p2), .val (.int p3), .val (.int p4), .val (.int ix), .val (.ref kd), .val (.int ta), .unset, .unset, .unset, .unset, .unset, .unset, .unset, .unset, .unset, .unset, .unset] [(.int p1)]))
    refine own_goW (fun t_ kt_ => XS.bipush X1.here hx rfl (hb hby at_59) kt_) ?_
    show own_GoW p e below s _ _ _ (T1.setTop (mkF m 61 #[.val (.int p0), .val (.int p1), .val (.int p2), .val (.int p3), .val (.int p4), .val (.int ix), .val (.ref kd), .val (.int ta), .unset, .unset, .unset, .unset, .unset, .unset, .unset, .unset, .unset, .unset, .unset] [(.int (8 : Int32)), (.int p1)]))
    refine own_goW (fun t_ kt_ => XS.iushr X1.here hx rfl (hb hby at_61) rfl kt_) ?_
    show own_GoW p e below s _ _ _ (T1.setTop (mkF m 62 #[.val (.int p0), .val (.int p1), .val (.int p2), .val (.int p3), .val (.int p4), .val (.int ix), .val (.ref kd), .val (.int ta), .unset, .unset, .unset, .unset, .unset, .unset, .unset, .unset, .unset, .unset, .unset] [(.int ((p1.toUInt32 >>> ((8 : Int32) &&& 31).toUInt32).toInt32))]))
    refine own_goW (fun t_ kt_ => XS.sipush X1.here hx rfl (hb hby at_62) kt_) ?_
    show own_GoW p e below s _ _ _ (T1.setTop (mkF m 65 #[.val (.int p0), .val (.int p1), .val (.int p2), .val (.int p3), .val (.int p4), .val (.int ix), .val (.ref kd), .val (.int ta), .unset, .unset, .unset, .unset, .unset, .unset, .unset, .unset, .unset, .unset, .unset] [(.int (255 : Int32)), (.int ((p1.toUInt32 >>> ((8 : Int32) &&& 31).toUInt32).toInt32))]))
    refine own_goW (fun t_ kt_ => XS.iand X1.here hx rfl (hb hby at_65) rfl kt_) ?_
    show own_GoW p e below s _ _ _ (T1.setTop (mkF m 66 #[.val (.int p0), .val (.int p1), .val (.int p2), .val (.int p3), .val (.int p4), .val (.int ix), .val (.ref kd), .val (.int ta), .unset, .unset, .unset, .unset, .unset, .unset, .unset, .unset, .unset, .unset, .unset] [(.int (((p1.toUInt32 >>> ((8 : Int32) &&& 31).toUInt32).toInt32) &&& (255 : Int32)))]))
    refine own_goW (fun t_ kt_ => XS.istore X1.here hx rfl (hb hby at_66) rfl (l' := #[.val (.int p0), .val (.int p1), .val (.int p2), .val (.int p3), .val (.int p4), .val (.int ix), .val (.ref kd), .val (.int ta), .val (.int (((p1.toUInt32 >>> ((8 : Int32) &&& 31).toUInt32).toInt32) &&& (255 : Int32))), .unset, .unset, .unset, .unset, .unset, .unset, .unset, .unset, .unset, .unset]) rfl kt_) ?_
    show own_GoW p e below s _ _ _ (T1.setTop (mkF m 68 #[.val (.int p0), .val (.int p1), .val (.int p2), .val (.int p3), .val (.int p4), .val (.int ix), .val (.ref kd), .val (.int ta), .val (.int (((p1.toUInt32 >>> ((8 : Int32) &&& 31).toUInt32).toInt32) &&& (255 : Int32))), .unset, .unset, .unset, .unset, .unset, .unset, .unset, .unset, .unset, .unset] []))
    obtain ⟨tb, htb⟩ : ∃ z, z = (((p1.toUInt32 >>> ((8 : Int32) &&& 31).toUInt32).toInt32) &&& (255 : Int32)) := ⟨_, rfl⟩
    rw [← htb]
    show own_GoW p e below s _ _ _ (T1.setTop (mkF m 68 #[.val (.int p0), .val (.int p1), .val (.int p2), .val (.int p3), .val (.int p4), .val (.int ix), .val (.ref kd), .val (.int ta), .val (.int tb), .unset, .unset, .unset, .unset, .unset, .unset, .unset, .unset, .unset, .unset] []))
    have htb_ : 0 ≤ tb.toInt ∧ tb.toInt ≤ 255 := by rw [htb]; exact own_r255 _
    have J120 : ∀ (T2 : State) (locs2 : List Loc) (X2 : Stand p l e room_1 s m #[(.int p0), (.int p1), (.int p2), (.int p3), (.int p4)] below meth c T2 locs2 0 0) (e2 : T2.heap = h0) (N2 : Fr n0 locs2) (sm : Int32) (ea : Int32) (eb : Int32) (hea_ : 0 ≤ ea.toInt ∧ ea.toInt ≤ 255) (heb_ : 0 ≤ eb.toInt ∧ eb.toInt ≤ 255), own_GoW p e below s (Q0 Z p0 p1 p2 p3 p4 cs na nu sy en h0 n0) (room_1).cells (room_1).slots (T2.setTop (mkF m 120 #[.val (.int p0), .val (.int p1), .val (.int p2), .val (.int p3), .val (.int p4), .val (.int ix), .val (.ref kd), .val (.int ta), .val (.int tb), .val (.int sm), .val (.int ea), .val (.int eb), .unset, .unset, .unset, .unset, .unset, .unset, .unset] [])) := by
      intro T2 locs2 X2 e2 N2 sm ea eb hea_ heb_
      refine own_goW (fun t_ kt_ => XS.iloadN X2.here hx rfl (hb hby at_120) rfl kt_) ?_
      show own_GoW p e below s _ _ _ (T2.setTop (mkF m 121 #[.val (.int p0), .val (.int p1), .val (.int p2), .val (.int p3), .val (.int p4), .val (.int ix), .val (.ref kd), .val (.int ta), .val (.int tb), .val (.int sm), .val (.int ea), .val (.int eb), .unset, .unset, .unset, .unset, .unset, .unset, .unset] [(.int p3)]))
      refine own_goW (fun t_ kt_ => XS.sipush X2.here hx rfl (hb hby at_121) kt_) ?_
      show own_GoW p e below s _ _ _ (T2.setTop (mkF m 124 #[.val (.int p0), .val (.int p1), .val (.int p2), .val (.int p3), .val (.int p4), .val (.int ix), .val (.ref kd), .val (.int ta), .val (.int tb), .val (.int sm), .val (.int ea), .val (.int eb), .unset, .unset, .unset, .unset, .unset, .unset, .unset] [(.int (255 : Int32)), (.int p3)]))
      refine own_goW (fun t_ kt_ => XS.iand X2.here hx rfl (hb hby at_124) rfl kt_) ?_
      show own_GoW p e below s _ _ _ (T2.setTop (mkF m 125 #[.val (.int p0), .val (.int p1), .val (.int p2), .val (.int p3), .val (.int p4), .val (.int ix), .val (.ref kd), .val (.int ta), .val (.int tb), .val (.int sm), .val (.int ea), .val (.int eb), .unset, .unset, .unset, .unset, .unset, .unset, .unset] [(.int (p3 &&& (255 : Int32)))]))
      refine own_goW (fun t_ kt_ => XS.iconst X2.here hx rfl (hb hby at_125) kt_) ?_
      show own_GoW p e below s _ _ _ (T2.setTop (mkF m 126 #[.val (.int p0), .val (.int p1), .val (.int p2), .val (.int p3), .val (.int p4), .val (.int ix), .val (.ref kd), .val (.int ta), .val (.int tb), .val (.int sm), .val (.int ea), .val (.int eb), .unset, .unset, .unset, .unset, .unset, .unset, .unset] [(.int (3 : Int32)), (.int (p3 &&& (255 : Int32)))]))
      refine own_goW (fun t_ kt_ => iremM X2 hx rfl (hb hby at_126) rfl (by decide) kt_) ?_
      show own_GoW p e below s _ _ _ (T2.setTop (mkF m 127 #[.val (.int p0), .val (.int p1), .val (.int p2), .val (.int p3), .val (.int p4), .val (.int ix), .val (.ref kd), .val (.int ta), .val (.int tb), .val (.int sm), .val (.int ea), .val (.int eb), .unset, .unset, .unset, .unset, .unset, .unset, .unset] [(.int ((p3 &&& (255 : Int32)) % (3 : Int32)))]))
      refine own_goW (fun t_ kt_ => XS.istore X2.here hx rfl (hb hby at_127) rfl (l' := #[.val (.int p0), .val (.int p1), .val (.int p2), .val (.int p3), .val (.int p4), .val (.int ix), .val (.ref kd), .val (.int ta), .val (.int tb), .val (.int sm), .val (.int ea), .val (.int eb), .val (.int ((p3 &&& (255 : Int32)) % (3 : Int32))), .unset, .unset, .unset, .unset, .unset, .unset]) rfl kt_) ?_
      show own_GoW p e below s _ _ _ (T2.setTop (mkF m 129 #[.val (.int p0), .val (.int p1), .val (.int p2), .val (.int p3), .val (.int p4), .val (.int ix), .val (.ref kd), .val (.int ta), .val (.int tb), .val (.int sm), .val (.int ea), .val (.int eb), .val (.int ((p3 &&& (255 : Int32)) % (3 : Int32))), .unset, .unset, .unset, .unset, .unset, .unset] []))
      obtain ⟨lt1, hlt1⟩ : ∃ z, z = ((p3 &&& (255 : Int32)) % (3 : Int32)) := ⟨_, rfl⟩
      rw [← hlt1]
      show own_GoW p e below s _ _ _ (T2.setTop (mkF m 129 #[.val (.int p0), .val (.int p1), .val (.int p2), .val (.int p3), .val (.int p4), .val (.int ix), .val (.ref kd), .val (.int ta), .val (.int tb), .val (.int sm), .val (.int ea), .val (.int eb), .val (.int lt1), .unset, .unset, .unset, .unset, .unset, .unset] []))
      have hlt1_ : 0 ≤ lt1.toInt ∧ lt1.toInt ≤ 2 := by rw [hlt1]; exact own_m3 _
      refine own_goW (fun t_ kt_ => XS.iloadN X2.here hx rfl (hb hby at_129) rfl kt_) ?_
      show own_GoW p e below s _ _ _ (T2.setTop (mkF m 130 #[.val (.int p0), .val (.int p1), .val (.int p2), .val (.int p3), .val (.int p4), .val (.int ix), .val (.ref kd), .val (.int ta), .val (.int tb), .val (.int sm), .val (.int ea), .val (.int eb), .val (.int lt1), .unset, .unset, .unset, .unset, .unset, .unset] [(.int p3)]))
      refine own_goW (fun t_ kt_ => XS.bipush X2.here hx rfl (hb hby at_130) kt_) ?_
      show own_GoW p e below s _ _ _ (T2.setTop (mkF m 132 #[.val (.int p0), .val (.int p1), .val (.int p2), .val (.int p3), .val (.int p4), .val (.int ix), .val (.ref kd), .val (.int ta), .val (.int tb), .val (.int sm), .val (.int ea), .val (.int eb), .val (.int lt1), .unset, .unset, .unset, .unset, .unset, .unset] [(.int (9 : Int32)), (.int p3)]))
      refine own_goW (fun t_ kt_ => XS.iushr X2.here hx rfl (hb hby at_132) rfl kt_) ?_
      show own_GoW p e below s _ _ _ (T2.setTop (mkF m 133 #[.val (.int p0), .val (.int p1), .val (.int p2), .val (.int p3), .val (.int p4), .val (.int ix), .val (.ref kd), .val (.int ta), .val (.int tb), .val (.int sm), .val (.int ea), .val (.int eb), .val (.int lt1), .unset, .unset, .unset, .unset, .unset, .unset] [(.int ((p3.toUInt32 >>> ((9 : Int32) &&& 31).toUInt32).toInt32))]))
      refine own_goW (fun t_ kt_ => XS.sipush X2.here hx rfl (hb hby at_133) kt_) ?_
      show own_GoW p e below s _ _ _ (T2.setTop (mkF m 136 #[.val (.int p0), .val (.int p1), .val (.int p2), .val (.int p3), .val (.int p4), .val (.int ix), .val (.ref kd), .val (.int ta), .val (.int tb), .val (.int sm), .val (.int ea), .val (.int eb), .val (.int lt1), .unset, .unset, .unset, .unset, .unset, .unset] [(.int (255 : Int32)), (.int ((p3.toUInt32 >>> ((9 : Int32) &&& 31).toUInt32).toInt32))]))
      refine own_goW (fun t_ kt_ => XS.iand X2.here hx rfl (hb hby at_136) rfl kt_) ?_
      show own_GoW p e below s _ _ _ (T2.setTop (mkF m 137 #[.val (.int p0), .val (.int p1), .val (.int p2), .val (.int p3), .val (.int p4), .val (.int ix), .val (.ref kd), .val (.int ta), .val (.int tb), .val (.int sm), .val (.int ea), .val (.int eb), .val (.int lt1), .unset, .unset, .unset, .unset, .unset, .unset] [(.int (((p3.toUInt32 >>> ((9 : Int32) &&& 31).toUInt32).toInt32) &&& (255 : Int32)))]))
      refine own_goW (fun t_ kt_ => XS.iconst X2.here hx rfl (hb hby at_137) kt_) ?_
      show own_GoW p e below s _ _ _ (T2.setTop (mkF m 138 #[.val (.int p0), .val (.int p1), .val (.int p2), .val (.int p3), .val (.int p4), .val (.int ix), .val (.ref kd), .val (.int ta), .val (.int tb), .val (.int sm), .val (.int ea), .val (.int eb), .val (.int lt1), .unset, .unset, .unset, .unset, .unset, .unset] [(.int (3 : Int32)), (.int (((p3.toUInt32 >>> ((9 : Int32) &&& 31).toUInt32).toInt32) &&& (255 : Int32)))]))
      refine own_goW (fun t_ kt_ => iremM X2 hx rfl (hb hby at_138) rfl (by decide) kt_) ?_
      show own_GoW p e below s _ _ _ (T2.setTop (mkF m 139 #[.val (.int p0), .val (.int p1), .val (.int p2), .val (.int p3), .val (.int p4), .val (.int ix), .val (.ref kd), .val (.int ta), .val (.int tb), .val (.int sm), .val (.int ea), .val (.int eb), .val (.int lt1), .unset, .unset, .unset, .unset, .unset, .unset] [(.int ((((p3.toUInt32 >>> ((9 : Int32) &&& 31).toUInt32).toInt32) &&& (255 : Int32)) % (3 : Int32)))]))
      refine own_goW (fun t_ kt_ => XS.istore X2.here hx rfl (hb hby at_139) rfl (l' := #[.val (.int p0), .val (.int p1), .val (.int p2), .val (.int p3), .val (.int p4), .val (.int ix), .val (.ref kd), .val (.int ta), .val (.int tb), .val (.int sm), .val (.int ea), .val (.int eb), .val (.int lt1), .val (.int ((((p3.toUInt32 >>> ((9 : Int32) &&& 31).toUInt32).toInt32) &&& (255 : Int32)) % (3 : Int32))), .unset, .unset, .unset, .unset, .unset]) rfl kt_) ?_
      show own_GoW p e below s _ _ _ (T2.setTop (mkF m 141 #[.val (.int p0), .val (.int p1), .val (.int p2), .val (.int p3), .val (.int p4), .val (.int ix), .val (.ref kd), .val (.int ta), .val (.int tb), .val (.int sm), .val (.int ea), .val (.int eb), .val (.int lt1), .val (.int ((((p3.toUInt32 >>> ((9 : Int32) &&& 31).toUInt32).toInt32) &&& (255 : Int32)) % (3 : Int32))), .unset, .unset, .unset, .unset, .unset] []))
      obtain ⟨le1, hle1⟩ : ∃ z, z = ((((p3.toUInt32 >>> ((9 : Int32) &&& 31).toUInt32).toInt32) &&& (255 : Int32)) % (3 : Int32)) := ⟨_, rfl⟩
      rw [← hle1]
      show own_GoW p e below s _ _ _ (T2.setTop (mkF m 141 #[.val (.int p0), .val (.int p1), .val (.int p2), .val (.int p3), .val (.int p4), .val (.int ix), .val (.ref kd), .val (.int ta), .val (.int tb), .val (.int sm), .val (.int ea), .val (.int eb), .val (.int lt1), .val (.int le1), .unset, .unset, .unset, .unset, .unset] []))
      have hle1_ : 0 ≤ le1.toInt ∧ le1.toInt ≤ 2 := by rw [hle1]; exact own_m3 _
      refine own_goW (fun t_ kt_ => XS.iload X2.here hx rfl (hb hby at_141) rfl kt_) ?_
      show own_GoW p e below s _ _ _ (T2.setTop (mkF m 143 #[.val (.int p0), .val (.int p1), .val (.int p2), .val (.int p3), .val (.int p4), .val (.int ix), .val (.ref kd), .val (.int ta), .val (.int tb), .val (.int sm), .val (.int ea), .val (.int eb), .val (.int lt1), .val (.int le1), .unset, .unset, .unset, .unset, .unset] [(.int lt1)]))
      refine own_goW (fun t_ kt_ => XS.iload X2.here hx rfl (hb hby at_143) rfl kt_) ?_
      show own_GoW p e below s _ _ _ (T2.setTop (mkF m 145 #[.val (.int p0), .val (.int p1), .val (.int p2), .val (.int p3), .val (.int p4), .val (.int ix), .val (.ref kd), .val (.int ta), .val (.int tb), .val (.int sm), .val (.int ea), .val (.int eb), .val (.int lt1), .val (.int le1), .unset, .unset, .unset, .unset, .unset] [(.int ta), (.int lt1)]))
      refine own_goW (fun t_ kt_ => XS.i2c X2.here hx rfl (hb hby at_145) rfl kt_) ?_
      show own_GoW p e below s _ _ _ (T2.setTop (mkF m 146 #[.val (.int p0), .val (.int p1), .val (.int p2), .val (.int p3), .val (.int p4), .val (.int ix), .val (.ref kd), .val (.int ta), .val (.int tb), .val (.int sm), .val (.int ea), .val (.int eb), .val (.int lt1), .val (.int le1), .unset, .unset, .unset, .unset, .unset] [(.int (ta.toUInt32.toUInt16.toUInt32.toInt32)), (.int lt1)]))
      refine own_goW (fun t_ kt_ => XS.iload X2.here hx rfl (hb hby at_146) rfl kt_) ?_
      show own_GoW p e below s _ _ _ (T2.setTop (mkF m 148 #[.val (.int p0), .val (.int p1), .val (.int p2), .val (.int p3), .val (.int p4), .val (.int ix), .val (.ref kd), .val (.int ta), .val (.int tb), .val (.int sm), .val (.int ea), .val (.int eb), .val (.int lt1), .val (.int le1), .unset, .unset, .unset, .unset, .unset] [(.int tb), (.int (ta.toUInt32.toUInt16.toUInt32.toInt32)), (.int lt1)]))
      refine own_goW (fun t_ kt_ => XS.i2c X2.here hx rfl (hb hby at_148) rfl kt_) ?_
      show own_GoW p e below s _ _ _ (T2.setTop (mkF m 149 #[.val (.int p0), .val (.int p1), .val (.int p2), .val (.int p3), .val (.int p4), .val (.int ix), .val (.ref kd), .val (.int ta), .val (.int tb), .val (.int sm), .val (.int ea), .val (.int eb), .val (.int lt1), .val (.int le1), .unset, .unset, .unset, .unset, .unset] [(.int (tb.toUInt32.toUInt16.toUInt32.toInt32)), (.int (ta.toUInt32.toUInt16.toUInt32.toInt32)), (.int lt1)]))
      rw [own_i2c hta_, own_i2c htb_]
      show own_GoW p e below s _ _ _ (T2.setTop (mkF m 149 #[.val (.int p0), .val (.int p1), .val (.int p2), .val (.int p3), .val (.int p4), .val (.int ix), .val (.ref kd), .val (.int ta), .val (.int tb), .val (.int sm), .val (.int ea), .val (.int eb), .val (.int lt1), .val (.int le1), .unset, .unset, .unset, .unset, .unset] [(.int tb), (.int ta), (.int lt1)]))
      obtain ⟨_, _, ⟨T3, L3, k3, n3⟩, -, X3, hSn3, hgn3, ⟨Lc3, hQ3, l3, y3, z3, CRn3⟩, st3⟩ := callSS X2 hx (y := (⟨"com/example/lint_for_clocks/lintforclocks/model/TokenIsPinLaw", "mk", "(ICC)Ljava/lang/String;"⟩ : MethodName)) hown (mvT hZ (hw _ (List.mem_of_getElem? (i := 3) rfl))) (mvT hZ (hw _ (List.mem_of_getElem? (i := 4) rfl))) (mvT hZ (hw _ (List.mem_of_getElem? (i := 5) rfl))) (mvT hZ (hw _ (List.mem_of_getElem? (i := 6) rfl))) (by decide) (own_backSH (s := s) (vm0 := s.vm) (W := 0) (rm1 l Z a0 hw [] (lt1) (ta) (tb) (cs) h0 n0 Z0 SC0 hcs hta_ htb_) hZ (hw _ (List.mem_of_getElem? (i := 6) rfl)) (hw _ (List.mem_of_getElem? (i := 5) rfl)) (by decide) (by decide) (own_hEL hw) CR0.1 (fun x hx => by cases hx)) (g := (mkF m 149 #[.val (.int p0), .val (.int p1), .val (.int p2), .val (.int p3), .val (.int p4), .val (.int ix), .val (.ref kd), .val (.int ta), .val (.int tb), .val (.int sm), .val (.int ea), .val (.int eb), .val (.int lt1), .val (.int le1), .unset, .unset, .unset, .unset, .unset] [(.int tb), (.int ta), (.int lt1)])) rfl (by rw [hml]; rfl) (argsL := [(.int lt1), (.int ta), (.int tb)]) (rest := []) (lenOf pd_8 rfl) rfl (by show 2 * 0 + _ ≤ _; exact Nat.le_of_eq rfl) (hb hby at_149) (fun _ _ => ⟨rfl, e2, (by decide : 0 + 6 ≤ _), (by decide : 0 + 12 ≤ _)⟩)
      dsimp only [Pt.U, Pt.locs, Pt.cells, Pt.slots] at X3 l3 y3 z3 st3 hQ3 hSn3 hgn3 CRn3
      subst l3 y3 z3
      obtain ⟨sa, ba, rfl, Nq3, Kq3, gtq3, szq3, Eq3, FCq3, FVq3, Vq3⟩ := hQ3
      have N3 := Fr.app N2 Nq3
      refine own_goW (fun t_ kt_ => st3.trans kt_) ?_
      rw [e2] at hgn3
      have hS3 : s.Since T3.vm T3.heap.size := hS0.trans hSn3 (Nat.le_trans Z0 hgn3)
      have hZ : Z.Warmed39 (s.setVm T3.vm).vm := State.Warmed39.trans (t := s) hZ hSn3.1
      have hown : (s.setVm T3.vm).vm.findClass "com/example/lint_for_clocks/lintforclocks/model/TokenIsPinLaw" = some m.cls := by rw [show (s.setVm T3.vm).vm = T3.vm from rfl, hSn3.1.alike.findClass]; exact hown
      obtain ⟨lo3, X3g, N3g⟩ : ∃ lo, Stand p l e room_1 (s.setVm T3.vm) m #[(.int p0), (.int p1), (.int p2), (.int p3), (.int p4)] below meth c T3 lo 6 12 ∧ Fr n0 lo := ⟨_, X3, N3⟩
      obtain ⟨h3, e3⟩ : ∃ z, T3.heap = z := ⟨_, rfl⟩
      rw [e3] at Kq3 Eq3 FCq3 FVq3 Vq3
      rw [e3] at hS3 CRn3
      have ZZ_3 : n0 ≤ h3.size := Nat.le_trans Z0 Kq3.1
      have S_COMPACT_STRINGS_3 : Sta Z h3 "java/lang/String" "COMPACT_STRINGS" "Z" (.int cs) := own_sta_keep SC0 Kq3
      have S_NAME_3 : Sta Z h3 "com/example/lint_for_clocks/lintforclocks/model/Token$Kind" "NAME" "Lcom/example/lint_for_clocks/lintforclocks/model/Token$Kind;" (.ref na) := own_sta_keep K_NAME Kq3
      have S_NUMBER_3 : Sta Z h3 "com/example/lint_for_clocks/lintforclocks/model/Token$Kind" "NUMBER" "Lcom/example/lint_for_clocks/lintforclocks/model/Token$Kind;" (.ref nu) := own_sta_keep K_NUMBER Kq3
      have S_SYMBOL_3 : Sta Z h3 "com/example/lint_for_clocks/lintforclocks/model/Token$Kind" "SYMBOL" "Lcom/example/lint_for_clocks/lintforclocks/model/Token$Kind;" (.ref sy) := own_sta_keep K_SYMBOL Kq3
      have S_END_3 : Sta Z h3 "com/example/lint_for_clocks/lintforclocks/model/Token$Kind" "END" "Lcom/example/lint_for_clocks/lintforclocks/model/Token$Kind;" (.ref en) := own_sta_keep K_END Kq3
      have CR3 : CHr Z own_EL s.vm h0 T3.vm h3 := CR0.trans (CRn3)
      have hk3 : h3.size ≤ h3.size := Nat.le_refl _
      show own_GoW p e below s _ _ _ (T3.setTop (mkF m 152 #[.val (.int p0), .val (.int p1), .val (.int p2), .val (.int p3), .val (.int p4), .val (.int ix), .val (.ref kd), .val (.int ta), .val (.int tb), .val (.int sm), .val (.int ea), .val (.int eb), .val (.int lt1), .val (.int le1), .unset, .unset, .unset, .unset, .unset] [(.ref sa)]))
      refine own_goW (fun t_ kt_ => XS.astore X3g.here hx rfl (hb hby at_152) rfl rfl (l' := #[.val (.int p0), .val (.int p1), .val (.int p2), .val (.int p3), .val (.int p4), .val (.int ix), .val (.ref kd), .val (.int ta), .val (.int tb), .val (.int sm), .val (.int ea), .val (.int eb), .val (.int lt1), .val (.int le1), .val (.ref sa), .unset, .unset, .unset, .unset]) rfl kt_) ?_
      show own_GoW p e below s _ _ _ (T3.setTop (mkF m 154 #[.val (.int p0), .val (.int p1), .val (.int p2), .val (.int p3), .val (.int p4), .val (.int ix), .val (.ref kd), .val (.int ta), .val (.int tb), .val (.int sm), .val (.int ea), .val (.int eb), .val (.int lt1), .val (.int le1), .val (.ref sa), .unset, .unset, .unset, .unset] []))
      refine own_goW (fun t_ kt_ => XS.iload X3g.here hx rfl (hb hby at_154) rfl kt_) ?_
      show own_GoW p e below s _ _ _ (T3.setTop (mkF m 156 #[.val (.int p0), .val (.int p1), .val (.int p2), .val (.int p3), .val (.int p4), .val (.int ix), .val (.ref kd), .val (.int ta), .val (.int tb), .val (.int sm), .val (.int ea), .val (.int eb), .val (.int lt1), .val (.int le1), .val (.ref sa), .unset, .unset, .unset, .unset] [(.int le1)]))
      refine own_goW (fun t_ kt_ => XS.iload X3g.here hx rfl (hb hby at_156) rfl kt_) ?_
      show own_GoW p e below s _ _ _ (T3.setTop (mkF m 158 #[.val (.int p0), .val (.int p1), .val (.int p2), .val (.int p3), .val (.int p4), .val (.int ix), .val (.ref kd), .val (.int ta), .val (.int tb), .val (.int sm), .val (.int ea), .val (.int eb), .val (.int lt1), .val (.int le1), .val (.ref sa), .unset, .unset, .unset, .unset] [(.int ea), (.int le1)]))
      refine own_goW (fun t_ kt_ => XS.i2c X3g.here hx rfl (hb hby at_158) rfl kt_) ?_
      show own_GoW p e below s _ _ _ (T3.setTop (mkF m 159 #[.val (.int p0), .val (.int p1), .val (.int p2), .val (.int p3), .val (.int p4), .val (.int ix), .val (.ref kd), .val (.int ta), .val (.int tb), .val (.int sm), .val (.int ea), .val (.int eb), .val (.int lt1), .val (.int le1), .val (.ref sa), .unset, .unset, .unset, .unset] [(.int (ea.toUInt32.toUInt16.toUInt32.toInt32)), (.int le1)]))
      refine own_goW (fun t_ kt_ => XS.iload X3g.here hx rfl (hb hby at_159) rfl kt_) ?_
      show own_GoW p e below s _ _ _ (T3.setTop (mkF m 161 #[.val (.int p0), .val (.int p1), .val (.int p2), .val (.int p3), .val (.int p4), .val (.int ix), .val (.ref kd), .val (.int ta), .val (.int tb), .val (.int sm), .val (.int ea), .val (.int eb), .val (.int lt1), .val (.int le1), .val (.ref sa), .unset, .unset, .unset, .unset] [(.int eb), (.int (ea.toUInt32.toUInt16.toUInt32.toInt32)), (.int le1)]))
      refine own_goW (fun t_ kt_ => XS.i2c X3g.here hx rfl (hb hby at_161) rfl kt_) ?_
      show own_GoW p e below s _ _ _ (T3.setTop (mkF m 162 #[.val (.int p0), .val (.int p1), .val (.int p2), .val (.int p3), .val (.int p4), .val (.int ix), .val (.ref kd), .val (.int ta), .val (.int tb), .val (.int sm), .val (.int ea), .val (.int eb), .val (.int lt1), .val (.int le1), .val (.ref sa), .unset, .unset, .unset, .unset] [(.int (eb.toUInt32.toUInt16.toUInt32.toInt32)), (.int (ea.toUInt32.toUInt16.toUInt32.toInt32)), (.int le1)]))
      rw [own_i2c hea_, own_i2c heb_]
      show own_GoW p e below s _ _ _ (T3.setTop (mkF m 162 #[.val (.int p0), .val (.int p1), .val (.int p2), .val (.int p3), .val (.int p4), .val (.int ix), .val (.ref kd), .val (.int ta), .val (.int tb), .val (.int sm), .val (.int ea), .val (.int eb), .val (.int lt1), .val (.int le1), .val (.ref sa), .unset, .unset, .unset, .unset] [(.int eb), (.int ea), (.int le1)]))
      obtain ⟨_, _, ⟨T4, L4, k4, n4⟩, -, X4, hSn4, hgn4, ⟨Lc4, hQ4, l4, y4, z4, CRn4⟩, st4⟩ := callSS X3g hx (y := (⟨"com/example/lint_for_clocks/lintforclocks/model/TokenIsPinLaw", "mk", "(ICC)Ljava/lang/String;"⟩ : MethodName)) hown (mvT hZ (hw _ (List.mem_of_getElem? (i := 3) rfl))) (mvT hZ (hw _ (List.mem_of_getElem? (i := 4) rfl))) (mvT hZ (hw _ (List.mem_of_getElem? (i := 5) rfl))) (mvT hZ (hw _ (List.mem_of_getElem? (i := 6) rfl))) (by decide) (own_backSH (s := s) (vm0 := T3.vm) (W := 0) (rm1 l Z a0 hw [] (le1) (ea) (eb) (cs) h3 n0 ZZ_3 S_COMPACT_STRINGS_3 hcs hea_ heb_) hZ (hw _ (List.mem_of_getElem? (i := 6) rfl)) (hw _ (List.mem_of_getElem? (i := 5) rfl)) (by decide) (by decide) (own_hEL hw) CR3.1 (fun x hx => by cases hx)) (g := (mkF m 162 #[.val (.int p0), .val (.int p1), .val (.int p2), .val (.int p3), .val (.int p4), .val (.int ix), .val (.ref kd), .val (.int ta), .val (.int tb), .val (.int sm), .val (.int ea), .val (.int eb), .val (.int lt1), .val (.int le1), .val (.ref sa), .unset, .unset, .unset, .unset] [(.int eb), (.int ea), (.int le1)])) rfl (by rw [hml]; rfl) (argsL := [(.int le1), (.int ea), (.int eb)]) (rest := []) (lenOf pd_8 rfl) rfl (by show 2 * 0 + _ ≤ _; exact Nat.le_of_eq rfl) (hb hby at_162) (fun _ _ => ⟨rfl, e3, (by decide : 6 + 6 ≤ _), (by decide : 12 + 12 ≤ _)⟩)
      dsimp only [Pt.U, Pt.locs, Pt.cells, Pt.slots] at X4 l4 y4 z4 st4 hQ4 hSn4 hgn4 CRn4
      subst l4 y4 z4
      obtain ⟨sb, bb, rfl, Nq4, Kq4, gtq4, szq4, Eq4, FCq4, FVq4, Vq4⟩ := hQ4
      have N4 := Fr.app N3g Nq4
      refine own_goW (fun t_ kt_ => st4.trans kt_) ?_
      rw [e3] at hgn4
      have hS4 : s.Since T4.vm T4.heap.size := hS3.trans hSn4 (Nat.le_trans hk3 hgn4)
      have hZ : Z.Warmed39 (s.setVm T4.vm).vm := State.Warmed39.trans (t := (s.setVm T3.vm)) hZ hSn4.1
      have hown : (s.setVm T4.vm).vm.findClass "com/example/lint_for_clocks/lintforclocks/model/TokenIsPinLaw" = some m.cls := by rw [show (s.setVm T4.vm).vm = T4.vm from rfl, hSn4.1.alike.findClass]; exact hown
      obtain ⟨lo4, X4g, N4g⟩ : ∃ lo, Stand p l e room_1 (s.setVm T4.vm) m #[(.int p0), (.int p1), (.int p2), (.int p3), (.int p4)] below meth c T4 lo 12 24 ∧ Fr n0 lo := ⟨_, X4, N4⟩
      obtain ⟨h4, e4⟩ : ∃ z, T4.heap = z := ⟨_, rfl⟩
      rw [e4] at Kq4 Eq4 FCq4 FVq4 Vq4
      rw [e4] at hS4 CRn4
      have ZZ_4 : n0 ≤ h4.size := Nat.le_trans ZZ_3 Kq4.1
      have S_COMPACT_STRINGS_4 : Sta Z h4 "java/lang/String" "COMPACT_STRINGS" "Z" (.int cs) := own_sta_keep S_COMPACT_STRINGS_3 Kq4
      have S_NAME_4 : Sta Z h4 "com/example/lint_for_clocks/lintforclocks/model/Token$Kind" "NAME" "Lcom/example/lint_for_clocks/lintforclocks/model/Token$Kind;" (.ref na) := own_sta_keep S_NAME_3 Kq4
      have S_NUMBER_4 : Sta Z h4 "com/example/lint_for_clocks/lintforclocks/model/Token$Kind" "NUMBER" "Lcom/example/lint_for_clocks/lintforclocks/model/Token$Kind;" (.ref nu) := own_sta_keep S_NUMBER_3 Kq4
      have S_SYMBOL_4 : Sta Z h4 "com/example/lint_for_clocks/lintforclocks/model/Token$Kind" "SYMBOL" "Lcom/example/lint_for_clocks/lintforclocks/model/Token$Kind;" (.ref sy) := own_sta_keep S_SYMBOL_3 Kq4
      have S_END_4 : Sta Z h4 "com/example/lint_for_clocks/lintforclocks/model/Token$Kind" "END" "Lcom/example/lint_for_clocks/lintforclocks/model/Token$Kind;" (.ref en) := own_sta_keep S_END_3 Kq4
      have ue_4 : Exa Z h4 sa "java/lang/String" := Eq3.keep Kq4
      have uc_4 : Fld Z h4 sa "java/lang/String" "coder" "B" (.int (0 : Int32)) := FCq3.keep Kq4 nin0
      have uv_4 : Fld Z h4 sa "java/lang/String" "value" "[B" (.ref ba) := FVq3.keep Kq4 nin0
      have ua_4 : own_Ary Z h4 ba .byte (own_n lt1) (fun j => .int (own_y (own_cc ta tb j))) := Vq3.keep Kq4 nin0
      have CR4 : CHr Z own_EL s.vm h0 T4.vm h4 := CR3.trans (CRn4)
      have hk4 : h4.size ≤ h4.size := Nat.le_refl _
      have ne_ab : sa ≠ sb := Nat.ne_of_lt (Nat.lt_of_lt_of_le Eq3.lt szq4)
      show own_GoW p e below s _ _ _ (T4.setTop (mkF m 165 #[.val (.int p0), .val (.int p1), .val (.int p2), .val (.int p3), .val (.int p4), .val (.int ix), .val (.ref kd), .val (.int ta), .val (.int tb), .val (.int sm), .val (.int ea), .val (.int eb), .val (.int lt1), .val (.int le1), .val (.ref sa), .unset, .unset, .unset, .unset] [(.ref sb)]))
      refine own_goW (fun t_ kt_ => XS.astore X4g.here hx rfl (hb hby at_165) rfl rfl (l' := #[.val (.int p0), .val (.int p1), .val (.int p2), .val (.int p3), .val (.int p4), .val (.int ix), .val (.ref kd), .val (.int ta), .val (.int tb), .val (.int sm), .val (.int ea), .val (.int eb), .val (.int lt1), .val (.int le1), .val (.ref sa), .val (.ref sb), .unset, .unset, .unset]) rfl kt_) ?_
      show own_GoW p e below s _ _ _ (T4.setTop (mkF m 167 #[.val (.int p0), .val (.int p1), .val (.int p2), .val (.int p3), .val (.int p4), .val (.int ix), .val (.ref kd), .val (.int ta), .val (.int tb), .val (.int sm), .val (.int ea), .val (.int eb), .val (.int lt1), .val (.int le1), .val (.ref sa), .val (.ref sb), .unset, .unset, .unset] []))
      obtain ⟨T5, h5, X5, e5, E5, A5, D5, U5, st5⟩ := newO X4g hx hZ hown (hw _ (List.mem_of_getElem? (i := 40) rfl)) (hw _ (List.mem_of_getElem? (i := 41) rfl)) (hw _ (List.mem_of_getElem? (i := 42) rfl)) e4 (g := (mkF m 167 #[.val (.int p0), .val (.int p1), .val (.int p2), .val (.int p3), .val (.int p4), .val (.int ix), .val (.ref kd), .val (.int ta), .val (.int tb), .val (.int sm), .val (.int ea), .val (.int eb), .val (.int lt1), .val (.int le1), .val (.ref sa), .val (.ref sb), .unset, .unset, .unset] [])) rfl (hb hby at_167) (by decide) (by decide)
      obtain ⟨tk, g5⟩ : ∃ z, z = h4.size := ⟨_, rfl⟩
      rw [← g5] at A5 D5 U5 st5
      refine own_goW (fun t_ kt_ => st5 _ kt_) ?_
      have gt_tk : n0 ≤ tk := Nat.le_trans ZZ_4 (Nat.le_of_eq g5.symm)
      have ne_sa_tk : sa ≠ tk := Nat.ne_of_lt (Nat.lt_of_lt_of_le ue_4.lt (Nat.le_of_eq g5.symm))
      have ne_ba_tk : ba ≠ tk := Nat.ne_of_lt (Nat.lt_of_lt_of_le ua_4.lt (Nat.le_of_eq g5.symm))
      have ne_sb_tk : sb ≠ tk := Nat.ne_of_lt (Nat.lt_of_lt_of_le Eq4.lt (Nat.le_of_eq g5.symm))
      have ne_bb_tk : bb ≠ tk := Nat.ne_of_lt (Nat.lt_of_lt_of_le Vq4.lt (Nat.le_of_eq g5.symm))
      have ZZ_5 : n0 ≤ h5.size := Nat.le_trans ZZ_4 E5.1
      have S_COMPACT_STRINGS_5 : Sta Z h5 "java/lang/String" "COMPACT_STRINGS" "Z" (.int cs) := S_COMPACT_STRINGS_4.ext E5
      have S_NAME_5 : Sta Z h5 "com/example/lint_for_clocks/lintforclocks/model/Token$Kind" "NAME" "Lcom/example/lint_for_clocks/lintforclocks/model/Token$Kind;" (.ref na) := S_NAME_4.ext E5
      have S_NUMBER_5 : Sta Z h5 "com/example/lint_for_clocks/lintforclocks/model/Token$Kind" "NUMBER" "Lcom/example/lint_for_clocks/lintforclocks/model/Token$Kind;" (.ref nu) := S_NUMBER_4.ext E5
      have S_SYMBOL_5 : Sta Z h5 "com/example/lint_for_clocks/lintforclocks/model/Token$Kind" "SYMBOL" "Lcom/example/lint_for_clocks/lintforclocks/model/Token$Kind;" (.ref sy) := S_SYMBOL_4.ext E5
      have S_END_5 : Sta Z h5 "com/example/lint_for_clocks/lintforclocks/model/Token$Kind" "END" "Lcom/example/lint_for_clocks/lintforclocks/model/Token$Kind;" (.ref en) := S_END_4.ext E5
      have ue_5 : Exa Z h5 sa "java/lang/String" := ue_4.ext E5
      have uc_5 : Fld Z h5 sa "java/lang/String" "coder" "B" (.int (0 : Int32)) := uc_4.ext E5
      have uv_5 : Fld Z h5 sa "java/lang/String" "value" "[B" (.ref ba) := uv_4.ext E5
      have ua_5 : own_Ary Z h5 ba .byte (own_n lt1) (fun j => .int (own_y (own_cc ta tb j))) := ua_4.ext E5
      have KS_5 : h4.size ≤ h5.size := Nat.le_trans hk4 E5.1
      have ve_5 : Exa Z h5 sb "java/lang/String" := Eq4.ext E5
      have vc_5 : Fld Z h5 sb "java/lang/String" "coder" "B" (.int (0 : Int32)) := FCq4.ext E5
      have vv_5 : Fld Z h5 sb "java/lang/String" "value" "[B" (.ref bb) := FVq4.ext E5
      have va_5 : own_Ary Z h5 bb .byte (own_n le1) (fun j => .int (own_y (own_cc ea eb j))) := Vq4.ext E5
      have F_kind_tk : Fld Z h5 tk "com/example/lint_for_clocks/lintforclocks/model/Token" "kind" "Lcom/example/lint_for_clocks/lintforclocks/model/Token$Kind;" .null := D5 (Or.inr (hw _ (List.mem_of_getElem? (i := 53) rfl))) (ty := (.object "com/example/lint_for_clocks/lintforclocks/model/Token$Kind")) (by decide)
      have F_text_tk : Fld Z h5 tk "com/example/lint_for_clocks/lintforclocks/model/Token" "text" "Ljava/lang/String;" .null := D5 (Or.inr (hw _ (List.mem_of_getElem? (i := 55) rfl))) (ty := (.object "java/lang/String")) (by decide)
      have F_line_tk : Fld Z h5 tk "com/example/lint_for_clocks/lintforclocks/model/Token" "line" "I" (.int (0 : Int32)) := D5 (Or.inr (hw _ (List.mem_of_getElem? (i := 57) rfl))) (ty := .int) (by decide)
      show own_GoW p e below s _ _ _ (T5.setTop (mkF m 170 #[.val (.int p0), .val (.int p1), .val (.int p2), .val (.int p3), .val (.int p4), .val (.int ix), .val (.ref kd), .val (.int ta), .val (.int tb), .val (.int sm), .val (.int ea), .val (.int eb), .val (.int lt1), .val (.int le1), .val (.ref sa), .val (.ref sb), .unset, .unset, .unset] [(.ref tk)]))
      refine own_goW (fun t_ kt_ => XS.dup X5.here hx rfl (hb hby at_170) rfl rfl kt_) ?_
      show own_GoW p e below s _ _ _ (T5.setTop (mkF m 171 #[.val (.int p0), .val (.int p1), .val (.int p2), .val (.int p3), .val (.int p4), .val (.int ix), .val (.ref kd), .val (.int ta), .val (.int tb), .val (.int sm), .val (.int ea), .val (.int eb), .val (.int lt1), .val (.int le1), .val (.ref sa), .val (.ref sb), .unset, .unset, .unset] [(.ref tk), (.ref tk)]))
      refine own_goW (fun t_ kt_ => XS.aload X5.here hx rfl (hb hby at_171) rfl rfl kt_) ?_
      show own_GoW p e below s _ _ _ (T5.setTop (mkF m 173 #[.val (.int p0), .val (.int p1), .val (.int p2), .val (.int p3), .val (.int p4), .val (.int ix), .val (.ref kd), .val (.int ta), .val (.int tb), .val (.int sm), .val (.int ea), .val (.int eb), .val (.int lt1), .val (.int le1), .val (.ref sa), .val (.ref sb), .unset, .unset, .unset] [(.ref kd), (.ref tk), (.ref tk)]))
      refine own_goW (fun t_ kt_ => XS.aload X5.here hx rfl (hb hby at_173) rfl rfl kt_) ?_
      show own_GoW p e below s _ _ _ (T5.setTop (mkF m 175 #[.val (.int p0), .val (.int p1), .val (.int p2), .val (.int p3), .val (.int p4), .val (.int ix), .val (.ref kd), .val (.int ta), .val (.int tb), .val (.int sm), .val (.int ea), .val (.int eb), .val (.int lt1), .val (.int le1), .val (.ref sa), .val (.ref sb), .unset, .unset, .unset] [(.ref sa), (.ref kd), (.ref tk), (.ref tk)]))
      refine own_goW (fun t_ kt_ => XS.iload X5.here hx rfl (hb hby at_175) rfl kt_) ?_
      show own_GoW p e below s _ _ _ (T5.setTop (mkF m 177 #[.val (.int p0), .val (.int p1), .val (.int p2), .val (.int p3), .val (.int p4), .val (.int ix), .val (.ref kd), .val (.int ta), .val (.int tb), .val (.int sm), .val (.int ea), .val (.int eb), .val (.int lt1), .val (.int le1), .val (.ref sa), .val (.ref sb), .unset, .unset, .unset] [(.int p4), (.ref sa), (.ref kd), (.ref tk), (.ref tk)]))
      obtain ⟨_, _, ⟨T6, L6, k6, n6⟩, -, X6, ⟨Lc6, hQ6, l6, y6, z6⟩, st6⟩ := X5.specialBack hx (y := (⟨"com/example/lint_for_clocks/lintforclocks/model/Token", "<init>", "(Lcom/example/lint_for_clocks/lintforclocks/model/Token$Kind;Ljava/lang/String;I)V"⟩ : MethodName)) rfl hown (mvT hZ (hw _ (List.mem_of_getElem? (i := 43) rfl))) (mvT hZ (hw _ (List.mem_of_getElem? (i := 44) rfl))) (mvT hZ (hw _ (List.mem_of_getElem? (i := 45) rfl))) (by decide) (backOf (W := 1) (rm8 l Z a0 hw [] (tk) (kd) (sa) (p4) h5 n0 ZZ_5 F_kind_tk F_text_tk F_line_tk A5 gt_tk) hZ (hw _ (List.mem_of_getElem? (i := 45) rfl)) (hw _ (List.mem_of_getElem? (i := 42) rfl)) (by decide) (by decide)) (g := (mkF m 177 #[.val (.int p0), .val (.int p1), .val (.int p2), .val (.int p3), .val (.int p4), .val (.int ix), .val (.ref kd), .val (.int ta), .val (.int tb), .val (.int sm), .val (.int ea), .val (.int eb), .val (.int lt1), .val (.int le1), .val (.ref sa), .val (.ref sb), .unset, .unset, .unset] [(.int p4), (.ref sa), (.ref kd), (.ref tk), (.ref tk)])) rfl (by rw [hml]; rfl) (Steps.refl _) (a := tk) (argsL := [(.ref kd), (.ref sa), (.int p4)]) (rest := [(.ref tk)]) (lenOf pd_9 rfl) rfl (by show 2 * 0 + _ ≤ _; exact Nat.le_of_eq rfl) (hb hby at_177) (fun _ _ => ⟨rfl, e5, (by decide : 13 + 0 ≤ _), (by decide : 27 + 0 ≤ _)⟩)
      dsimp only [Pt.U, Pt.locs, Pt.cells, Pt.slots] at X6 l6 y6 z6 st6 hQ6
      subst l6 y6 z6
      obtain ⟨rfl, Nq6, Kq6, FKq6, FXq6⟩ := hQ6
      have N6 := Fr.app N4g Nq6
      refine own_goW (fun t_ kt_ => st6.trans kt_) ?_
      obtain ⟨lo6, X6g, N6g⟩ : ∃ lo, Stand p l e room_1 (s.setVm T4.vm) m #[(.int p0), (.int p1), (.int p2), (.int p3), (.int p4)] below meth c T6 lo 13 27 ∧ Fr n0 lo := ⟨_, X6, N6⟩
      obtain ⟨h6, e6⟩ : ∃ z, T6.heap = z := ⟨_, rfl⟩
      rw [e6] at Kq6 FKq6 FXq6
      have ZZ_6 : n0 ≤ h6.size := Nat.le_trans ZZ_5 Kq6.1
      have S_COMPACT_STRINGS_6 : Sta Z h6 "java/lang/String" "COMPACT_STRINGS" "Z" (.int cs) := own_sta_keepN S_COMPACT_STRINGS_5 Kq6 A5
      have S_NAME_6 : Sta Z h6 "com/example/lint_for_clocks/lintforclocks/model/Token$Kind" "NAME" "Lcom/example/lint_for_clocks/lintforclocks/model/Token$Kind;" (.ref na) := own_sta_keepN S_NAME_5 Kq6 A5
      have S_NUMBER_6 : Sta Z h6 "com/example/lint_for_clocks/lintforclocks/model/Token$Kind" "NUMBER" "Lcom/example/lint_for_clocks/lintforclocks/model/Token$Kind;" (.ref nu) := own_sta_keepN S_NUMBER_5 Kq6 A5
      have S_SYMBOL_6 : Sta Z h6 "com/example/lint_for_clocks/lintforclocks/model/Token$Kind" "SYMBOL" "Lcom/example/lint_for_clocks/lintforclocks/model/Token$Kind;" (.ref sy) := own_sta_keepN S_SYMBOL_5 Kq6 A5
      have S_END_6 : Sta Z h6 "com/example/lint_for_clocks/lintforclocks/model/Token$Kind" "END" "Lcom/example/lint_for_clocks/lintforclocks/model/Token$Kind;" (.ref en) := own_sta_keepN S_END_5 Kq6 A5
      have ue_6 : Exa Z h6 sa "java/lang/String" := ue_5.keep Kq6
      have uc_6 : Fld Z h6 sa "java/lang/String" "coder" "B" (.int (0 : Int32)) := uc_5.keep Kq6 (ninS ne_sa_tk nin0)
      have uv_6 : Fld Z h6 sa "java/lang/String" "value" "[B" (.ref ba) := uv_5.keep Kq6 (ninS ne_sa_tk nin0)
      have ua_6 : own_Ary Z h6 ba .byte (own_n lt1) (fun j => .int (own_y (own_cc ta tb j))) := ua_5.keep Kq6 (ninS ne_ba_tk nin0)
      have KS_6 : h4.size ≤ h6.size := Nat.le_trans KS_5 Kq6.1
      have ve_6 : Exa Z h6 sb "java/lang/String" := ve_5.keep Kq6
      have vc_6 : Fld Z h6 sb "java/lang/String" "coder" "B" (.int (0 : Int32)) := vc_5.keep Kq6 (ninS ne_sb_tk nin0)
      have vv_6 : Fld Z h6 sb "java/lang/String" "value" "[B" (.ref bb) := vv_5.keep Kq6 (ninS ne_sb_tk nin0)
      have va_6 : own_Ary Z h6 bb .byte (own_n le1) (fun j => .int (own_y (own_cc ea eb j))) := va_5.keep Kq6 (ninS ne_bb_tk nin0)
      have E_tk_6 : Exa Z h6 tk "com/example/lint_for_clocks/lintforclocks/model/Token" := A5.keep Kq6
      show own_GoW p e below s _ _ _ (T6.setTop (mkF m 180 #[.val (.int p0), .val (.int p1), .val (.int p2), .val (.int p3), .val (.int p4), .val (.int ix), .val (.ref kd), .val (.int ta), .val (.int tb), .val (.int sm), .val (.int ea), .val (.int eb), .val (.int lt1), .val (.int le1), .val (.ref sa), .val (.ref sb), .unset, .unset, .unset] [(.ref tk)]))
      refine own_goW (fun t_ kt_ => XS.astore X6g.here hx rfl (hb hby at_180) rfl rfl (l' := #[.val (.int p0), .val (.int p1), .val (.int p2), .val (.int p3), .val (.int p4), .val (.int ix), .val (.ref kd), .val (.int ta), .val (.int tb), .val (.int sm), .val (.int ea), .val (.int eb), .val (.int lt1), .val (.int le1), .val (.ref sa), .val (.ref sb), .val (.ref tk), .unset, .unset]) rfl kt_) ?_
      show own_GoW p e below s _ _ _ (T6.setTop (mkF m 182 #[.val (.int p0), .val (.int p1), .val (.int p2), .val (.int p3), .val (.int p4), .val (.int ix), .val (.ref kd), .val (.int ta), .val (.int tb), .val (.int sm), .val (.int ea), .val (.int eb), .val (.int lt1), .val (.int le1), .val (.ref sa), .val (.ref sb), .val (.ref tk), .unset, .unset] []))
      have J220 : ∀ (T7 : State) (locs7 : List Loc) (X7 : Stand p l e room_1 (s.setVm T4.vm) m #[(.int p0), (.int p1), (.int p2), (.int p3), (.int p4)] below meth c T7 locs7 13 27) (e7 : T7.heap = h6) (N7 : Fr n0 locs7) (q17 : Int32) (hq17 : own_R q17 (own_EQ lt1 le1 ta tb ea eb)), own_GoW p e below s (Q0 Z p0 p1 p2 p3 p4 cs na nu sy en h0 n0) (room_1).cells (room_1).slots (T7.setTop (mkF m 220 #[.val (.int p0), .val (.int p1), .val (.int p2), .val (.int p3), .val (.int p4), .val (.int ix), .val (.ref kd), .val (.int ta), .val (.int tb), .val (.int sm), .val (.int ea), .val (.int eb), .val (.int lt1), .val (.int le1), .val (.ref sa), .val (.ref sb), .val (.ref tk), .unset, .unset] [(.int q17)])) := by
        intro T7 locs7 X7 e7 N7 q17 hq17
        refine own_goW (fun t_ kt_ => XS.istore X7.here hx rfl (hb hby at_220) rfl (l' := #[.val (.int p0), .val (.int p1), .val (.int p2), .val (.int p3), .val (.int p4), .val (.int ix), .val (.ref kd), .val (.int ta), .val (.int tb), .val (.int sm), .val (.int ea), .val (.int eb), .val (.int lt1), .val (.int le1), .val (.ref sa), .val (.ref sb), .val (.ref tk), .val (.int q17), .unset]) rfl kt_) ?_
        show own_GoW p e below s _ _ _ (T7.setTop (mkF m 222 #[.val (.int p0), .val (.int p1), .val (.int p2), .val (.int p3), .val (.int p4), .val (.int ix), .val (.ref kd), .val (.int ta), .val (.int tb), .val (.int sm), .val (.int ea), .val (.int eb), .val (.int lt1), .val (.int le1), .val (.ref sa), .val (.ref sb), .val (.ref tk), .val (.int q17), .unset] []))
        have J243 : ∀ (T8 : State) (locs8 : List Loc) (X8 : Stand p l e room_1 (s.setVm T4.vm) m #[(.int p0), (.int p1), (.int p2), (.int p3), (.int p4)] below meth c T8 locs8 13 27) (e8 : T8.heap = h6) (N8 : Fr n0 locs8) (w18 : Int32) (hw18 : own_R w18 ((ix = (0 : Int32) ∨ ix = (2 : Int32)) ∧ own_EQ lt1 le1 ta tb ea eb)), own_GoW p e below s (Q0 Z p0 p1 p2 p3 p4 cs na nu sy en h0 n0) (room_1).cells (room_1).slots (T8.setTop (mkF m 243 #[.val (.int p0), .val (.int p1), .val (.int p2), .val (.int p3), .val (.int p4), .val (.int ix), .val (.ref kd), .val (.int ta), .val (.int tb), .val (.int sm), .val (.int ea), .val (.int eb), .val (.int lt1), .val (.int le1), .val (.ref sa), .val (.ref sb), .val (.ref tk), .val (.int q17), .unset] [(.int w18)])) := by
          intro T8 locs8 X8 e8 N8 w18 hw18
          refine own_goW (fun t_ kt_ => XS.istore X8.here hx rfl (hb hby at_243) rfl (l' := #[.val (.int p0), .val (.int p1), .val (.int p2), .val (.int p3), .val (.int p4), .val (.int ix), .val (.ref kd), .val (.int ta), .val (.int tb), .val (.int sm), .val (.int ea), .val (.int eb), .val (.int lt1), .val (.int le1), .val (.ref sa), .val (.ref sb), .val (.ref tk), .val (.int q17), .val (.int w18)]) rfl kt_) ?_
          show own_GoW p e below s _ _ _ (T8.setTop (mkF m 245 #[.val (.int p0), .val (.int p1), .val (.int p2), .val (.int p3), .val (.int p4), .val (.int ix), .val (.ref kd), .val (.int ta), .val (.int tb), .val (.int sm), .val (.int ea), .val (.int eb), .val (.int lt1), .val (.int le1), .val (.ref sa), .val (.ref sb), .val (.ref tk), .val (.int q17), .val (.int w18)] []))
          refine own_goW (fun t_ kt_ => XS.aload X8.here hx rfl (hb hby at_245) rfl rfl kt_) ?_
          show own_GoW p e below s _ _ _ (T8.setTop (mkF m 247 #[.val (.int p0), .val (.int p1), .val (.int p2), .val (.int p3), .val (.int p4), .val (.int ix), .val (.ref kd), .val (.int ta), .val (.int tb), .val (.int sm), .val (.int ea), .val (.int eb), .val (.int lt1), .val (.int le1), .val (.ref sa), .val (.ref sb), .val (.ref tk), .val (.int q17), .val (.int w18)] [(.ref tk)]))
          refine own_goW (fun t_ kt_ => XS.aload X8.here hx rfl (hb hby at_247) rfl rfl kt_) ?_
          show own_GoW p e below s _ _ _ (T8.setTop (mkF m 249 #[.val (.int p0), .val (.int p1), .val (.int p2), .val (.int p3), .val (.int p4), .val (.int ix), .val (.ref kd), .val (.int ta), .val (.int tb), .val (.int sm), .val (.int ea), .val (.int eb), .val (.int lt1), .val (.int le1), .val (.ref sa), .val (.ref sb), .val (.ref tk), .val (.int q17), .val (.int w18)] [(.ref sb), (.ref tk)]))
          obtain ⟨cq9, kq9, q9a, q9b, q9c⟩ := isOf hZ e8 E_tk_6
          obtain ⟨_, _, ⟨T9, L9, k9, n9⟩, -, X9, ⟨Lc9, hQ9, l9, y9, z9⟩, st9⟩ := X8.virtualBack hx (y := (⟨"com/example/lint_for_clocks/lintforclocks/model/Token", "is", "(Ljava/lang/String;)Z"⟩ : MethodName)) (z := (⟨"com/example/lint_for_clocks/lintforclocks/model/Token", "is", "(Ljava/lang/String;)Z"⟩ : MethodName)) hown (mvT hZ (hw _ (List.mem_of_getElem? (i := 58) rfl))) (mvT hZ (hw _ (List.mem_of_getElem? (i := 59) rfl))) (notFace_of_selects (args := #[]) (mvT hZ (hw _ (List.mem_of_getElem? (i := 61) rfl)))) (mvT hZ (hw _ (List.mem_of_getElem? (i := 61) rfl))) (mvT hZ (hw _ (List.mem_of_getElem? (i := 60) rfl))) (by decide) (backOf (W := 0) (rm10 l Z a0 hw [] (tk) (sb) (sa) (kd) (en) (nu) (ba) (bb) (cs) ((own_n lt1)) ((own_n le1)) ((fun j => own_y (own_cc ta tb j))) ((fun j => own_y (own_cc ea eb j))) h6 n0 ZZ_6 ue_6 uc_6 uv_6 ua_6 ve_6 vc_6 vv_6 va_6 (own_n2 _) (own_n2 _) S_COMPACT_STRINGS_6 hcs ne_ab E_tk_6 FKq6 FXq6 S_END_6 S_NUMBER_6) hZ (hw _ (List.mem_of_getElem? (i := 62) rfl)) (hw _ (List.mem_of_getElem? (i := 42) rfl)) (by decide) (by decide)) q9a q9c (g := (mkF m 249 #[.val (.int p0), .val (.int p1), .val (.int p2), .val (.int p3), .val (.int p4), .val (.int ix), .val (.ref kd), .val (.int ta), .val (.int tb), .val (.int sm), .val (.int ea), .val (.int eb), .val (.int lt1), .val (.int le1), .val (.ref sa), .val (.ref sb), .val (.ref tk), .val (.int q17), .val (.int w18)] [(.ref sb), (.ref tk)])) rfl (by rw [hml]; rfl) (Steps.refl _) (argsL := [(.ref sb)]) (rest := []) (lenOf pd_10 rfl) rfl (by show 2 * 0 + _ ≤ _; exact Nat.le_of_eq rfl) (hb hby at_249) (fun _ _ => ⟨rfl, e8, (by decide : 13 + 0 ≤ _), (by decide : 27 + 0 ≤ _)⟩)
          dsimp only [Pt.U, Pt.locs, Pt.cells, Pt.slots] at X9 l9 y9 z9 st9 hQ9
          subst l9 y9 z9
          obtain ⟨zi, rfl, hI, Nq9, eh9⟩ := hQ9
          have N9 := Fr.app N8 Nq9
          refine own_goW (fun t_ kt_ => st9.trans kt_) ?_
          obtain ⟨lo9, X9g, N9g⟩ : ∃ lo, Stand p l e room_1 (s.setVm T4.vm) m #[(.int p0), (.int p1), (.int p2), (.int p3), (.int p4)] below meth c T9 lo 13 27 ∧ Fr n0 lo := ⟨_, X9, N9⟩
          have e9 : T9.heap = h6 := eh9
          show own_GoW p e below s _ _ _ (T9.setTop (mkF m 252 #[.val (.int p0), .val (.int p1), .val (.int p2), .val (.int p3), .val (.int p4), .val (.int ix), .val (.ref kd), .val (.int ta), .val (.int tb), .val (.int sm), .val (.int ea), .val (.int eb), .val (.int lt1), .val (.int le1), .val (.ref sa), .val (.ref sb), .val (.ref tk), .val (.int q17), .val (.int w18)] [(.int zi)]))
          refine own_goW (fun t_ kt_ => XS.iload X9g.here hx rfl (hb hby at_252) rfl kt_) ?_
          show own_GoW p e below s _ _ _ (T9.setTop (mkF m 254 #[.val (.int p0), .val (.int p1), .val (.int p2), .val (.int p3), .val (.int p4), .val (.int ix), .val (.ref kd), .val (.int ta), .val (.int tb), .val (.int sm), .val (.int ea), .val (.int eb), .val (.int lt1), .val (.int le1), .val (.ref sa), .val (.ref sb), .val (.ref tk), .val (.int q17), .val (.int w18)] [(.int w18), (.int zi)]))
          refine own_goW (fun t_ kt_ => XS.icmpNo X9g.here hx rfl (hb hby at_254) rfl (teq (own_end (own_EEQ hlt1_ hle1_ hta_ htb_ hea_ heb_) (own_Rand hI) hw18 hkd)).2 kt_) ?_
          show own_GoW p e below s _ _ _ (T9.setTop (mkF m 257 #[.val (.int p0), .val (.int p1), .val (.int p2), .val (.int p3), .val (.int p4), .val (.int ix), .val (.ref kd), .val (.int ta), .val (.int tb), .val (.int sm), .val (.int ea), .val (.int eb), .val (.int lt1), .val (.int le1), .val (.ref sa), .val (.ref sb), .val (.ref tk), .val (.int q17), .val (.int w18)] []))
          refine own_goW (fun t_ kt_ => XS.iconst X9g.here hx rfl (hb hby at_257) kt_) ?_
          show own_GoW p e below s _ _ _ (T9.setTop (mkF m 258 #[.val (.int p0), .val (.int p1), .val (.int p2), .val (.int p3), .val (.int p4), .val (.int ix), .val (.ref kd), .val (.int ta), .val (.int tb), .val (.int sm), .val (.int ea), .val (.int eb), .val (.int lt1), .val (.int le1), .val (.ref sa), .val (.ref sb), .val (.ref tk), .val (.int q17), .val (.int w18)] [(.int (1 : Int32))]))
          refine own_goW (fun t_ kt_ => XS.goto X9g.here hx rfl (pc0 := 258) (pc' := 262) rfl (hb hby at_258) (by decide) (by decide) kt_) ?_
          show own_GoW p e below s _ _ _ (T9.setTop (mkF m 262 #[.val (.int p0), .val (.int p1), .val (.int p2), .val (.int p3), .val (.int p4), .val (.int ix), .val (.ref kd), .val (.int ta), .val (.int tb), .val (.int sm), .val (.int ea), .val (.int eb), .val (.int lt1), .val (.int le1), .val (.ref sa), .val (.ref sb), .val (.ref tk), .val (.int q17), .val (.int w18)] [(.int (1 : Int32))]))
          refine own_retW X9g hS4 (by rw [e9]; exact KS_6) (v := some (.int (1 : Int32))) (fun h => by rw [hret] at h; cases h) hlk ?_ (by decide) (by decide) (fun fs hr => retN X9g hx (t := .boolean) hret (by simp) (hb hby at_262) hr)
          show Q0 Z p0 p1 p2 p3 p4 cs na nu sy en h0 n0 (some (.int (1 : Int32))) T9.heap _
          rw [e9]
          exact ⟨rfl, N9g⟩
        refine own_goW (fun t_ kt_ => XS.iload X7.here hx rfl (hb hby at_222) rfl kt_) ?_
        show own_GoW p e below s _ _ _ (T7.setTop (mkF m 224 #[.val (.int p0), .val (.int p1), .val (.int p2), .val (.int p3), .val (.int p4), .val (.int ix), .val (.ref kd), .val (.int ta), .val (.int tb), .val (.int sm), .val (.int ea), .val (.int eb), .val (.int lt1), .val (.int le1), .val (.ref sa), .val (.ref sb), .val (.ref tk), .val (.int q17), .unset] [(.int ix)]))
        by_cases hc224 : ix = (0 : Int32)
        · skip
          have hi224 : ix.toInt = 0 := congrArg Int32.toInt hc224
          refine own_goW (fun t_ kt_ => XS.ifYes X7.here hx rfl (pc0 := 224) (pc' := 233) rfl (hb hby at_224) rfl ((if0 _ _).trans (teq hc224).1) (by decide) (by decide) kt_) ?_
          show own_GoW p e below s _ _ _ (T7.setTop (mkF m 233 #[.val (.int p0), .val (.int p1), .val (.int p2), .val (.int p3), .val (.int p4), .val (.int ix), .val (.ref kd), .val (.int ta), .val (.int tb), .val (.int sm), .val (.int ea), .val (.int eb), .val (.int lt1), .val (.int le1), .val (.ref sa), .val (.ref sb), .val (.ref tk), .val (.int q17), .unset] []))
          refine own_goW (fun t_ kt_ => XS.iload X7.here hx rfl (hb hby at_233) rfl kt_) ?_
          show own_GoW p e below s _ _ _ (T7.setTop (mkF m 235 #[.val (.int p0), .val (.int p1), .val (.int p2), .val (.int p3), .val (.int p4), .val (.int ix), .val (.ref kd), .val (.int ta), .val (.int tb), .val (.int sm), .val (.int ea), .val (.int eb), .val (.int lt1), .val (.int le1), .val (.ref sa), .val (.ref sb), .val (.ref tk), .val (.int q17), .unset] [(.int q17)]))
          by_cases hc235 : q17 = (0 : Int32)
          · skip
            have hi235 : q17.toInt = 0 := congrArg Int32.toInt hc235
            refine own_goW (fun t_ kt_ => XS.ifYes X7.here hx rfl (pc0 := 235) (pc' := 242) rfl (hb hby at_235) rfl ((if0 _ _).trans (teq hc235).1) (by decide) (by decide) kt_) ?_
            show own_GoW p e below s _ _ _ (T7.setTop (mkF m 242 #[.val (.int p0), .val (.int p1), .val (.int p2), .val (.int p3), .val (.int p4), .val (.int ix), .val (.ref kd), .val (.int ta), .val (.int tb), .val (.int sm), .val (.int ea), .val (.int eb), .val (.int lt1), .val (.int le1), .val (.ref sa), .val (.ref sb), .val (.ref tk), .val (.int q17), .unset] []))
            refine own_goW (fun t_ kt_ => XS.iconst X7.here hx rfl (hb hby at_242) kt_) ?_
            show own_GoW p e below s _ _ _ (T7.setTop (mkF m 243 #[.val (.int p0), .val (.int p1), .val (.int p2), .val (.int p3), .val (.int p4), .val (.int ix), .val (.ref kd), .val (.int ta), .val (.int tb), .val (.int sm), .val (.int ea), .val (.int eb), .val (.int lt1), .val (.int le1), .val (.ref sa), .val (.ref sb), .val (.ref tk), .val (.int q17), .unset] [(.int (0 : Int32))]))
            exact J243 T7 _ X7 e7 N7 ((0 : Int32))  (by first | exact Or.inl ⟨rfl, Or.inl hc224, (hq17.resolve_right (fun z => hc235 z.1)).2⟩ | exact Or.inl ⟨rfl, Or.inr hc230, (hq17.resolve_right (fun z => hc235 z.1)).2⟩ | exact Or.inr ⟨rfl, fun z => (hq17.elim (fun y => absurd (y.1.symm.trans hc235) (by decide)) (fun y => y.2 z.2))⟩ | exact Or.inr ⟨rfl, fun z => z.1.elim hc224 hc230⟩)
          · skip
            have hi235 : ¬ q17.toInt = 0 := fun q => hc235 (Int32.toInt_inj.mp q)
            refine own_goW (fun t_ kt_ => XS.ifNo X7.here hx rfl (hb hby at_235) rfl ((if0 _ _).trans (feq hc235).1) kt_) ?_
            show own_GoW p e below s _ _ _ (T7.setTop (mkF m 238 #[.val (.int p0), .val (.int p1), .val (.int p2), .val (.int p3), .val (.int p4), .val (.int ix), .val (.ref kd), .val (.int ta), .val (.int tb), .val (.int sm), .val (.int ea), .val (.int eb), .val (.int lt1), .val (.int le1), .val (.ref sa), .val (.ref sb), .val (.ref tk), .val (.int q17), .unset] []))
            refine own_goW (fun t_ kt_ => XS.iconst X7.here hx rfl (hb hby at_238) kt_) ?_
            show own_GoW p e below s _ _ _ (T7.setTop (mkF m 239 #[.val (.int p0), .val (.int p1), .val (.int p2), .val (.int p3), .val (.int p4), .val (.int ix), .val (.ref kd), .val (.int ta), .val (.int tb), .val (.int sm), .val (.int ea), .val (.int eb), .val (.int lt1), .val (.int le1), .val (.ref sa), .val (.ref sb), .val (.ref tk), .val (.int q17), .unset] [(.int (1 : Int32))]))
            refine own_goW (fun t_ kt_ => XS.goto X7.here hx rfl (pc0 := 239) (pc' := 243) rfl (hb hby at_239) (by decide) (by decide) kt_) ?_
            show own_GoW p e below s _ _ _ (T7.setTop (mkF m 243 #[.val (.int p0), .val (.int p1), .val (.int p2), .val (.int p3), .val (.int p4), .val (.int ix), .val (.ref kd), .val (.int ta), .val (.int tb), .val (.int sm), .val (.int ea), .val (.int eb), .val (.int lt1), .val (.int le1), .val (.ref sa), .val (.ref sb), .val (.ref tk), .val (.int q17), .unset] [(.int (1 : Int32))]))
            exact J243 T7 _ X7 e7 N7 ((1 : Int32))  (by first | exact Or.inl ⟨rfl, Or.inl hc224, (hq17.resolve_right (fun z => hc235 z.1)).2⟩ | exact Or.inl ⟨rfl, Or.inr hc230, (hq17.resolve_right (fun z => hc235 z.1)).2⟩ | exact Or.inr ⟨rfl, fun z => (hq17.elim (fun y => absurd (y.1.symm.trans hc235) (by decide)) (fun y => y.2 z.2))⟩ | exact Or.inr ⟨rfl, fun z => z.1.elim hc224 hc230⟩)
        · skip
          have hi224 : ¬ ix.toInt = 0 := fun q => hc224 (Int32.toInt_inj.mp q)
          refine own_goW (fun t_ kt_ => XS.ifNo X7.here hx rfl (hb hby at_224) rfl ((if0 _ _).trans (feq hc224).1) kt_) ?_
          show own_GoW p e below s _ _ _ (T7.setTop (mkF m 227 #[.val (.int p0), .val (.int p1), .val (.int p2), .val (.int p3), .val (.int p4), .val (.int ix), .val (.ref kd), .val (.int ta), .val (.int tb), .val (.int sm), .val (.int ea), .val (.int eb), .val (.int lt1), .val (.int le1), .val (.ref sa), .val (.ref sb), .val (.ref tk), .val (.int q17), .unset] []))
          refine own_goW (fun t_ kt_ => XS.iload X7.here hx rfl (hb hby at_227) rfl kt_) ?_
          show own_GoW p e below s _ _ _ (T7.setTop (mkF m 229 #[.val (.int p0), .val (.int p1), .val (.int p2), .val (.int p3), .val (.int p4), .val (.int ix), .val (.ref kd), .val (.int ta), .val (.int tb), .val (.int sm), .val (.int ea), .val (.int eb), .val (.int lt1), .val (.int le1), .val (.ref sa), .val (.ref sb), .val (.ref tk), .val (.int q17), .unset] [(.int ix)]))
          refine own_goW (fun t_ kt_ => XS.iconst X7.here hx rfl (hb hby at_229) kt_) ?_
          show own_GoW p e below s _ _ _ (T7.setTop (mkF m 230 #[.val (.int p0), .val (.int p1), .val (.int p2), .val (.int p3), .val (.int p4), .val (.int ix), .val (.ref kd), .val (.int ta), .val (.int tb), .val (.int sm), .val (.int ea), .val (.int eb), .val (.int lt1), .val (.int le1), .val (.ref sa), .val (.ref sb), .val (.ref tk), .val (.int q17), .unset] [(.int (2 : Int32)), (.int ix)]))
          by_cases hc230 : ix = (2 : Int32)
          · skip
            have hi230 : ix.toInt = 2 := congrArg Int32.toInt hc230
            refine own_goW (fun t_ kt_ => XS.icmpNo X7.here hx rfl (hb hby at_230) rfl (teq hc230).2 kt_) ?_
            show own_GoW p e below s _ _ _ (T7.setTop (mkF m 233 #[.val (.int p0), .val (.int p1), .val (.int p2), .val (.int p3), .val (.int p4), .val (.int ix), .val (.ref kd), .val (.int ta), .val (.int tb), .val (.int sm), .val (.int ea), .val (.int eb), .val (.int lt1), .val (.int le1), .val (.ref sa), .val (.ref sb), .val (.ref tk), .val (.int q17), .unset] []))
            refine own_goW (fun t_ kt_ => XS.iload X7.here hx rfl (hb hby at_233) rfl kt_) ?_
            show own_GoW p e below s _ _ _ (T7.setTop (mkF m 235 #[.val (.int p0), .val (.int p1), .val (.int p2), .val (.int p3), .val (.int p4), .val (.int ix), .val (.ref kd), .val (.int ta), .val (.int tb), .val (.int sm), .val (.int ea), .val (.int eb), .val (.int lt1), .val (.int le1), .val (.ref sa), .val (.ref sb), .val (.ref tk), .val (.int q17), .unset] [(.int q17)]))
            by_cases hc235 : q17 = (0 : Int32)
            · skip
              have hi235 : q17.toInt = 0 := congrArg Int32.toInt hc235
              refine own_goW (fun t_ kt_ => XS.ifYes X7.here hx rfl (pc0 := 235) (pc' := 242) rfl (hb hby at_235) rfl ((if0 _ _).trans (teq hc235).1) (by decide) (by decide) kt_) ?_
              show own_GoW p e below s _ _ _ (T7.setTop (mkF m 242 #[.val (.int p0), .val (.int p1), .val (.int p2), .val (.int p3), .val (.int p4), .val (.int ix), .val (.ref kd), .val (.int ta), .val (.int tb), .val (.int sm), .val (.int ea), .val (.int eb), .val (.int lt1), .val (.int le1), .val (.ref sa), .val (.ref sb), .val (.ref tk), .val (.int q17), .unset] []))
              refine own_goW (fun t_ kt_ => XS.iconst X7.here hx rfl (hb hby at_242) kt_) ?_
              show own_GoW p e below s _ _ _ (T7.setTop (mkF m 243 #[.val (.int p0), .val (.int p1), .val (.int p2), .val (.int p3), .val (.int p4), .val (.int ix), .val (.ref kd), .val (.int ta), .val (.int tb), .val (.int sm), .val (.int ea), .val (.int eb), .val (.int lt1), .val (.int le1), .val (.ref sa), .val (.ref sb), .val (.ref tk), .val (.int q17), .unset] [(.int (0 : Int32))]))
              exact J243 T7 _ X7 e7 N7 ((0 : Int32))  (by first | exact Or.inl ⟨rfl, Or.inl hc224, (hq17.resolve_right (fun z => hc235 z.1)).2⟩ | exact Or.inl ⟨rfl, Or.inr hc230, (hq17.resolve_right (fun z => hc235 z.1)).2⟩ | exact Or.inr ⟨rfl, fun z => (hq17.elim (fun y => absurd (y.1.symm.trans hc235) (by decide)) (fun y => y.2 z.2))⟩ | exact Or.inr ⟨rfl, fun z => z.1.elim hc224 hc230⟩)
            · skip
              have hi235 : ¬ q17.toInt = 0 := fun q => hc235 (Int32.toInt_inj.mp q)
              refine own_goW (fun t_ kt_ => XS.ifNo X7.here hx rfl (hb hby at_235) rfl ((if0 _ _).trans (feq hc235).1) kt_) ?_
              show own_GoW p e below s _ _ _ (T7.setTop (mkF m 238 #[.val (.int p0), .val (.int p1), .val (.int p2), .val (.int p3), .val (.int p4), .val (.int ix), .val (.ref kd), .val (.int ta), .val (.int tb), .val (.int sm), .val (.int ea), .val (.int eb), .val (.int lt1), .val (.int le1), .val (.ref sa), .val (.ref sb), .val (.ref tk), .val (.int q17), .unset] []))
              refine own_goW (fun t_ kt_ => XS.iconst X7.here hx rfl (hb hby at_238) kt_) ?_
              show own_GoW p e below s _ _ _ (T7.setTop (mkF m 239 #[.val (.int p0), .val (.int p1), .val (.int p2), .val (.int p3), .val (.int p4), .val (.int ix), .val (.ref kd), .val (.int ta), .val (.int tb), .val (.int sm), .val (.int ea), .val (.int eb), .val (.int lt1), .val (.int le1), .val (.ref sa), .val (.ref sb), .val (.ref tk), .val (.int q17), .unset] [(.int (1 : Int32))]))
              refine own_goW (fun t_ kt_ => XS.goto X7.here hx rfl (pc0 := 239) (pc' := 243) rfl (hb hby at_239) (by decide) (by decide) kt_) ?_
              show own_GoW p e below s _ _ _ (T7.setTop (mkF m 243 #[.val (.int p0), .val (.int p1), .val (.int p2), .val (.int p3), .val (.int p4), .val (.int ix), .val (.ref kd), .val (.int ta), .val (.int tb), .val (.int sm), .val (.int ea), .val (.int eb), .val (.int lt1), .val (.int le1), .val (.ref sa), .val (.ref sb), .val (.ref tk), .val (.int q17), .unset] [(.int (1 : Int32))]))
              exact J243 T7 _ X7 e7 N7 ((1 : Int32))  (by first | exact Or.inl ⟨rfl, Or.inl hc224, (hq17.resolve_right (fun z => hc235 z.1)).2⟩ | exact Or.inl ⟨rfl, Or.inr hc230, (hq17.resolve_right (fun z => hc235 z.1)).2⟩ | exact Or.inr ⟨rfl, fun z => (hq17.elim (fun y => absurd (y.1.symm.trans hc235) (by decide)) (fun y => y.2 z.2))⟩ | exact Or.inr ⟨rfl, fun z => z.1.elim hc224 hc230⟩)
          · skip
            have hi230 : ¬ ix.toInt = 2 := fun q => hc230 (Int32.toInt_inj.mp q)
            refine own_goW (fun t_ kt_ => XS.icmpYes X7.here hx rfl (pc0 := 230) (pc' := 242) rfl (hb hby at_230) rfl (feq hc230).2 (by decide) (by decide) kt_) ?_
            show own_GoW p e below s _ _ _ (T7.setTop (mkF m 242 #[.val (.int p0), .val (.int p1), .val (.int p2), .val (.int p3), .val (.int p4), .val (.int ix), .val (.ref kd), .val (.int ta), .val (.int tb), .val (.int sm), .val (.int ea), .val (.int eb), .val (.int lt1), .val (.int le1), .val (.ref sa), .val (.ref sb), .val (.ref tk), .val (.int q17), .unset] []))
            refine own_goW (fun t_ kt_ => XS.iconst X7.here hx rfl (hb hby at_242) kt_) ?_
            show own_GoW p e below s _ _ _ (T7.setTop (mkF m 243 #[.val (.int p0), .val (.int p1), .val (.int p2), .val (.int p3), .val (.int p4), .val (.int ix), .val (.ref kd), .val (.int ta), .val (.int tb), .val (.int sm), .val (.int ea), .val (.int eb), .val (.int lt1), .val (.int le1), .val (.ref sa), .val (.ref sb), .val (.ref tk), .val (.int q17), .unset] [(.int (0 : Int32))]))
            exact J243 T7 _ X7 e7 N7 ((0 : Int32))  (by first | exact Or.inl ⟨rfl, Or.inl hc224, (hq17.resolve_right (fun z => hc235 z.1)).2⟩ | exact Or.inl ⟨rfl, Or.inr hc230, (hq17.resolve_right (fun z => hc235 z.1)).2⟩ | exact Or.inr ⟨rfl, fun z => (hq17.elim (fun y => absurd (y.1.symm.trans hc235) (by decide)) (fun y => y.2 z.2))⟩ | exact Or.inr ⟨rfl, fun z => z.1.elim hc224 hc230⟩)
      refine own_goW (fun t_ kt_ => XS.iload X6g.here hx rfl (hb hby at_182) rfl kt_) ?_
      show own_GoW p e below s _ _ _ (T6.setTop (mkF m 184 #[.val (.int p0), .val (.int p1), .val (.int p2), .val (.int p3), .val (.int p4), .val (.int ix), .val (.ref kd), .val (.int ta), .val (.int tb), .val (.int sm), .val (.int ea), .val (.int eb), .val (.int lt1), .val (.int le1), .val (.ref sa), .val (.ref sb), .val (.ref tk), .unset, .unset] [(.int lt1)]))
      refine own_goW (fun t_ kt_ => XS.iload X6g.here hx rfl (hb hby at_184) rfl kt_) ?_
      show own_GoW p e below s _ _ _ (T6.setTop (mkF m 186 #[.val (.int p0), .val (.int p1), .val (.int p2), .val (.int p3), .val (.int p4), .val (.int ix), .val (.ref kd), .val (.int ta), .val (.int tb), .val (.int sm), .val (.int ea), .val (.int eb), .val (.int lt1), .val (.int le1), .val (.ref sa), .val (.ref sb), .val (.ref tk), .unset, .unset] [(.int le1), (.int lt1)]))
      by_cases hc186 : lt1 = le1
      · skip
        have hi186 : lt1.toInt = le1.toInt := congrArg Int32.toInt hc186
        refine own_goW (fun t_ kt_ => XS.icmpNo X6g.here hx rfl (hb hby at_186) rfl (teq hc186).2 kt_) ?_
        show own_GoW p e below s _ _ _ (T6.setTop (mkF m 189 #[.val (.int p0), .val (.int p1), .val (.int p2), .val (.int p3), .val (.int p4), .val (.int ix), .val (.ref kd), .val (.int ta), .val (.int tb), .val (.int sm), .val (.int ea), .val (.int eb), .val (.int lt1), .val (.int le1), .val (.ref sa), .val (.ref sb), .val (.ref tk), .unset, .unset] []))
        refine own_goW (fun t_ kt_ => XS.iload X6g.here hx rfl (hb hby at_189) rfl kt_) ?_
        show own_GoW p e below s _ _ _ (T6.setTop (mkF m 191 #[.val (.int p0), .val (.int p1), .val (.int p2), .val (.int p3), .val (.int p4), .val (.int ix), .val (.ref kd), .val (.int ta), .val (.int tb), .val (.int sm), .val (.int ea), .val (.int eb), .val (.int lt1), .val (.int le1), .val (.ref sa), .val (.ref sb), .val (.ref tk), .unset, .unset] [(.int lt1)]))
        refine own_goW (fun t_ kt_ => XS.iconst X6g.here hx rfl (hb hby at_191) kt_) ?_
        show own_GoW p e below s _ _ _ (T6.setTop (mkF m 192 #[.val (.int p0), .val (.int p1), .val (.int p2), .val (.int p3), .val (.int p4), .val (.int ix), .val (.ref kd), .val (.int ta), .val (.int tb), .val (.int sm), .val (.int ea), .val (.int eb), .val (.int lt1), .val (.int le1), .val (.ref sa), .val (.ref sb), .val (.ref tk), .unset, .unset] [(.int (1 : Int32)), (.int lt1)]))
        by_cases hc192 : lt1 < (1 : Int32)
        · skip
          have hi192 : lt1.toInt < 1 := Int32.lt_iff_toInt_lt.mp hc192
          refine own_goW (fun t_ kt_ => XS.icmpYes X6g.here hx rfl (pc0 := 192) (pc' := 202) rfl (hb hby at_192) rfl (tlt hc192).1 (by decide) (by decide) kt_) ?_
          show own_GoW p e below s _ _ _ (T6.setTop (mkF m 202 #[.val (.int p0), .val (.int p1), .val (.int p2), .val (.int p3), .val (.int p4), .val (.int ix), .val (.ref kd), .val (.int ta), .val (.int tb), .val (.int sm), .val (.int ea), .val (.int eb), .val (.int lt1), .val (.int le1), .val (.ref sa), .val (.ref sb), .val (.ref tk), .unset, .unset] []))
          refine own_goW (fun t_ kt_ => XS.iload X6g.here hx rfl (hb hby at_202) rfl kt_) ?_
          show own_GoW p e below s _ _ _ (T6.setTop (mkF m 204 #[.val (.int p0), .val (.int p1), .val (.int p2), .val (.int p3), .val (.int p4), .val (.int ix), .val (.ref kd), .val (.int ta), .val (.int tb), .val (.int sm), .val (.int ea), .val (.int eb), .val (.int lt1), .val (.int le1), .val (.ref sa), .val (.ref sb), .val (.ref tk), .unset, .unset] [(.int lt1)]))
          refine own_goW (fun t_ kt_ => XS.iconst X6g.here hx rfl (hb hby at_204) kt_) ?_
          show own_GoW p e below s _ _ _ (T6.setTop (mkF m 205 #[.val (.int p0), .val (.int p1), .val (.int p2), .val (.int p3), .val (.int p4), .val (.int ix), .val (.ref kd), .val (.int ta), .val (.int tb), .val (.int sm), .val (.int ea), .val (.int eb), .val (.int lt1), .val (.int le1), .val (.ref sa), .val (.ref sb), .val (.ref tk), .unset, .unset] [(.int (2 : Int32)), (.int lt1)]))
          by_cases hc205 : lt1 < (2 : Int32)
          · skip
            have hi205 : lt1.toInt < 2 := Int32.lt_iff_toInt_lt.mp hc205
            refine own_goW (fun t_ kt_ => XS.icmpYes X6g.here hx rfl (pc0 := 205) (pc' := 215) rfl (hb hby at_205) rfl (tlt hc205).1 (by decide) (by decide) kt_) ?_
            show own_GoW p e below s _ _ _ (T6.setTop (mkF m 215 #[.val (.int p0), .val (.int p1), .val (.int p2), .val (.int p3), .val (.int p4), .val (.int ix), .val (.ref kd), .val (.int ta), .val (.int tb), .val (.int sm), .val (.int ea), .val (.int eb), .val (.int lt1), .val (.int le1), .val (.ref sa), .val (.ref sb), .val (.ref tk), .unset, .unset] []))
            refine own_goW (fun t_ kt_ => XS.iconst X6g.here hx rfl (hb hby at_215) kt_) ?_
            show own_GoW p e below s _ _ _ (T6.setTop (mkF m 216 #[.val (.int p0), .val (.int p1), .val (.int p2), .val (.int p3), .val (.int p4), .val (.int ix), .val (.ref kd), .val (.int ta), .val (.int tb), .val (.int sm), .val (.int ea), .val (.int eb), .val (.int lt1), .val (.int le1), .val (.ref sa), .val (.ref sb), .val (.ref tk), .unset, .unset] [(.int (1 : Int32))]))
            refine own_goW (fun t_ kt_ => XS.goto X6g.here hx rfl (pc0 := 216) (pc' := 220) rfl (hb hby at_216) (by decide) (by decide) kt_) ?_
            show own_GoW p e below s _ _ _ (T6.setTop (mkF m 220 #[.val (.int p0), .val (.int p1), .val (.int p2), .val (.int p3), .val (.int p4), .val (.int ix), .val (.ref kd), .val (.int ta), .val (.int tb), .val (.int sm), .val (.int ea), .val (.int eb), .val (.int lt1), .val (.int le1), .val (.ref sa), .val (.ref sb), .val (.ref tk), .unset, .unset] [(.int (1 : Int32))]))
            exact J220 T6 _ X6g e6 N6g ((1 : Int32))  (by first | exact Or.inl ⟨rfl, hc186, Or.inl hc192, Or.inl hc205⟩ | exact Or.inl ⟨rfl, hc186, Or.inl hc192, Or.inr hc212⟩ | exact Or.inl ⟨rfl, hc186, Or.inr hc199, Or.inl hc205⟩ | exact Or.inl ⟨rfl, hc186, Or.inr hc199, Or.inr hc212⟩ | exact Or.inr ⟨rfl, fun q => absurd q.1 hc186⟩ | exact Or.inr ⟨rfl, fun q => q.2.1.elim hc192 hc199⟩ | exact Or.inr ⟨rfl, fun q => q.2.2.elim hc205 hc212⟩)
          · skip
            have hi205 : ¬ lt1.toInt < 2 := fun q => hc205 (Int32.lt_iff_toInt_lt.mpr q)
            refine own_goW (fun t_ kt_ => XS.icmpNo X6g.here hx rfl (hb hby at_205) rfl (flt hc205).1 kt_) ?_
            show own_GoW p e below s _ _ _ (T6.setTop (mkF m 208 #[.val (.int p0), .val (.int p1), .val (.int p2), .val (.int p3), .val (.int p4), .val (.int ix), .val (.ref kd), .val (.int ta), .val (.int tb), .val (.int sm), .val (.int ea), .val (.int eb), .val (.int lt1), .val (.int le1), .val (.ref sa), .val (.ref sb), .val (.ref tk), .unset, .unset] []))
            refine own_goW (fun t_ kt_ => XS.iload X6g.here hx rfl (hb hby at_208) rfl kt_) ?_
            show own_GoW p e below s _ _ _ (T6.setTop (mkF m 210 #[.val (.int p0), .val (.int p1), .val (.int p2), .val (.int p3), .val (.int p4), .val (.int ix), .val (.ref kd), .val (.int ta), .val (.int tb), .val (.int sm), .val (.int ea), .val (.int eb), .val (.int lt1), .val (.int le1), .val (.ref sa), .val (.ref sb), .val (.ref tk), .unset, .unset] [(.int tb)]))
            refine own_goW (fun t_ kt_ => XS.iload X6g.here hx rfl (hb hby at_210) rfl kt_) ?_
            show own_GoW p e below s _ _ _ (T6.setTop (mkF m 212 #[.val (.int p0), .val (.int p1), .val (.int p2), .val (.int p3), .val (.int p4), .val (.int ix), .val (.ref kd), .val (.int ta), .val (.int tb), .val (.int sm), .val (.int ea), .val (.int eb), .val (.int lt1), .val (.int le1), .val (.ref sa), .val (.ref sb), .val (.ref tk), .unset, .unset] [(.int eb), (.int tb)]))
            by_cases hc212 : tb = eb
            · skip
              have hi212 : tb.toInt = eb.toInt := congrArg Int32.toInt hc212
              refine own_goW (fun t_ kt_ => XS.icmpNo X6g.here hx rfl (hb hby at_212) rfl (teq hc212).2 kt_) ?_
              show own_GoW p e below s _ _ _ (T6.setTop (mkF m 215 #[.val (.int p0), .val (.int p1), .val (.int p2), .val (.int p3), .val (.int p4), .val (.int ix), .val (.ref kd), .val (.int ta), .val (.int tb), .val (.int sm), .val (.int ea), .val (.int eb), .val (.int lt1), .val (.int le1), .val (.ref sa), .val (.ref sb), .val (.ref tk), .unset, .unset] []))
              refine own_goW (fun t_ kt_ => XS.iconst X6g.here hx rfl (hb hby at_215) kt_) ?_
              show own_GoW p e below s _ _ _ (T6.setTop (mkF m 216 #[.val (.int p0), .val (.int p1), .val (.int p2), .val (.int p3), .val (.int p4), .val (.int ix), .val (.ref kd), .val (.int ta), .val (.int tb), .val (.int sm), .val (.int ea), .val (.int eb), .val (.int lt1), .val (.int le1), .val (.ref sa), .val (.ref sb), .val (.ref tk), .unset, .unset] [(.int (1 : Int32))]))
              refine own_goW (fun t_ kt_ => XS.goto X6g.here hx rfl (pc0 := 216) (pc' := 220) rfl (hb hby at_216) (by decide) (by decide) kt_) ?_
              show own_GoW p e below s _ _ _ (T6.setTop (mkF m 220 #[.val (.int p0), .val (.int p1), .val (.int p2), .val (.int p3), .val (.int p4), .val (.int ix), .val (.ref kd), .val (.int ta), .val (.int tb), .val (.int sm), .val (.int ea), .val (.int eb), .val (.int lt1), .val (.int le1), .val (.ref sa), .val (.ref sb), .val (.ref tk), .unset, .unset] [(.int (1 : Int32))]))
              exact J220 T6 _ X6g e6 N6g ((1 : Int32))  (by first | exact Or.inl ⟨rfl, hc186, Or.inl hc192, Or.inl hc205⟩ | exact Or.inl ⟨rfl, hc186, Or.inl hc192, Or.inr hc212⟩ | exact Or.inl ⟨rfl, hc186, Or.inr hc199, Or.inl hc205⟩ | exact Or.inl ⟨rfl, hc186, Or.inr hc199, Or.inr hc212⟩ | exact Or.inr ⟨rfl, fun q => absurd q.1 hc186⟩ | exact Or.inr ⟨rfl, fun q => q.2.1.elim hc192 hc199⟩ | exact Or.inr ⟨rfl, fun q => q.2.2.elim hc205 hc212⟩)
            · skip
              have hi212 : ¬ tb.toInt = eb.toInt := fun q => hc212 (Int32.toInt_inj.mp q)
              refine own_goW (fun t_ kt_ => XS.icmpYes X6g.here hx rfl (pc0 := 212) (pc' := 219) rfl (hb hby at_212) rfl (feq hc212).2 (by decide) (by decide) kt_) ?_
              show own_GoW p e below s _ _ _ (T6.setTop (mkF m 219 #[.val (.int p0), .val (.int p1), .val (.int p2), .val (.int p3), .val (.int p4), .val (.int ix), .val (.ref kd), .val (.int ta), .val (.int tb), .val (.int sm), .val (.int ea), .val (.int eb), .val (.int lt1), .val (.int le1), .val (.ref sa), .val (.ref sb), .val (.ref tk), .unset, .unset] []))
              refine own_goW (fun t_ kt_ => XS.iconst X6g.here hx rfl (hb hby at_219) kt_) ?_
              show own_GoW p e below s _ _ _ (T6.setTop (mkF m 220 #[.val (.int p0), .val (.int p1), .val (.int p2), .val (.int p3), .val (.int p4), .val (.int ix), .val (.ref kd), .val (.int ta), .val (.int tb), .val (.int sm), .val (.int ea), .val (.int eb), .val (.int lt1), .val (.int le1), .val (.ref sa), .val (.ref sb), .val (.ref tk), .unset, .unset] [(.int (0 : Int32))]))
              exact J220 T6 _ X6g e6 N6g ((0 : Int32))  (by first | exact Or.inl ⟨rfl, hc186, Or.inl hc192, Or.inl hc205⟩ | exact Or.inl ⟨rfl, hc186, Or.inl hc192, Or.inr hc212⟩ | exact Or.inl ⟨rfl, hc186, Or.inr hc199, Or.inl hc205⟩ | exact Or.inl ⟨rfl, hc186, Or.inr hc199, Or.inr hc212⟩ | exact Or.inr ⟨rfl, fun q => absurd q.1 hc186⟩ | exact Or.inr ⟨rfl, fun q => q.2.1.elim hc192 hc199⟩ | exact Or.inr ⟨rfl, fun q => q.2.2.elim hc205 hc212⟩)
        · skip
          have hi192 : ¬ lt1.toInt < 1 := fun q => hc192 (Int32.lt_iff_toInt_lt.mpr q)
          refine own_goW (fun t_ kt_ => XS.icmpNo X6g.here hx rfl (hb hby at_192) rfl (flt hc192).1 kt_) ?_
          show own_GoW p e below s _ _ _ (T6.setTop (mkF m 195 #[.val (.int p0), .val (.int p1), .val (.int p2), .val (.int p3), .val (.int p4), .val (.int ix), .val (.ref kd), .val (.int ta), .val (.int tb), .val (.int sm), .val (.int ea), .val (.int eb), .val (.int lt1), .val (.int le1), .val (.ref sa), .val (.ref sb), .val (.ref tk), .unset, .unset] []))
          refine own_goW (fun t_ kt_ => XS.iload X6g.here hx rfl (hb hby at_195) rfl kt_) ?_
          show own_GoW p e below s _ _ _ (T6.setTop (mkF m 197 #[.val (.int p0), .val (.int p1), .val (.int p2), .val (.int p3), .val (.int p4), .val (.int ix), .val (.ref kd), .val (.int ta), .val (.int tb), .val (.int sm), .val (.int ea), .val (.int eb), .val (.int lt1), .val (.int le1), .val (.ref sa), .val (.ref sb), .val (.ref tk), .unset, .unset] [(.int ta)]))
          refine own_goW (fun t_ kt_ => XS.iload X6g.here hx rfl (hb hby at_197) rfl kt_) ?_
          show own_GoW p e below s _ _ _ (T6.setTop (mkF m 199 #[.val (.int p0), .val (.int p1), .val (.int p2), .val (.int p3), .val (.int p4), .val (.int ix), .val (.ref kd), .val (.int ta), .val (.int tb), .val (.int sm), .val (.int ea), .val (.int eb), .val (.int lt1), .val (.int le1), .val (.ref sa), .val (.ref sb), .val (.ref tk), .unset, .unset] [(.int ea), (.int ta)]))
          by_cases hc199 : ta = ea
          · skip
            have hi199 : ta.toInt = ea.toInt := congrArg Int32.toInt hc199
            refine own_goW (fun t_ kt_ => XS.icmpNo X6g.here hx rfl (hb hby at_199) rfl (teq hc199).2 kt_) ?_
            show own_GoW p e below s _ _ _ (T6.setTop (mkF m 202 #[.val (.int p0), .val (.int p1), .val (.int p2), .val (.int p3), .val (.int p4), .val (.int ix), .val (.ref kd), .val (.int ta), .val (.int tb), .val (.int sm), .val (.int ea), .val (.int eb), .val (.int lt1), .val (.int le1), .val (.ref sa), .val (.ref sb), .val (.ref tk), .unset, .unset] []))
            refine own_goW (fun t_ kt_ => XS.iload X6g.here hx rfl (hb hby at_202) rfl kt_) ?_
            show own_GoW p e below s _ _ _ (T6.setTop (mkF m 204 #[.val (.int p0), .val (.int p1), .val (.int p2), .val (.int p3), .val (.int p4), .val (.int ix), .val (.ref kd), .val (.int ta), .val (.int tb), .val (.int sm), .val (.int ea), .val (.int eb), .val (.int lt1), .val (.int le1), .val (.ref sa), .val (.ref sb), .val (.ref tk), .unset, .unset] [(.int lt1)]))
            refine own_goW (fun t_ kt_ => XS.iconst X6g.here hx rfl (hb hby at_204) kt_) ?_
            show own_GoW p e below s _ _ _ (T6.setTop (mkF m 205 #[.val (.int p0), .val (.int p1), .val (.int p2), .val (.int p3), .val (.int p4), .val (.int ix), .val (.ref kd), .val (.int ta), .val (.int tb), .val (.int sm), .val (.int ea), .val (.int eb), .val (.int lt1), .val (.int le1), .val (.ref sa), .val (.ref sb), .val (.ref tk), .unset, .unset] [(.int (2 : Int32)), (.int lt1)]))
            by_cases hc205 : lt1 < (2 : Int32)
            · skip
              have hi205 : lt1.toInt < 2 := Int32.lt_iff_toInt_lt.mp hc205
              refine own_goW (fun t_ kt_ => XS.icmpYes X6g.here hx rfl (pc0 := 205) (pc' := 215) rfl (hb hby at_205) rfl (tlt hc205).1 (by decide) (by decide) kt_) ?_
              show own_GoW p e below s _ _ _ (T6.setTop (mkF m 215 #[.val (.int p0), .val (.int p1), .val (.int p2), .val (.int p3), .val (.int p4), .val (.int ix), .val (.ref kd), .val (.int ta), .val (.int tb), .val (.int sm), .val (.int ea), .val (.int eb), .val (.int lt1), .val (.int le1), .val (.ref sa), .val (.ref sb), .val (.ref tk), .unset, .unset] []))
              refine own_goW (fun t_ kt_ => XS.iconst X6g.here hx rfl (hb hby at_215) kt_) ?_
              show own_GoW p e below s _ _ _ (T6.setTop (mkF m 216 #[.val (.int p0), .val (.int p1), .val (.int p2), .val (.int p3), .val (.int p4), .val (.int ix), .val (.ref kd), .val (.int ta), .val (.int tb), .val (.int sm), .val (.int ea), .val (.int eb), .val (.int lt1), .val (.int le1), .val (.ref sa), .val (.ref sb), .val (.ref tk), .unset, .unset] [(.int (1 : Int32))]))
              refine own_goW (fun t_ kt_ => XS.goto X6g.here hx rfl (pc0 := 216) (pc' := 220) rfl (hb hby at_216) (by decide) (by decide) kt_) ?_
              show own_GoW p e below s _ _ _ (T6.setTop (mkF m 220 #[.val (.int p0), .val (.int p1), .val (.int p2), .val (.int p3), .val (.int p4), .val (.int ix), .val (.ref kd), .val (.int ta), .val (.int tb), .val (.int sm), .val (.int ea), .val (.int eb), .val (.int lt1), .val (.int le1), .val (.ref sa), .val (.ref sb), .val (.ref tk), .unset, .unset] [(.int (1 : Int32))]))
              exact J220 T6 _ X6g e6 N6g ((1 : Int32))  (by first | exact Or.inl ⟨rfl, hc186, Or.inl hc192, Or.inl hc205⟩ | exact Or.inl ⟨rfl, hc186, Or.inl hc192, Or.inr hc212⟩ | exact Or.inl ⟨rfl, hc186, Or.inr hc199, Or.inl hc205⟩ | exact Or.inl ⟨rfl, hc186, Or.inr hc199, Or.inr hc212⟩ | exact Or.inr ⟨rfl, fun q => absurd q.1 hc186⟩ | exact Or.inr ⟨rfl, fun q => q.2.1.elim hc192 hc199⟩ | exact Or.inr ⟨rfl, fun q => q.2.2.elim hc205 hc212⟩)
            · skip
              have hi205 : ¬ lt1.toInt < 2 := fun q => hc205 (Int32.lt_iff_toInt_lt.mpr q)
              refine own_goW (fun t_ kt_ => XS.icmpNo X6g.here hx rfl (hb hby at_205) rfl (flt hc205).1 kt_) ?_
              show own_GoW p e below s _ _ _ (T6.setTop (mkF m 208 #[.val (.int p0), .val (.int p1), .val (.int p2), .val (.int p3), .val (.int p4), .val (.int ix), .val (.ref kd), .val (.int ta), .val (.int tb), .val (.int sm), .val (.int ea), .val (.int eb), .val (.int lt1), .val (.int le1), .val (.ref sa), .val (.ref sb), .val (.ref tk), .unset, .unset] []))
              refine own_goW (fun t_ kt_ => XS.iload X6g.here hx rfl (hb hby at_208) rfl kt_) ?_
              show own_GoW p e below s _ _ _ (T6.setTop (mkF m 210 #[.val (.int p0), .val (.int p1), .val (.int p2), .val (.int p3), .val (.int p4), .val (.int ix), .val (.ref kd), .val (.int ta), .val (.int tb), .val (.int sm), .val (.int ea), .val (.int eb), .val (.int lt1), .val (.int le1), .val (.ref sa), .val (.ref sb), .val (.ref tk), .unset, .unset] [(.int tb)]))
              refine own_goW (fun t_ kt_ => XS.iload X6g.here hx rfl (hb hby at_210) rfl kt_) ?_
              show own_GoW p e below s _ _ _ (T6.setTop (mkF m 212 #[.val (.int p0), .val (.int p1), .val (.int p2), .val (.int p3), .val (.int p4), .val (.int ix), .val (.ref kd), .val (.int ta), .val (.int tb), .val (.int sm), .val (.int ea), .val (.int eb), .val (.int lt1), .val (.int le1), .val (.ref sa), .val (.ref sb), .val (.ref tk), .unset, .unset] [(.int eb), (.int tb)]))
              by_cases hc212 : tb = eb
              · skip
                have hi212 : tb.toInt = eb.toInt := congrArg Int32.toInt hc212
                refine own_goW (fun t_ kt_ => XS.icmpNo X6g.here hx rfl (hb hby at_212) rfl (teq hc212).2 kt_) ?_
                show own_GoW p e below s _ _ _ (T6.setTop (mkF m 215 #[.val (.int p0), .val (.int p1), .val (.int p2), .val (.int p3), .val (.int p4), .val (.int ix), .val (.ref kd), .val (.int ta), .val (.int tb), .val (.int sm), .val (.int ea), .val (.int eb), .val (.int lt1), .val (.int le1), .val (.ref sa), .val (.ref sb), .val (.ref tk), .unset, .unset] []))
                refine own_goW (fun t_ kt_ => XS.iconst X6g.here hx rfl (hb hby at_215) kt_) ?_
                show own_GoW p e below s _ _ _ (T6.setTop (mkF m 216 #[.val (.int p0), .val (.int p1), .val (.int p2), .val (.int p3), .val (.int p4), .val (.int ix), .val (.ref kd), .val (.int ta), .val (.int tb), .val (.int sm), .val (.int ea), .val (.int eb), .val (.int lt1), .val (.int le1), .val (.ref sa), .val (.ref sb), .val (.ref tk), .unset, .unset] [(.int (1 : Int32))]))
                refine own_goW (fun t_ kt_ => XS.goto X6g.here hx rfl (pc0 := 216) (pc' := 220) rfl (hb hby at_216) (by decide) (by decide) kt_) ?_
                show own_GoW p e below s _ _ _ (T6.setTop (mkF m 220 #[.val (.int p0), .val (.int p1), .val (.int p2), .val (.int p3), .val (.int p4), .val (.int ix), .val (.ref kd), .val (.int ta), .val (.int tb), .val (.int sm), .val (.int ea), .val (.int eb), .val (.int lt1), .val (.int le1), .val (.ref sa), .val (.ref sb), .val (.ref tk), .unset, .unset] [(.int (1 : Int32))]))
                exact J220 T6 _ X6g e6 N6g ((1 : Int32))  (by first | exact Or.inl ⟨rfl, hc186, Or.inl hc192, Or.inl hc205⟩ | exact Or.inl ⟨rfl, hc186, Or.inl hc192, Or.inr hc212⟩ | exact Or.inl ⟨rfl, hc186, Or.inr hc199, Or.inl hc205⟩ | exact Or.inl ⟨rfl, hc186, Or.inr hc199, Or.inr hc212⟩ | exact Or.inr ⟨rfl, fun q => absurd q.1 hc186⟩ | exact Or.inr ⟨rfl, fun q => q.2.1.elim hc192 hc199⟩ | exact Or.inr ⟨rfl, fun q => q.2.2.elim hc205 hc212⟩)
              · skip
                have hi212 : ¬ tb.toInt = eb.toInt := fun q => hc212 (Int32.toInt_inj.mp q)
                refine own_goW (fun t_ kt_ => XS.icmpYes X6g.here hx rfl (pc0 := 212) (pc' := 219) rfl (hb hby at_212) rfl (feq hc212).2 (by decide) (by decide) kt_) ?_
                show own_GoW p e below s _ _ _ (T6.setTop (mkF m 219 #[.val (.int p0), .val (.int p1), .val (.int p2), .val (.int p3), .val (.int p4), .val (.int ix), .val (.ref kd), .val (.int ta), .val (.int tb), .val (.int sm), .val (.int ea), .val (.int eb), .val (.int lt1), .val (.int le1), .val (.ref sa), .val (.ref sb), .val (.ref tk), .unset, .unset] []))
                refine own_goW (fun t_ kt_ => XS.iconst X6g.here hx rfl (hb hby at_219) kt_) ?_
                show own_GoW p e below s _ _ _ (T6.setTop (mkF m 220 #[.val (.int p0), .val (.int p1), .val (.int p2), .val (.int p3), .val (.int p4), .val (.int ix), .val (.ref kd), .val (.int ta), .val (.int tb), .val (.int sm), .val (.int ea), .val (.int eb), .val (.int lt1), .val (.int le1), .val (.ref sa), .val (.ref sb), .val (.ref tk), .unset, .unset] [(.int (0 : Int32))]))
                exact J220 T6 _ X6g e6 N6g ((0 : Int32))  (by first | exact Or.inl ⟨rfl, hc186, Or.inl hc192, Or.inl hc205⟩ | exact Or.inl ⟨rfl, hc186, Or.inl hc192, Or.inr hc212⟩ | exact Or.inl ⟨rfl, hc186, Or.inr hc199, Or.inl hc205⟩ | exact Or.inl ⟨rfl, hc186, Or.inr hc199, Or.inr hc212⟩ | exact Or.inr ⟨rfl, fun q => absurd q.1 hc186⟩ | exact Or.inr ⟨rfl, fun q => q.2.1.elim hc192 hc199⟩ | exact Or.inr ⟨rfl, fun q => q.2.2.elim hc205 hc212⟩)
          · skip
            have hi199 : ¬ ta.toInt = ea.toInt := fun q => hc199 (Int32.toInt_inj.mp q)
            refine own_goW (fun t_ kt_ => XS.icmpYes X6g.here hx rfl (pc0 := 199) (pc' := 219) rfl (hb hby at_199) rfl (feq hc199).2 (by decide) (by decide) kt_) ?_
            show own_GoW p e below s _ _ _ (T6.setTop (mkF m 219 #[.val (.int p0), .val (.int p1), .val (.int p2), .val (.int p3), .val (.int p4), .val (.int ix), .val (.ref kd), .val (.int ta), .val (.int tb), .val (.int sm), .val (.int ea), .val (.int eb), .val (.int lt1), .val (.int le1), .val (.ref sa), .val (.ref sb), .val (.ref tk), .unset, .unset] []))
            refine own_goW (fun t_ kt_ => XS.iconst X6g.here hx rfl (hb hby at_219) kt_) ?_
            show own_GoW p e below s _ _ _ (T6.setTop (mkF m 220 #[.val (.int p0), .val (.int p1), .val (.int p2), .val (.int p3), .val (.int p4), .val (.int ix), .val (.ref kd), .val (.int ta), .val (.int tb), .val (.int sm), .val (.int ea), .val (.int eb), .val (.int lt1), .val (.int le1), .val (.ref sa), .val (.ref sb), .val (.ref tk), .unset, .unset] [(.int (0 : Int32))]))
            exact J220 T6 _ X6g e6 N6g ((0 : Int32))  (by first | exact Or.inl ⟨rfl, hc186, Or.inl hc192, Or.inl hc205⟩ | exact Or.inl ⟨rfl, hc186, Or.inl hc192, Or.inr hc212⟩ | exact Or.inl ⟨rfl, hc186, Or.inr hc199, Or.inl hc205⟩ | exact Or.inl ⟨rfl, hc186, Or.inr hc199, Or.inr hc212⟩ | exact Or.inr ⟨rfl, fun q => absurd q.1 hc186⟩ | exact Or.inr ⟨rfl, fun q => q.2.1.elim hc192 hc199⟩ | exact Or.inr ⟨rfl, fun q => q.2.2.elim hc205 hc212⟩)
      · skip
        have hi186 : ¬ lt1.toInt = le1.toInt := fun q => hc186 (Int32.toInt_inj.mp q)
        refine own_goW (fun t_ kt_ => XS.icmpYes X6g.here hx rfl (pc0 := 186) (pc' := 219) rfl (hb hby at_186) rfl (feq hc186).2 (by decide) (by decide) kt_) ?_
        show own_GoW p e below s _ _ _ (T6.setTop (mkF m 219 #[.val (.int p0), .val (.int p1), .val (.int p2), .val (.int p3), .val (.int p4), .val (.int ix), .val (.ref kd), .val (.int ta), .val (.int tb), .val (.int sm), .val (.int ea), .val (.int eb), .val (.int lt1), .val (.int le1), .val (.ref sa), .val (.ref sb), .val (.ref tk), .unset, .unset] []))
        refine own_goW (fun t_ kt_ => XS.iconst X6g.here hx rfl (hb hby at_219) kt_) ?_
        show own_GoW p e below s _ _ _ (T6.setTop (mkF m 220 #[.val (.int p0), .val (.int p1), .val (.int p2), .val (.int p3), .val (.int p4), .val (.int ix), .val (.ref kd), .val (.int ta), .val (.int tb), .val (.int sm), .val (.int ea), .val (.int eb), .val (.int lt1), .val (.int le1), .val (.ref sa), .val (.ref sb), .val (.ref tk), .unset, .unset] [(.int (0 : Int32))]))
        exact J220 T6 _ X6g e6 N6g ((0 : Int32))  (by first | exact Or.inl ⟨rfl, hc186, Or.inl hc192, Or.inl hc205⟩ | exact Or.inl ⟨rfl, hc186, Or.inl hc192, Or.inr hc212⟩ | exact Or.inl ⟨rfl, hc186, Or.inr hc199, Or.inl hc205⟩ | exact Or.inl ⟨rfl, hc186, Or.inr hc199, Or.inr hc212⟩ | exact Or.inr ⟨rfl, fun q => absurd q.1 hc186⟩ | exact Or.inr ⟨rfl, fun q => q.2.1.elim hc192 hc199⟩ | exact Or.inr ⟨rfl, fun q => q.2.2.elim hc205 hc212⟩)
    refine own_goW (fun t_ kt_ => XS.iloadN X1.here hx rfl (hb hby at_68) rfl kt_) ?_
    show own_GoW p e below s _ _ _ (T1.setTop (mkF m 69 #[.val (.int p0), .val (.int p1), .val (.int p2), .val (.int p3), .val (.int p4), .val (.int ix), .val (.ref kd), .val (.int ta), .val (.int tb), .unset, .unset, .unset, .unset, .unset, .unset, .unset, .unset, .unset, .unset] [(.int p3)]))
    refine own_goW (fun t_ kt_ => XS.sipush X1.here hx rfl (hb hby at_69) kt_) ?_
    show own_GoW p e below s _ _ _ (T1.setTop (mkF m 72 #[.val (.int p0), .val (.int p1), .val (.int p2), .val (.int p3), .val (.int p4), .val (.int ix), .val (.ref kd), .val (.int ta), .val (.int tb), .unset, .unset, .unset, .unset, .unset, .unset, .unset, .unset, .unset, .unset] [(.int (256 : Int32)), (.int p3)]))
    refine own_goW (fun t_ kt_ => XS.iand X1.here hx rfl (hb hby at_72) rfl kt_) ?_
    show own_GoW p e below s _ _ _ (T1.setTop (mkF m 73 #[.val (.int p0), .val (.int p1), .val (.int p2), .val (.int p3), .val (.int p4), .val (.int ix), .val (.ref kd), .val (.int ta), .val (.int tb), .unset, .unset, .unset, .unset, .unset, .unset, .unset, .unset, .unset, .unset] [(.int (p3 &&& (256 : Int32)))]))
    by_cases hc73 : (p3 &&& (256 : Int32)) = (0 : Int32)
    · skip
      have hi73 : ((p3 &&& (256 : Int32))).toInt = 0 := congrArg Int32.toInt hc73
      refine own_goW (fun t_ kt_ => XS.ifYes X1.here hx rfl (pc0 := 73) (pc' := 80) rfl (hb hby at_73) rfl ((if0 _ _).trans (teq hc73).1) (by decide) (by decide) kt_) ?_
      show own_GoW p e below s _ _ _ (T1.setTop (mkF m 80 #[.val (.int p0), .val (.int p1), .val (.int p2), .val (.int p3), .val (.int p4), .val (.int ix), .val (.ref kd), .val (.int ta), .val (.int tb), .unset, .unset, .unset, .unset, .unset, .unset, .unset, .unset, .unset, .unset] []))
      refine own_goW (fun t_ kt_ => XS.iconst X1.here hx rfl (hb hby at_80) kt_) ?_
      show own_GoW p e below s _ _ _ (T1.setTop (mkF m 81 #[.val (.int p0), .val (.int p1), .val (.int p2), .val (.int p3), .val (.int p4), .val (.int ix), .val (.ref kd), .val (.int ta), .val (.int tb), .unset, .unset, .unset, .unset, .unset, .unset, .unset, .unset, .unset, .unset] [(.int (0 : Int32))]))
      refine own_goW (fun t_ kt_ => XS.istore X1.here hx rfl (hb hby at_81) rfl (l' := #[.val (.int p0), .val (.int p1), .val (.int p2), .val (.int p3), .val (.int p4), .val (.int ix), .val (.ref kd), .val (.int ta), .val (.int tb), .val (.int (0 : Int32)), .unset, .unset, .unset, .unset, .unset, .unset, .unset, .unset, .unset]) rfl kt_) ?_
      show own_GoW p e below s _ _ _ (T1.setTop (mkF m 83 #[.val (.int p0), .val (.int p1), .val (.int p2), .val (.int p3), .val (.int p4), .val (.int ix), .val (.ref kd), .val (.int ta), .val (.int tb), .val (.int (0 : Int32)), .unset, .unset, .unset, .unset, .unset, .unset, .unset, .unset, .unset] []))
      refine own_goW (fun t_ kt_ => XS.iload X1.here hx rfl (hb hby at_83) rfl kt_) ?_
      show own_GoW p e below s _ _ _ (T1.setTop (mkF m 85 #[.val (.int p0), .val (.int p1), .val (.int p2), .val (.int p3), .val (.int p4), .val (.int ix), .val (.ref kd), .val (.int ta), .val (.int tb), .val (.int (0 : Int32)), .unset, .unset, .unset, .unset, .unset, .unset, .unset, .unset, .unset] [(.int (0 : Int32))]))
      refine own_goW (fun t_ kt_ => XS.ifYes X1.here hx rfl (pc0 := 85) (pc' := 93) rfl (hb hby at_85) rfl ((if0 _ _).trans (teq (by decide)).1) (by decide) (by decide) kt_) ?_
      show own_GoW p e below s _ _ _ (T1.setTop (mkF m 93 #[.val (.int p0), .val (.int p1), .val (.int p2), .val (.int p3), .val (.int p4), .val (.int ix), .val (.ref kd), .val (.int ta), .val (.int tb), .val (.int (0 : Int32)), .unset, .unset, .unset, .unset, .unset, .unset, .unset, .unset, .unset] []))
      refine own_goW (fun t_ kt_ => XS.iloadN X1.here hx rfl (hb hby at_93) rfl kt_) ?_
      show own_GoW p e below s _ _ _ (T1.setTop (mkF m 94 #[.val (.int p0), .val (.int p1), .val (.int p2), .val (.int p3), .val (.int p4), .val (.int ix), .val (.ref kd), .val (.int ta), .val (.int tb), .val (.int (0 : Int32)), .unset, .unset, .unset, .unset, .unset, .unset, .unset, .unset, .unset] [(.int p2)]))
      refine own_goW (fun t_ kt_ => XS.sipush X1.here hx rfl (hb hby at_94) kt_) ?_
      show own_GoW p e below s _ _ _ (T1.setTop (mkF m 97 #[.val (.int p0), .val (.int p1), .val (.int p2), .val (.int p3), .val (.int p4), .val (.int ix), .val (.ref kd), .val (.int ta), .val (.int tb), .val (.int (0 : Int32)), .unset, .unset, .unset, .unset, .unset, .unset, .unset, .unset, .unset] [(.int (255 : Int32)), (.int p2)]))
      refine own_goW (fun t_ kt_ => XS.iand X1.here hx rfl (hb hby at_97) rfl kt_) ?_
      show own_GoW p e below s _ _ _ (T1.setTop (mkF m 98 #[.val (.int p0), .val (.int p1), .val (.int p2), .val (.int p3), .val (.int p4), .val (.int ix), .val (.ref kd), .val (.int ta), .val (.int tb), .val (.int (0 : Int32)), .unset, .unset, .unset, .unset, .unset, .unset, .unset, .unset, .unset] [(.int (p2 &&& (255 : Int32)))]))
      refine own_goW (fun t_ kt_ => XS.istore X1.here hx rfl (hb hby at_98) rfl (l' := #[.val (.int p0), .val (.int p1), .val (.int p2), .val (.int p3), .val (.int p4), .val (.int ix), .val (.ref kd), .val (.int ta), .val (.int tb), .val (.int (0 : Int32)), .val (.int (p2 &&& (255 : Int32))), .unset, .unset, .unset, .unset, .unset, .unset, .unset, .unset]) rfl kt_) ?_
      show own_GoW p e below s _ _ _ (T1.setTop (mkF m 100 #[.val (.int p0), .val (.int p1), .val (.int p2), .val (.int p3), .val (.int p4), .val (.int ix), .val (.ref kd), .val (.int ta), .val (.int tb), .val (.int (0 : Int32)), .val (.int (p2 &&& (255 : Int32))), .unset, .unset, .unset, .unset, .unset, .unset, .unset, .unset] []))
      refine own_goW (fun t_ kt_ => XS.iload X1.here hx rfl (hb hby at_100) rfl kt_) ?_
      show own_GoW p e below s _ _ _ (T1.setTop (mkF m 102 #[.val (.int p0), .val (.int p1), .val (.int p2), .val (.int p3), .val (.int p4), .val (.int ix), .val (.ref kd), .val (.int ta), .val (.int tb), .val (.int (0 : Int32)), .val (.int (p2 &&& (255 : Int32))), .unset, .unset, .unset, .unset, .unset, .unset, .unset, .unset] [(.int (0 : Int32))]))
      refine own_goW (fun t_ kt_ => XS.ifYes X1.here hx rfl (pc0 := 102) (pc' := 110) rfl (hb hby at_102) rfl ((if0 _ _).trans (teq (by decide)).1) (by decide) (by decide) kt_) ?_
      show own_GoW p e below s _ _ _ (T1.setTop (mkF m 110 #[.val (.int p0), .val (.int p1), .val (.int p2), .val (.int p3), .val (.int p4), .val (.int ix), .val (.ref kd), .val (.int ta), .val (.int tb), .val (.int (0 : Int32)), .val (.int (p2 &&& (255 : Int32))), .unset, .unset, .unset, .unset, .unset, .unset, .unset, .unset] []))
      refine own_goW (fun t_ kt_ => XS.iloadN X1.here hx rfl (hb hby at_110) rfl kt_) ?_
      show own_GoW p e below s _ _ _ (T1.setTop (mkF m 111 #[.val (.int p0), .val (.int p1), .val (.int p2), .val (.int p3), .val (.int p4), .val (.int ix), .val (.ref kd), .val (.int ta), .val (.int tb), .val (.int (0 : Int32)), .val (.int (p2 &&& (255 : Int32))), .unset, .unset, .unset, .unset, .unset, .unset, .unset, .unset] [(.int p2)]))
      refine own_goW (fun t_ kt_ => XS.bipush X1.here hx rfl (hb hby at_111) kt_) ?_
      show own_GoW p e below s _ _ _ (T1.setTop (mkF m 113 #[.val (.int p0), .val (.int p1), .val (.int p2), .val (.int p3), .val (.int p4), .val (.int ix), .val (.ref kd), .val (.int ta), .val (.int tb), .val (.int (0 : Int32)), .val (.int (p2 &&& (255 : Int32))), .unset, .unset, .unset, .unset, .unset, .unset, .unset, .unset] [(.int (8 : Int32)), (.int p2)]))
      refine own_goW (fun t_ kt_ => XS.iushr X1.here hx rfl (hb hby at_113) rfl kt_) ?_
      show own_GoW p e below s _ _ _ (T1.setTop (mkF m 114 #[.val (.int p0), .val (.int p1), .val (.int p2), .val (.int p3), .val (.int p4), .val (.int ix), .val (.ref kd), .val (.int ta), .val (.int tb), .val (.int (0 : Int32)), .val (.int (p2 &&& (255 : Int32))), .unset, .unset, .unset, .unset, .unset, .unset, .unset, .unset] [(.int ((p2.toUInt32 >>> ((8 : Int32) &&& 31).toUInt32).toInt32))]))
      refine own_goW (fun t_ kt_ => XS.sipush X1.here hx rfl (hb hby at_114) kt_) ?_
      show own_GoW p e below s _ _ _ (T1.setTop (mkF m 117 #[.val (.int p0), .val (.int p1), .val (.int p2), .val (.int p3), .val (.int p4), .val (.int ix), .val (.ref kd), .val (.int ta), .val (.int tb), .val (.int (0 : Int32)), .val (.int (p2 &&& (255 : Int32))), .unset, .unset, .unset, .unset, .unset, .unset, .unset, .unset] [(.int (255 : Int32)), (.int ((p2.toUInt32 >>> ((8 : Int32) &&& 31).toUInt32).toInt32))]))
      refine own_goW (fun t_ kt_ => XS.iand X1.here hx rfl (hb hby at_117) rfl kt_) ?_
      show own_GoW p e below s _ _ _ (T1.setTop (mkF m 118 #[.val (.int p0), .val (.int p1), .val (.int p2), .val (.int p3), .val (.int p4), .val (.int ix), .val (.ref kd), .val (.int ta), .val (.int tb), .val (.int (0 : Int32)), .val (.int (p2 &&& (255 : Int32))), .unset, .unset, .unset, .unset, .unset, .unset, .unset, .unset] [(.int (((p2.toUInt32 >>> ((8 : Int32) &&& 31).toUInt32).toInt32) &&& (255 : Int32)))]))
      refine own_goW (fun t_ kt_ => XS.istore X1.here hx rfl (hb hby at_118) rfl (l' := #[.val (.int p0), .val (.int p1), .val (.int p2), .val (.int p3), .val (.int p4), .val (.int ix), .val (.ref kd), .val (.int ta), .val (.int tb), .val (.int (0 : Int32)), .val (.int (p2 &&& (255 : Int32))), .val (.int (((p2.toUInt32 >>> ((8 : Int32) &&& 31).toUInt32).toInt32) &&& (255 : Int32))), .unset, .unset, .unset, .unset, .unset, .unset, .unset]) rfl kt_) ?_
      show own_GoW p e below s _ _ _ (T1.setTop (mkF m 120 #[.val (.int p0), .val (.int p1), .val (.int p2), .val (.int p3), .val (.int p4), .val (.int ix), .val (.ref kd), .val (.int ta), .val (.int tb), .val (.int (0 : Int32)), .val (.int (p2 &&& (255 : Int32))), .val (.int (((p2.toUInt32 >>> ((8 : Int32) &&& 31).toUInt32).toInt32) &&& (255 : Int32))), .unset, .unset, .unset, .unset, .unset, .unset, .unset] []))
      exact J120 T1 _ X1 e1 N1 ((0 : Int32)) ((p2 &&& (255 : Int32))) ((((p2.toUInt32 >>> ((8 : Int32) &&& 31).toUInt32).toInt32) &&& (255 : Int32)))  (by first | exact hta_ | exact own_r255 _) (by first | exact htb_ | exact own_r255 _)
    · skip
      have hi73 : ¬ ((p3 &&& (256 : Int32))).toInt = 0 := fun q => hc73 (Int32.toInt_inj.mp q)
      refine own_goW (fun t_ kt_ => XS.ifNo X1.here hx rfl (hb hby at_73) rfl ((if0 _ _).trans (feq hc73).1) kt_) ?_
      show own_GoW p e below s _ _ _ (T1.setTop (mkF m 76 #[.val (.int p0), .val (.int p1), .val (.int p2), .val (.int p3), .val (.int p4), .val (.int ix), .val (.ref kd), .val (.int ta), .val (.int tb), .unset, .unset, .unset, .unset, .unset, .unset, .unset, .unset, .unset, .unset] []))
      refine own_goW (fun t_ kt_ => XS.iconst X1.here hx rfl (hb hby at_76) kt_) ?_
      show own_GoW p e below s _ _ _ (T1.setTop (mkF m 77 #[.val (.int p0), .val (.int p1), .val (.int p2), .val (.int p3), .val (.int p4), .val (.int ix), .val (.ref kd), .val (.int ta), .val (.int tb), .unset, .unset, .unset, .unset, .unset, .unset, .unset, .unset, .unset, .unset] [(.int (1 : Int32))]))
      refine own_goW (fun t_ kt_ => XS.goto X1.here hx rfl (pc0 := 77) (pc' := 81) rfl (hb hby at_77) (by decide) (by decide) kt_) ?_
      show own_GoW p e below s _ _ _ (T1.setTop (mkF m 81 #[.val (.int p0), .val (.int p1), .val (.int p2), .val (.int p3), .val (.int p4), .val (.int ix), .val (.ref kd), .val (.int ta), .val (.int tb), .unset, .unset, .unset, .unset, .unset, .unset, .unset, .unset, .unset, .unset] [(.int (1 : Int32))]))
      refine own_goW (fun t_ kt_ => XS.istore X1.here hx rfl (hb hby at_81) rfl (l' := #[.val (.int p0), .val (.int p1), .val (.int p2), .val (.int p3), .val (.int p4), .val (.int ix), .val (.ref kd), .val (.int ta), .val (.int tb), .val (.int (1 : Int32)), .unset, .unset, .unset, .unset, .unset, .unset, .unset, .unset, .unset]) rfl kt_) ?_
      show own_GoW p e below s _ _ _ (T1.setTop (mkF m 83 #[.val (.int p0), .val (.int p1), .val (.int p2), .val (.int p3), .val (.int p4), .val (.int ix), .val (.ref kd), .val (.int ta), .val (.int tb), .val (.int (1 : Int32)), .unset, .unset, .unset, .unset, .unset, .unset, .unset, .unset, .unset] []))
      refine own_goW (fun t_ kt_ => XS.iload X1.here hx rfl (hb hby at_83) rfl kt_) ?_
      show own_GoW p e below s _ _ _ (T1.setTop (mkF m 85 #[.val (.int p0), .val (.int p1), .val (.int p2), .val (.int p3), .val (.int p4), .val (.int ix), .val (.ref kd), .val (.int ta), .val (.int tb), .val (.int (1 : Int32)), .unset, .unset, .unset, .unset, .unset, .unset, .unset, .unset, .unset] [(.int (1 : Int32))]))
      refine own_goW (fun t_ kt_ => XS.ifNo X1.here hx rfl (hb hby at_85) rfl ((if0 _ _).trans (feq (by decide)).1) kt_) ?_
      show own_GoW p e below s _ _ _ (T1.setTop (mkF m 88 #[.val (.int p0), .val (.int p1), .val (.int p2), .val (.int p3), .val (.int p4), .val (.int ix), .val (.ref kd), .val (.int ta), .val (.int tb), .val (.int (1 : Int32)), .unset, .unset, .unset, .unset, .unset, .unset, .unset, .unset, .unset] []))
      refine own_goW (fun t_ kt_ => XS.iload X1.here hx rfl (hb hby at_88) rfl kt_) ?_
      show own_GoW p e below s _ _ _ (T1.setTop (mkF m 90 #[.val (.int p0), .val (.int p1), .val (.int p2), .val (.int p3), .val (.int p4), .val (.int ix), .val (.ref kd), .val (.int ta), .val (.int tb), .val (.int (1 : Int32)), .unset, .unset, .unset, .unset, .unset, .unset, .unset, .unset, .unset] [(.int ta)]))
      refine own_goW (fun t_ kt_ => XS.goto X1.here hx rfl (pc0 := 90) (pc' := 98) rfl (hb hby at_90) (by decide) (by decide) kt_) ?_
      show own_GoW p e below s _ _ _ (T1.setTop (mkF m 98 #[.val (.int p0), .val (.int p1), .val (.int p2), .val (.int p3), .val (.int p4), .val (.int ix), .val (.ref kd), .val (.int ta), .val (.int tb), .val (.int (1 : Int32)), .unset, .unset, .unset, .unset, .unset, .unset, .unset, .unset, .unset] [(.int ta)]))
      refine own_goW (fun t_ kt_ => XS.istore X1.here hx rfl (hb hby at_98) rfl (l' := #[.val (.int p0), .val (.int p1), .val (.int p2), .val (.int p3), .val (.int p4), .val (.int ix), .val (.ref kd), .val (.int ta), .val (.int tb), .val (.int (1 : Int32)), .val (.int ta), .unset, .unset, .unset, .unset, .unset, .unset, .unset, .unset]) rfl kt_) ?_
      show own_GoW p e below s _ _ _ (T1.setTop (mkF m 100 #[.val (.int p0), .val (.int p1), .val (.int p2), .val (.int p3), .val (.int p4), .val (.int ix), .val (.ref kd), .val (.int ta), .val (.int tb), .val (.int (1 : Int32)), .val (.int ta), .unset, .unset, .unset, .unset, .unset, .unset, .unset, .unset] []))
      refine own_goW (fun t_ kt_ => XS.iload X1.here hx rfl (hb hby at_100) rfl kt_) ?_
      show own_GoW p e below s _ _ _ (T1.setTop (mkF m 102 #[.val (.int p0), .val (.int p1), .val (.int p2), .val (.int p3), .val (.int p4), .val (.int ix), .val (.ref kd), .val (.int ta), .val (.int tb), .val (.int (1 : Int32)), .val (.int ta), .unset, .unset, .unset, .unset, .unset, .unset, .unset, .unset] [(.int (1 : Int32))]))
      refine own_goW (fun t_ kt_ => XS.ifNo X1.here hx rfl (hb hby at_102) rfl ((if0 _ _).trans (feq (by decide)).1) kt_) ?_
      show own_GoW p e below s _ _ _ (T1.setTop (mkF m 105 #[.val (.int p0), .val (.int p1), .val (.int p2), .val (.int p3), .val (.int p4), .val (.int ix), .val (.ref kd), .val (.int ta), .val (.int tb), .val (.int (1 : Int32)), .val (.int ta), .unset, .unset, .unset, .unset, .unset, .unset, .unset, .unset] []))
      refine own_goW (fun t_ kt_ => XS.iload X1.here hx rfl (hb hby at_105) rfl kt_) ?_
      show own_GoW p e below s _ _ _ (T1.setTop (mkF m 107 #[.val (.int p0), .val (.int p1), .val (.int p2), .val (.int p3), .val (.int p4), .val (.int ix), .val (.ref kd), .val (.int ta), .val (.int tb), .val (.int (1 : Int32)), .val (.int ta), .unset, .unset, .unset, .unset, .unset, .unset, .unset, .unset] [(.int tb)]))
      refine own_goW (fun t_ kt_ => XS.goto X1.here hx rfl (pc0 := 107) (pc' := 118) rfl (hb hby at_107) (by decide) (by decide) kt_) ?_
      show own_GoW p e below s _ _ _ (T1.setTop (mkF m 118 #[.val (.int p0), .val (.int p1), .val (.int p2), .val (.int p3), .val (.int p4), .val (.int ix), .val (.ref kd), .val (.int ta), .val (.int tb), .val (.int (1 : Int32)), .val (.int ta), .unset, .unset, .unset, .unset, .unset, .unset, .unset, .unset] [(.int tb)]))
      refine own_goW (fun t_ kt_ => XS.istore X1.here hx rfl (hb hby at_118) rfl (l' := #[.val (.int p0), .val (.int p1), .val (.int p2), .val (.int p3), .val (.int p4), .val (.int ix), .val (.ref kd), .val (.int ta), .val (.int tb), .val (.int (1 : Int32)), .val (.int ta), .val (.int tb), .unset, .unset, .unset, .unset, .unset, .unset, .unset]) rfl kt_) ?_
      show own_GoW p e below s _ _ _ (T1.setTop (mkF m 120 #[.val (.int p0), .val (.int p1), .val (.int p2), .val (.int p3), .val (.int p4), .val (.int ix), .val (.ref kd), .val (.int ta), .val (.int tb), .val (.int (1 : Int32)), .val (.int ta), .val (.int tb), .unset, .unset, .unset, .unset, .unset, .unset, .unset] []))
      exact J120 T1 _ X1 e1 N1 ((1 : Int32)) (ta) (tb)  (by first | exact hta_ | exact own_r255 _) (by first | exact htb_ | exact own_r255 _)
  refine own_goW (fun t_ kt_ => XS.iload X0.here hx rfl (hb hby at_5) rfl kt_) ?_
  show own_GoW p e below s _ _ _ (s₁.setTop (mkF m 7 #[.val (.int p0), .val (.int p1), .val (.int p2), .val (.int p3), .val (.int p4), .val (.int ix), .unset, .unset, .unset, .unset, .unset, .unset, .unset, .unset, .unset, .unset, .unset, .unset, .unset] [(.int ix)]))
  by_cases hc7 : ix = (0 : Int32)
  · skip
    have hi7 : ix.toInt = 0 := congrArg Int32.toInt hc7
    refine own_goW (fun t_ kt_ => XS.ifNo X0.here hx rfl (hb hby at_7) rfl ((if0 _ _).trans (teq hc7).2) kt_) ?_
    show own_GoW p e below s _ _ _ (s₁.setTop (mkF m 10 #[.val (.int p0), .val (.int p1), .val (.int p2), .val (.int p3), .val (.int p4), .val (.int ix), .unset, .unset, .unset, .unset, .unset, .unset, .unset, .unset, .unset, .unset, .unset, .unset, .unset] []))
    obtain ⟨T10, X10, e10, st10⟩ := getS2 X0 hx hZ hown (host := "") (Or.inl (hw _ (List.mem_of_getElem? (i := 0) rfl))) Via.refl e0 K_NAME (g := (mkF m 10 #[.val (.int p0), .val (.int p1), .val (.int p2), .val (.int p3), .val (.int p4), .val (.int ix), .unset, .unset, .unset, .unset, .unset, .unset, .unset, .unset, .unset, .unset, .unset, .unset, .unset] [])) rfl (hb hby at_10)
    refine own_goW (fun t_ kt_ => st10 _ kt_) ?_
    show own_GoW p e below s _ _ _ (T10.setTop (mkF m 13 #[.val (.int p0), .val (.int p1), .val (.int p2), .val (.int p3), .val (.int p4), .val (.int ix), .unset, .unset, .unset, .unset, .unset, .unset, .unset, .unset, .unset, .unset, .unset, .unset, .unset] [(.ref na)]))
    refine own_goW (fun t_ kt_ => XS.astore X10.here hx rfl (hb hby at_13) rfl rfl (l' := #[.val (.int p0), .val (.int p1), .val (.int p2), .val (.int p3), .val (.int p4), .val (.int ix), .val (.ref na), .unset, .unset, .unset, .unset, .unset, .unset, .unset, .unset, .unset, .unset, .unset, .unset]) rfl kt_) ?_
    show own_GoW p e below s _ _ _ (T10.setTop (mkF m 15 #[.val (.int p0), .val (.int p1), .val (.int p2), .val (.int p3), .val (.int p4), .val (.int ix), .val (.ref na), .unset, .unset, .unset, .unset, .unset, .unset, .unset, .unset, .unset, .unset, .unset, .unset] []))
    refine own_goW (fun t_ kt_ => XS.goto X10.here hx rfl (pc0 := 15) (pc' := 51) rfl (hb hby at_15) (by decide) (by decide) kt_) ?_
    show own_GoW p e below s _ _ _ (T10.setTop (mkF m 51 #[.val (.int p0), .val (.int p1), .val (.int p2), .val (.int p3), .val (.int p4), .val (.int ix), .val (.ref na), .unset, .unset, .unset, .unset, .unset, .unset, .unset, .unset, .unset, .unset, .unset, .unset] []))
    exact J51 T10 _ X10 e10 N0 (na)  (by first | exact Or.inl ⟨Or.inl hc7, neNE, neNN⟩ | exact Or.inl ⟨Or.inr hc35, neSE, neSN⟩ | exact Or.inr ⟨fun q => q.elim hc7 (fun q2 => absurd (hc21.symm.trans q2) (by decide)), fun q => q.2 rfl⟩ | exact Or.inr ⟨fun q => q.elim hc7 hc35, fun q => q.1 rfl⟩)
  · skip
    have hi7 : ¬ ix.toInt = 0 := fun q => hc7 (Int32.toInt_inj.mp q)
    refine own_goW (fun t_ kt_ => XS.ifYes X0.here hx rfl (pc0 := 7) (pc' := 18) rfl (hb hby at_7) rfl ((if0 _ _).trans (feq hc7).2) (by decide) (by decide) kt_) ?_
    show own_GoW p e below s _ _ _ (s₁.setTop (mkF m 18 #[.val (.int p0), .val (.int p1), .val (.int p2), .val (.int p3), .val (.int p4), .val (.int ix), .unset, .unset, .unset, .unset, .unset, .unset, .unset, .unset, .unset, .unset, .unset, .unset, .unset] []))
    refine own_goW (fun t_ kt_ => XS.iload X0.here hx rfl (hb hby at_18) rfl kt_) ?_
    show own_GoW p e below s _ _ _ (s₁.setTop (mkF m 20 #[.val (.int p0), .val (.int p1), .val (.int p2), .val (.int p3), .val (.int p4), .val (.int ix), .unset, .unset, .unset, .unset, .unset, .unset, .unset, .unset, .unset, .unset, .unset, .unset, .unset] [(.int ix)]))
    refine own_goW (fun t_ kt_ => XS.iconst X0.here hx rfl (hb hby at_20) kt_) ?_
    show own_GoW p e below s _ _ _ (s₁.setTop (mkF m 21 #[.val (.int p0), .val (.int p1), .val (.int p2), .val (.int p3), .val (.int p4), .val (.int ix), .unset, .unset, .unset, .unset, .unset, .unset, .unset, .unset, .unset, .unset, .unset, .unset, .unset] [(.int (1 : Int32)), (.int ix)]))
    by_cases hc21 : ix = (1 : Int32)
    · skip
      have hi21 : ix.toInt = 1 := congrArg Int32.toInt hc21
      refine own_goW (fun t_ kt_ => XS.icmpNo X0.here hx rfl (hb hby at_21) rfl (teq hc21).2 kt_) ?_
      show own_GoW p e below s _ _ _ (s₁.setTop (mkF m 24 #[.val (.int p0), .val (.int p1), .val (.int p2), .val (.int p3), .val (.int p4), .val (.int ix), .unset, .unset, .unset, .unset, .unset, .unset, .unset, .unset, .unset, .unset, .unset, .unset, .unset] []))
      obtain ⟨T11, X11, e11, st11⟩ := getS2 X0 hx hZ hown (host := "") (Or.inl (hw _ (List.mem_of_getElem? (i := 80) rfl))) Via.refl e0 K_NUMBER (g := (mkF m 24 #[.val (.int p0), .val (.int p1), .val (.int p2), .val (.int p3), .val (.int p4), .val (.int ix), .unset, .unset, .unset, .unset, .unset, .unset, .unset, .unset, .unset, .unset, .unset, .unset, .unset] [])) rfl (hb hby at_24)
      refine own_goW (fun t_ kt_ => st11 _ kt_) ?_
      show own_GoW p e below s _ _ _ (T11.setTop (mkF m 27 #[.val (.int p0), .val (.int p1), .val (.int p2), .val (.int p3), .val (.int p4), .val (.int ix), .unset, .unset, .unset, .unset, .unset, .unset, .unset, .unset, .unset, .unset, .unset, .unset, .unset] [(.ref nu)]))
      refine own_goW (fun t_ kt_ => XS.astore X11.here hx rfl (hb hby at_27) rfl rfl (l' := #[.val (.int p0), .val (.int p1), .val (.int p2), .val (.int p3), .val (.int p4), .val (.int ix), .val (.ref nu), .unset, .unset, .unset, .unset, .unset, .unset, .unset, .unset, .unset, .unset, .unset, .unset]) rfl kt_) ?_
      show own_GoW p e below s _ _ _ (T11.setTop (mkF m 29 #[.val (.int p0), .val (.int p1), .val (.int p2), .val (.int p3), .val (.int p4), .val (.int ix), .val (.ref nu), .unset, .unset, .unset, .unset, .unset, .unset, .unset, .unset, .unset, .unset, .unset, .unset] []))
      refine own_goW (fun t_ kt_ => XS.goto X11.here hx rfl (pc0 := 29) (pc' := 51) rfl (hb hby at_29) (by decide) (by decide) kt_) ?_
      show own_GoW p e below s _ _ _ (T11.setTop (mkF m 51 #[.val (.int p0), .val (.int p1), .val (.int p2), .val (.int p3), .val (.int p4), .val (.int ix), .val (.ref nu), .unset, .unset, .unset, .unset, .unset, .unset, .unset, .unset, .unset, .unset, .unset, .unset] []))
      exact J51 T11 _ X11 e11 N0 (nu)  (by first | exact Or.inl ⟨Or.inl hc7, neNE, neNN⟩ | exact Or.inl ⟨Or.inr hc35, neSE, neSN⟩ | exact Or.inr ⟨fun q => q.elim hc7 (fun q2 => absurd (hc21.symm.trans q2) (by decide)), fun q => q.2 rfl⟩ | exact Or.inr ⟨fun q => q.elim hc7 hc35, fun q => q.1 rfl⟩)
    · skip
      have hi21 : ¬ ix.toInt = 1 := fun q => hc21 (Int32.toInt_inj.mp q)
      refine own_goW (fun t_ kt_ => XS.icmpYes X0.here hx rfl (pc0 := 21) (pc' := 32) rfl (hb hby at_21) rfl (feq hc21).2 (by decide) (by decide) kt_) ?_
      show own_GoW p e below s _ _ _ (s₁.setTop (mkF m 32 #[.val (.int p0), .val (.int p1), .val (.int p2), .val (.int p3), .val (.int p4), .val (.int ix), .unset, .unset, .unset, .unset, .unset, .unset, .unset, .unset, .unset, .unset, .unset, .unset, .unset] []))
      refine own_goW (fun t_ kt_ => XS.iload X0.here hx rfl (hb hby at_32) rfl kt_) ?_
      show own_GoW p e below s _ _ _ (s₁.setTop (mkF m 34 #[.val (.int p0), .val (.int p1), .val (.int p2), .val (.int p3), .val (.int p4), .val (.int ix), .unset, .unset, .unset, .unset, .unset, .unset, .unset, .unset, .unset, .unset, .unset, .unset, .unset] [(.int ix)]))
      refine own_goW (fun t_ kt_ => XS.iconst X0.here hx rfl (hb hby at_34) kt_) ?_
      show own_GoW p e below s _ _ _ (s₁.setTop (mkF m 35 #[.val (.int p0), .val (.int p1), .val (.int p2), .val (.int p3), .val (.int p4), .val (.int ix), .unset, .unset, .unset, .unset, .unset, .unset, .unset, .unset, .unset, .unset, .unset, .unset, .unset] [(.int (2 : Int32)), (.int ix)]))
      by_cases hc35 : ix = (2 : Int32)
      · skip
        have hi35 : ix.toInt = 2 := congrArg Int32.toInt hc35
        refine own_goW (fun t_ kt_ => XS.icmpNo X0.here hx rfl (hb hby at_35) rfl (teq hc35).2 kt_) ?_
        show own_GoW p e below s _ _ _ (s₁.setTop (mkF m 38 #[.val (.int p0), .val (.int p1), .val (.int p2), .val (.int p3), .val (.int p4), .val (.int ix), .unset, .unset, .unset, .unset, .unset, .unset, .unset, .unset, .unset, .unset, .unset, .unset, .unset] []))
        obtain ⟨T12, X12, e12, st12⟩ := getS2 X0 hx hZ hown (host := "") (Or.inl (hw _ (List.mem_of_getElem? (i := 78) rfl))) Via.refl e0 K_SYMBOL (g := (mkF m 38 #[.val (.int p0), .val (.int p1), .val (.int p2), .val (.int p3), .val (.int p4), .val (.int ix), .unset, .unset, .unset, .unset, .unset, .unset, .unset, .unset, .unset, .unset, .unset, .unset, .unset] [])) rfl (hb hby at_38)
        refine own_goW (fun t_ kt_ => st12 _ kt_) ?_
        show own_GoW p e below s _ _ _ (T12.setTop (mkF m 41 #[.val (.int p0), .val (.int p1), .val (.int p2), .val (.int p3), .val (.int p4), .val (.int ix), .unset, .unset, .unset, .unset, .unset, .unset, .unset, .unset, .unset, .unset, .unset, .unset, .unset] [(.ref sy)]))
        refine own_goW (fun t_ kt_ => XS.astore X12.here hx rfl (hb hby at_41) rfl rfl (l' := #[.val (.int p0), .val (.int p1), .val (.int p2), .val (.int p3), .val (.int p4), .val (.int ix), .val (.ref sy), .unset, .unset, .unset, .unset, .unset, .unset, .unset, .unset, .unset, .unset, .unset, .unset]) rfl kt_) ?_
        show own_GoW p e below s _ _ _ (T12.setTop (mkF m 43 #[.val (.int p0), .val (.int p1), .val (.int p2), .val (.int p3), .val (.int p4), .val (.int ix), .val (.ref sy), .unset, .unset, .unset, .unset, .unset, .unset, .unset, .unset, .unset, .unset, .unset, .unset] []))
        refine own_goW (fun t_ kt_ => XS.goto X12.here hx rfl (pc0 := 43) (pc' := 51) rfl (hb hby at_43) (by decide) (by decide) kt_) ?_
        show own_GoW p e below s _ _ _ (T12.setTop (mkF m 51 #[.val (.int p0), .val (.int p1), .val (.int p2), .val (.int p3), .val (.int p4), .val (.int ix), .val (.ref sy), .unset, .unset, .unset, .unset, .unset, .unset, .unset, .unset, .unset, .unset, .unset, .unset] []))
        exact J51 T12 _ X12 e12 N0 (sy)  (by first | exact Or.inl ⟨Or.inl hc7, neNE, neNN⟩ | exact Or.inl ⟨Or.inr hc35, neSE, neSN⟩ | exact Or.inr ⟨fun q => q.elim hc7 (fun q2 => absurd (hc21.symm.trans q2) (by decide)), fun q => q.2 rfl⟩ | exact Or.inr ⟨fun q => q.elim hc7 hc35, fun q => q.1 rfl⟩)
      · skip
        have hi35 : ¬ ix.toInt = 2 := fun q => hc35 (Int32.toInt_inj.mp q)
        refine own_goW (fun t_ kt_ => XS.icmpYes X0.here hx rfl (pc0 := 35) (pc' := 46) rfl (hb hby at_35) rfl (feq hc35).2 (by decide) (by decide) kt_) ?_
        show own_GoW p e below s _ _ _ (s₁.setTop (mkF m 46 #[.val (.int p0), .val (.int p1), .val (.int p2), .val (.int p3), .val (.int p4), .val (.int ix), .unset, .unset, .unset, .unset, .unset, .unset, .unset, .unset, .unset, .unset, .unset, .unset, .unset] []))
        obtain ⟨T13, X13, e13, st13⟩ := getS2 X0 hx hZ hown (host := "") (Or.inl (hw _ (List.mem_of_getElem? (i := 77) rfl))) Via.refl e0 K_END (g := (mkF m 46 #[.val (.int p0), .val (.int p1), .val (.int p2), .val (.int p3), .val (.int p4), .val (.int ix), .unset, .unset, .unset, .unset, .unset, .unset, .unset, .unset, .unset, .unset, .unset, .unset, .unset] [])) rfl (hb hby at_46)
        refine own_goW (fun t_ kt_ => st13 _ kt_) ?_
        show own_GoW p e below s _ _ _ (T13.setTop (mkF m 49 #[.val (.int p0), .val (.int p1), .val (.int p2), .val (.int p3), .val (.int p4), .val (.int ix), .unset, .unset, .unset, .unset, .unset, .unset, .unset, .unset, .unset, .unset, .unset, .unset, .unset] [(.ref en)]))
        refine own_goW (fun t_ kt_ => XS.astore X13.here hx rfl (hb hby at_49) rfl rfl (l' := #[.val (.int p0), .val (.int p1), .val (.int p2), .val (.int p3), .val (.int p4), .val (.int ix), .val (.ref en), .unset, .unset, .unset, .unset, .unset, .unset, .unset, .unset, .unset, .unset, .unset, .unset]) rfl kt_) ?_
        show own_GoW p e below s _ _ _ (T13.setTop (mkF m 51 #[.val (.int p0), .val (.int p1), .val (.int p2), .val (.int p3), .val (.int p4), .val (.int ix), .val (.ref en), .unset, .unset, .unset, .unset, .unset, .unset, .unset, .unset, .unset, .unset, .unset, .unset] []))
        exact J51 T13 _ X13 e13 N0 (en)  (by first | exact Or.inl ⟨Or.inl hc7, neNE, neNN⟩ | exact Or.inl ⟨Or.inr hc35, neSE, neSN⟩ | exact Or.inr ⟨fun q => q.elim hc7 (fun q2 => absurd (hc21.symm.trans q2) (by decide)), fun q => q.2 rfl⟩ | exact Or.inr ⟨fun q => q.elim hc7 hc35, fun q => q.1 rfl⟩)
theorem own_cs0 {Z : State} {a0 : Array Value} {cs : Int32} (e : (Term.static "java/lang/String" "COMPACT_STRINGS" "Z").eval a0 Z none [] Z = some (.int cs)) (h : (Jvm.Cond.not (Jvm.Cond.eq (Jvm.Term.static "java/lang/String" "COMPACT_STRINGS" "Z") (Jvm.Term.int (0 : Int32)))).before a0 Z = true) : ¬ cs = (0 : Int32) := fun q => by
  subst q
  have h1 := Cond.before_iff.mp h
  simp [Cond.value, e, Term.int_eval] at h1
set_option maxRecDepth 65536 in
set_option maxHeartbeats 40000000 in
theorem comes_1 {Post : Tables → Env → Array Value → State → Outcome → State → Prop} (hpost : ∀ tb e args s v u, (limb_1_1.after args s (.returned v) u = true ∧ limb_1_2.after args s (.returned v) u = true ∧ True) → ReturnedEndW s (.returned v) u (Jvm.fieldLocs frame_1_writes args s ++ Jvm.arrayLocs frame_1_arrays args s ++ Jvm.staticLocs frame_1_statics s) 24 1152 → Post tb e args s (.returned v) u) :
    ArmFor flags0 classFile x code maxLocals ret World_1 tables_1 room_1 Calls_1 rest_1 Pre_1 Post := by
  intro l hfl _ _ p e ha hc hk s m args below hf hA hF happ hP
  obtain ⟨hcalls, hrest, hpre⟩ := hP
  obtain ⟨-, -, -, hnamed, -, -, -, hat⟩ := (Spec.applies_iff hf).mp happ
  obtain ⟨hg, hn⟩ := and_e (Cond.before_iff.mp (show (Jvm.Cond.and given_1 narrow_1).before args s = true from hpre))
  obtain ⟨g1, g2⟩ := and_e hg
  obtain ⟨g3, g4⟩ := and_e g2
  obtain ⟨g5, g6⟩ := and_e g4
  obtain ⟨g7, g8⟩ := and_e g6
  obtain ⟨g9, g10⟩ := and_e g8
  obtain ⟨w0, w1, w2, w3, w4, rfl⟩ : ∃ w0 w1 w2 w3 w4 : Value, args = #[w0, w1, w2, w3, w4] := by
    have hs : args.size = 5 := by simpa [Cond.value, given_1] using g1
    obtain ⟨L⟩ := args
    match L, hs with
    | [w0, w1, w2, w3, w4], _ => exact ⟨w0, w1, w2, w3, w4, rfl⟩
  have hw := fun d (hd : d ∈ tables_1) => atoms_spec (ws := Jvm.Cond.code x code maxLocals ret :: tables_1) hat d (List.mem_cons_of_mem _ hd)
  have hfit : Fit s := fun {y c} hc i hi => by
    obtain ⟨ha, rfl⟩ := Array.getElem?_eq_some_iff.mp hc
    have q := List.all_eq_true.mp ((Array.all_eq_true_iff_forall_mem.mp hF) _ (Array.getElem_mem ha)) i (List.mem_range.mpr hi)
    simpa [Array.getElem?_eq_getElem hi] using q
  obtain ⟨hsets, hown0⟩ := atoms_of _ (rest_1_c_eq ▸ (show rest_1_c.before _ s = true from hrest))
  have hr0 := Cond.before_iff.mp hown0
  obtain ⟨i0, ei0⟩ := is_v g3
  obtain rfl : w0 = (.int i0) := Option.some.inj ei0
  obtain ⟨i1, ei1⟩ := is_v g5
  obtain rfl : w1 = (.int i1) := Option.some.inj ei1
  obtain ⟨i2, ei2⟩ := is_v g7
  obtain rfl : w2 = (.int i2) := Option.some.inj ei2
  obtain ⟨i3, ei3⟩ := is_v g9
  obtain rfl : w3 = (.int i3) := Option.some.inj ei3
  obtain ⟨i4, ei4⟩ := is_v g10
  obtain rfl : w4 = (.int i4) := Option.some.inj ei4
  obtain ⟨u1, u2⟩ := and_e hn
  obtain ⟨u3, u4⟩ := and_e u2
  obtain ⟨u5, u6⟩ := and_e u4
  obtain ⟨u7, u8⟩ := and_e u6
  obtain ⟨u9, u10⟩ := and_e u8
  obtain ⟨u11, u12⟩ := and_e u10
  obtain ⟨u13, u14⟩ := and_e u12
  obtain ⟨ad_NAME, es_NAME⟩ := exa_v u1
  have S_NAME := Sta.start es_NAME (Or.inr ⟨(hw _ (List.mem_of_getElem? (i := 1) rfl)), (hw _ (List.mem_of_getElem? (i := 2) rfl))⟩)
  have E_NAME := Exa.start es_NAME u1
  obtain ⟨ad_END, es_END⟩ := exa_v u3
  have S_END := Sta.start es_END (Or.inr ⟨(hw _ (List.mem_of_getElem? (i := 1) rfl)), (hw _ (List.mem_of_getElem? (i := 64) rfl))⟩)
  have E_END := Exa.start es_END u3
  obtain ⟨ad_NUMBER, es_NUMBER⟩ := exa_v u9
  have S_NUMBER := Sta.start es_NUMBER (Or.inr ⟨(hw _ (List.mem_of_getElem? (i := 1) rfl)), (hw _ (List.mem_of_getElem? (i := 66) rfl))⟩)
  have E_NUMBER := Exa.start es_NUMBER u9
  obtain ⟨ad_SYMBOL, es_SYMBOL⟩ := exa_v u13
  have S_SYMBOL := Sta.start es_SYMBOL (Or.inr ⟨(hw _ (List.mem_of_getElem? (i := 1) rfl)), (hw _ (List.mem_of_getElem? (i := 79) rfl))⟩)
  have E_SYMBOL := Exa.start es_SYMBOL u13
  have F_NAME_ordinal : Fld s s.heap ad_NAME "java/lang/Enum" "ordinal" "I" (.int (0 : Int32)) := Fld.start ((fld_at es_NAME).symm.trans (eqv_i (Term.int_eval _) u5))
  have F_END_ordinal : Fld s s.heap ad_END "java/lang/Enum" "ordinal" "I" (.int (3 : Int32)) := Fld.start ((fld_at es_END).symm.trans (eqv_i (Term.int_eval _) u7))
  have F_NUMBER_ordinal : Fld s s.heap ad_NUMBER "java/lang/Enum" "ordinal" "I" (.int (1 : Int32)) := Fld.start ((fld_at es_NUMBER).symm.trans (eqv_i (Term.int_eval _) u11))
  have F_SYMBOL_ordinal : Fld s s.heap ad_SYMBOL "java/lang/Enum" "ordinal" "I" (.int (2 : Int32)) := Fld.start ((fld_at es_SYMBOL).symm.trans (eqv_i (Term.int_eval _) u14))
  obtain ⟨cs, es_CS⟩ := is_v (Cond.before_iff.mp (hsets _ (List.mem_of_getElem? (i := 1) rfl)))
  have S_CS := Sta.start es_CS (Or.inl (hsets _ (List.mem_of_getElem? (i := 0) rfl)))
  have hcs : ¬ cs = (0 : Int32) := own_cs0 es_CS (hsets _ (List.mem_of_getElem? (i := 2) rfl))
  have CH : CHv s own_EL s.vm s.heap := CHv.start (own_hEL hw) (fun q hq => hcalls.1 q hq) (hsets _ (List.mem_of_getElem? (i := 2) rfl)) (hw _ (List.mem_of_getElem? (i := 26) rfl)) (hw _ (List.mem_of_getElem? (i := 8) rfl))
  obtain ⟨n, o, h1, h2, h3, _, L, rfl, ⟨rfl, N⟩, hq⟩ := rm0 l s _ hw tables_1 i0 i1 i2 i3 i4 cs ad_NAME ad_NUMBER ad_SYMBOL ad_END s.heap s.heap.size (Nat.le_refl _) S_CS hcs S_NAME S_NUMBER S_SYMBOL S_END (F_NAME_ordinal.ne F_END_ordinal (by decide)) (F_NAME_ordinal.ne F_NUMBER_ordinal (by decide)) (F_SYMBOL_ordinal.ne F_END_ordinal (by decide)) (F_SYMBOL_ordinal.ne F_NUMBER_ordinal (by decide)) p e ha hc hk s m _ below hf ((Spec.applies_iff_loose hf).mp happ).1 ⟨rfl, State.Warmed39.refl s, rfl, CH⟩ trivial
  refine ⟨n, _, h1, h2, h3, hpost _ _ _ _ _ _ ⟨Cond.after_iff.mpr rfl, Cond.after_iff.mpr (eq_i res_at (Term.int_eval (1)) rfl), trivial⟩ ⟨hq.1, hq.2.1, hq.2.2.1, (hq.2.2.2.sift fun y hy => Or.inr (N y hy)).mono (by decide) (by decide)⟩⟩
theorem main_1_1 : Claimed_1_1 := comes_1 fun _ _ _ _ _ _ h hF => ⟨h.1, hF⟩
theorem main_1_2 : Claimed_1_2 := comes_1 fun _ _ _ _ _ _ h hF => ⟨h.2.1, hF⟩
end Jvm.Pilot.@@N@@
namespace Jvm.Pilot.@@N@@
open Jvm Jvm.ClassFile Sem Op Lib Jvm.Free Jvm.Stand Jvm.Pilot.@@N@@.Jvm.D
/-! MADE BY PROGRAM (witnessworld.py) out of the Statement's table words and the real class files: 23 classes; the members and pool entries that the words name. The judged class is class 1, her method 2. -/
namespace start1
open Jvm.ClassFile
def u (s : String) : CpInfo := .utf8 (stringToUtf16 s)
/-- a pool by its gaps: so many unusable entries, then the entry; so many at the end -/
def gap : Nat → List CpInfo → List CpInfo
  | 0, r => r
  | n + 1, r => .unusable :: gap n r
def poolList (es : List (Nat × CpInfo)) (last : Nat) : List CpInfo := es.foldr (fun e r => gap e.1 (e.2 :: r)) (gap last [])
def pool (es : List (Nat × CpInfo)) (last : Nat) : Array CpInfo := ⟨poolList es last⟩
def fileOf (pool : Array CpInfo) (this : Nat) (attrs : Array Attribute := #[]) (ms : Array MethodInfo := #[]) (fl : Nat := 33) (sup : Nat := 0) (ifs : Array Nat := #[]) (fds : Array FieldInfo := #[]) : ClassFile where
  minorVersion := 0
  majorVersion := 65
  constantPool := pool
  accessFlags := fl
  thisClass := this
  superClass := sup
  interfaces := ifs
  fields := fds
  methods := ms
  attributes := attrs
def plain (name : String) (sup : Option ClassId) : Class where
  name := name
  kind := .ordinary
  loader := none
  accessFlags := 33
  super := sup
  interfaces := #[]
  cf := none
  fields := #[]
  methods := #[]
  instanceTypes := #[]
  staticTypes := #[]
  resolved := #[]
  callSites := []
  init := .initialized
  statics := none
  mirror := none

def pool0 : Array CpInfo := pool [(5, u "<init>"), (0, u "()V"), (1, .class_ 10), (1, u "java/lang/Object")] 113

def k0c0 : Code := { maxStack := 0, maxLocals := 1, code := object_method_1_code, exceptionTable := #[], attributes := #[] }
def k0m0 : Method := { name := "<init>", desc := "()V", sig := { parameters := [], returnType := none }, accessFlags := 1, code := some k0c0 }
/-- java/lang/Object -/
def k0 : Class := { plain "java/lang/Object" none with
  accessFlags := 33
  interfaces := #[]
  cf := some (fileOf pool0 8 #[] #[{ accessFlags := 1, nameIndex := 5, descriptorIndex := 6, attributes := #[] }] 33 0 #[] #[])
  fields := #[]
  methods := #[k0m0]
  instanceTypes := #[]
  staticTypes := #[]
  resolved := Array.replicate 124 none
  statics := none }

def pool1 : Array CpInfo := pool [(2, .class_ 4), (1, u "java/lang/Object"), (0, u "<init>"), (0, u "()V"), (0, .class_ 8), (0, u "java/lang/String"), (0, .methodref 7 10), (0, .nameAndType 5 11), (0, u "([C)V"), (0, .fieldref 13 14), (0, .class_ 15), (0, .nameAndType 16 17), (0, u "com/example/lint_for_clocks/lintforclocks/model/Token$Kind"), (0, u "NAME"), (0, u "Lcom/example/lint_for_clocks/lintforclocks/model/Token$Kind;"), (0, .fieldref 13 19), (0, .nameAndType 20 17), (0, u "NUMBER"), (0, .fieldref 13 22), (0, .nameAndType 23 17), (0, u "SYMBOL"), (0, .fieldref 13 25), (0, .nameAndType 26 17), (0, u "END"), (0, .methodref 28 29), (0, .class_ 30), (0, .nameAndType 31 32), (0, u "com/example/lint_for_clocks/lintforclocks/model/TokenIsPinLaw"), (0, u "mk"), (0, u "(ICC)Ljava/lang/String;"), (0, .class_ 34), (0, u "com/example/lint_for_clocks/lintforclocks/model/Token"), (0, .methodref 33 36), (0, .nameAndType 5 37), (0, u "(Lcom/example/lint_for_clocks/lintforclocks/model/Token$Kind;Ljava/lang/String;I)V"), (0, .methodref 33 39), (0, .nameAndType 40 41), (0, u "is"), (0, u "(Ljava/lang/String;)Z"), (3, u "law"), (0, u "(IIIII)Z")] 4

def k1m0 : Method := { name := "<init>", desc := "()V", sig := { parameters := [], returnType := none }, accessFlags := 1, code := none }
def k1c1 : Code := { maxStack := 6, maxLocals := 3, code := method_2_code, exceptionTable := #[], attributes := #[] }
def k1m1 : Method := { name := "mk", desc := "(ICC)Ljava/lang/String;", sig := { parameters := [.int, .char, .char], returnType := some (.object "java/lang/String") }, accessFlags := 10, code := some k1c1 }
def k1c2 : Code := { maxStack := 5, maxLocals := 19, code := code, exceptionTable := #[], attributes := #[] }
def k1m2 : Method := { name := "law", desc := "(IIIII)Z", sig := { parameters := [.int, .int, .int, .int, .int], returnType := some .boolean }, accessFlags := 9, code := some k1c2 }
/-- com/example/lint_for_clocks/lintforclocks/model/TokenIsPinLaw -/
def k1 : Class := { plain "com/example/lint_for_clocks/lintforclocks/model/TokenIsPinLaw" (some 0) with
  accessFlags := 49
  interfaces := #[]
  cf := some (fileOf pool1 28 #[] #[{ accessFlags := 1, nameIndex := 5, descriptorIndex := 6, attributes := #[] }, { accessFlags := 10, nameIndex := 31, descriptorIndex := 32, attributes := #[] }, { accessFlags := 9, nameIndex := 45, descriptorIndex := 46, attributes := #[] }] 49 2 #[] #[])
  fields := #[]
  methods := #[k1m0, k1m1, k1m2]
  instanceTypes := #[]
  staticTypes := #[]
  resolved := Array.replicate 51 none
  statics := none }

def pool2 : Array CpInfo := pool [(1, .class_ 2), (0, u "java/lang/constant/Constable"), (0, .class_ 4), (0, u "java/lang/Object")] 6

/-- java/lang/constant/Constable -/
def k2 : Class := { plain "java/lang/constant/Constable" (some 0) with
  accessFlags := 1537
  interfaces := #[]
  cf := some (fileOf pool2 1 #[] #[] 1537 3 #[] #[])
  fields := #[]
  methods := #[]
  instanceTypes := #[]
  staticTypes := #[]
  resolved := Array.replicate 11 none
  statics := none }

def pool3 : Array CpInfo := pool [(1, .class_ 2), (0, u "java/lang/Comparable"), (0, .class_ 4), (0, u "java/lang/Object")] 7

/-- java/lang/Comparable -/
def k3 : Class := { plain "java/lang/Comparable" (some 0) with
  accessFlags := 1537
  interfaces := #[]
  cf := some (fileOf pool3 1 #[] #[] 1537 3 #[] #[])
  fields := #[]
  methods := #[]
  instanceTypes := #[]
  staticTypes := #[]
  resolved := Array.replicate 12 none
  statics := none }

def pool4 : Array CpInfo := pool [(1, .class_ 2), (0, u "java/io/Serializable"), (0, .class_ 4), (0, u "java/lang/Object")] 2

/-- java/io/Serializable -/
def k4 : Class := { plain "java/io/Serializable" (some 0) with
  accessFlags := 1537
  interfaces := #[]
  cf := some (fileOf pool4 1 #[] #[] 1537 3 #[] #[])
  fields := #[]
  methods := #[]
  instanceTypes := #[]
  staticTypes := #[]
  resolved := Array.replicate 7 none
  statics := none }

def pool5 : Array CpInfo := pool [(2, .class_ 4), (1, u "java/lang/Enum"), (0, u "name"), (0, u "Ljava/lang/String;"), (2, u "ordinal"), (0, u "I"), (1, .class_ 14), (1, u "java/lang/Object"), (4, u "hash"), (86, .class_ 108), (1, u "java/lang/Enum$EnumDesc"), (2, .class_ 112), (0, u "java/lang/constant/Constable"), (0, .class_ 114), (0, u "java/lang/Comparable"), (0, .class_ 116), (0, u "java/io/Serializable")] 87

/-- java/lang/Enum -/
def k5 : Class := { plain "java/lang/Enum" (some 0) with
  accessFlags := 1057
  interfaces := #[2, 3, 4]
  cf := some (fileOf pool5 2 #[.nestMembers #[106]] #[] 1057 12 #[111, 113, 115] #[{ accessFlags := 18, nameIndex := 5, descriptorIndex := 6, attributes := #[] }, { accessFlags := 18, nameIndex := 9, descriptorIndex := 10, attributes := #[] }, { accessFlags := 2, nameIndex := 19, descriptorIndex := 10, attributes := #[] }])
  fields := #[{ name := "name", type := (.object "java/lang/String"), accessFlags := 18, slot := 0, constantValue := 0 }, { name := "ordinal", type := .int, accessFlags := 18, slot := 1, constantValue := 0 }, { name := "hash", type := .int, accessFlags := 2, slot := 2, constantValue := 0 }]
  methods := #[]
  instanceTypes := #[(.object "java/lang/String"), .int, .int]
  staticTypes := #[]
  resolved := Array.replicate 204 none
  statics := none }

def pool6 : Array CpInfo := pool [(1, .class_ 2), (0, u "com/example/lint_for_clocks/lintforclocks/model/Token$Kind"), (2, u "NAME"), (0, u "Lcom/example/lint_for_clocks/lintforclocks/model/Token$Kind;"), (2, u "NUMBER"), (2, u "SYMBOL"), (2, u "END"), (2, u "$VALUES"), (0, u "[Lcom/example/lint_for_clocks/lintforclocks/model/Token$Kind;"), (6, .class_ 28), (1, u "java/lang/Enum"), (27, .class_ 57), (0, u "com/example/lint_for_clocks/lintforclocks/model/Token")] 2

/-- com/example/lint_for_clocks/lintforclocks/model/Token$Kind -/
def k6 : Class := { plain "com/example/lint_for_clocks/lintforclocks/model/Token$Kind" (some 5) with
  accessFlags := 16432
  interfaces := #[]
  cf := some (fileOf pool6 1 #[.nestHost 56] #[] 16432 26 #[] #[{ accessFlags := 16409, nameIndex := 5, descriptorIndex := 6, attributes := #[] }, { accessFlags := 16409, nameIndex := 9, descriptorIndex := 6, attributes := #[] }, { accessFlags := 16409, nameIndex := 12, descriptorIndex := 6, attributes := #[] }, { accessFlags := 16409, nameIndex := 15, descriptorIndex := 6, attributes := #[] }, { accessFlags := 4122, nameIndex := 18, descriptorIndex := 19, attributes := #[] }])
  fields := #[{ name := "NAME", type := (.object "com/example/lint_for_clocks/lintforclocks/model/Token$Kind"), accessFlags := 16409, slot := 0, constantValue := 0 }, { name := "NUMBER", type := (.object "com/example/lint_for_clocks/lintforclocks/model/Token$Kind"), accessFlags := 16409, slot := 1, constantValue := 0 }, { name := "SYMBOL", type := (.object "com/example/lint_for_clocks/lintforclocks/model/Token$Kind"), accessFlags := 16409, slot := 2, constantValue := 0 }, { name := "END", type := (.object "com/example/lint_for_clocks/lintforclocks/model/Token$Kind"), accessFlags := 16409, slot := 3, constantValue := 0 }, { name := "$VALUES", type := (.array (.object "com/example/lint_for_clocks/lintforclocks/model/Token$Kind")), accessFlags := 4122, slot := 4, constantValue := 0 }]
  methods := #[]
  instanceTypes := #[(.object "java/lang/String"), .int, .int]
  staticTypes := #[(.object "com/example/lint_for_clocks/lintforclocks/model/Token$Kind"), (.object "com/example/lint_for_clocks/lintforclocks/model/Token$Kind"), (.object "com/example/lint_for_clocks/lintforclocks/model/Token$Kind"), (.object "com/example/lint_for_clocks/lintforclocks/model/Token$Kind"), (.array (.object "com/example/lint_for_clocks/lintforclocks/model/Token$Kind"))]
  resolved := Array.replicate 60 none
  statics := some 0 }

def pool7 : Array CpInfo := pool [(2, .class_ 4), (1, u "java/lang/CharSequence"), (42, .class_ 48), (0, u "java/lang/CharSequence$1CodePointIterator"), (10, .class_ 60), (0, u "java/lang/CharSequence$1CharIterator"), (5, .class_ 67), (0, u "java/lang/Object")] 63

/-- java/lang/CharSequence -/
def k7 : Class := { plain "java/lang/CharSequence" (some 0) with
  accessFlags := 1537
  interfaces := #[]
  cf := some (fileOf pool7 2 #[.nestMembers #[47, 59]] #[] 1537 66 #[] #[])
  fields := #[]
  methods := #[]
  instanceTypes := #[]
  staticTypes := #[]
  resolved := Array.replicate 131 none
  statics := none }

def pool8 : Array CpInfo := pool [(1, .class_ 2), (0, u "java/lang/constant/ConstantDesc"), (0, .class_ 4), (0, u "java/lang/Object")] 32

/-- java/lang/constant/ConstantDesc -/
def k8 : Class := { plain "java/lang/constant/ConstantDesc" (some 0) with
  accessFlags := 1537
  interfaces := #[]
  cf := some (fileOf pool8 1 #[] #[] 1537 3 #[] #[])
  fields := #[]
  methods := #[]
  instanceTypes := #[]
  staticTypes := #[]
  resolved := Array.replicate 37 none
  statics := none }

def pool9 : Array CpInfo := pool [(1, .methodref 2 3), (0, .class_ 4), (0, .nameAndType 5 6), (0, u "java/lang/Object"), (0, u "<init>"), (0, u "()V"), (0, .string 8), (0, u ""), (0, .fieldref 10 11), (0, .class_ 12), (0, .nameAndType 13 14), (0, u "java/lang/String"), (0, u "value"), (0, u "[B"), (0, .fieldref 10 16), (0, .nameAndType 17 18), (0, u "coder"), (0, u "B"), (2, u "hash"), (0, u "I"), (2, u "hashIsZero"), (0, u "Z"), (0, .methodref 10 28), (0, .nameAndType 5 29), (0, u "([CIILjava/lang/Void;)V"), (8, .fieldref 10 39), (0, .nameAndType 40 26), (0, u "COMPACT_STRINGS"), (1, .class_ 44), (1, u "java/lang/StringUTF16"), (0, u "compress"), (1, .methodref 42 48), (0, .nameAndType 49 50), (0, u "coderFromArrayLen"), (0, u "([BI)B"), (56, .class_ 109), (1, u "java/lang/StringLatin1"), (67, .methodref 42 178), (0, .nameAndType 45 179), (0, u "([CII)[B"), (361, .methodref 107 542), (0, .nameAndType 543 544), (0, u "equals"), (0, u "([B[B)Z"), (28, u "(Ljava/lang/Object;)Z"), (1, .class_ 576), (0, u "java/lang/CharSequence"), (22, u "CASE_INSENSITIVE_ORDER"), (0, u "Ljava/util/Comparator;"), (409, u "([C)V"), (90, u "serialPersistentFields"), (0, u "[Ljava/io/ObjectStreamField;"), (0, .class_ 1104), (0, u "java/lang/String$CaseInsensitiveComparator"), (1, .class_ 1107), (0, u "java/io/Serializable"), (0, .class_ 1109), (0, u "java/lang/Comparable"), (0, .class_ 1111), (0, u "java/lang/constant/Constable"), (0, .class_ 1113), (0, u "java/lang/constant/ConstantDesc"), (2, u "serialVersionUID"), (0, u "J"), (3, u "REPL"), (0, u "C"), (2, u "LATIN1"), (1, u "UTF16")] 323

def k9m0 : Method := { name := "<init>", desc := "()V", sig := { parameters := [], returnType := none }, accessFlags := 1, code := none }
def k9c1 : Code := { maxStack := 5, maxLocals := 2, code := jdk_42_method_3_code, exceptionTable := #[], attributes := #[] }
def k9m1 : Method := { name := "<init>", desc := "([C)V", sig := { parameters := [(.array .char)], returnType := none }, accessFlags := 1, code := some k9c1 }
def k9c2 : Code := { maxStack := 2, maxLocals := 3, code := jdk_42_method_66_code, exceptionTable := #[], attributes := #[] }
def k9m2 : Method := { name := "equals", desc := "(Ljava/lang/Object;)Z", sig := { parameters := [(.object "java/lang/Object")], returnType := some .boolean }, accessFlags := 1, code := some k9c2 }
def k9c3 : Code := { maxStack := 4, maxLocals := 6, code := jdk_42_method_149_code, exceptionTable := #[], attributes := #[] }
def k9m3 : Method := { name := "<init>", desc := "([CIILjava/lang/Void;)V", sig := { parameters := [(.array .char), .int, .int, (.object "java/lang/Void")], returnType := none }, accessFlags := 2, code := some k9c3 }
/-- java/lang/String -/
def k9 : Class := { plain "java/lang/String" (some 0) with
  accessFlags := 49
  interfaces := #[4, 3, 7, 2, 8]
  cf := some (fileOf pool9 10 #[.nestMembers #[1103]] #[{ accessFlags := 1, nameIndex := 5, descriptorIndex := 6, attributes := #[] }, { accessFlags := 1, nameIndex := 5, descriptorIndex := 1010, attributes := #[] }, { accessFlags := 1, nameIndex := 543, descriptorIndex := 573, attributes := #[] }, { accessFlags := 2, nameIndex := 5, descriptorIndex := 29, attributes := #[] }] 49 2 #[1106, 1108, 575, 1110, 1112] #[{ accessFlags := 18, nameIndex := 13, descriptorIndex := 14, attributes := #[] }, { accessFlags := 18, nameIndex := 17, descriptorIndex := 18, attributes := #[] }, { accessFlags := 2, nameIndex := 21, descriptorIndex := 22, attributes := #[] }, { accessFlags := 2, nameIndex := 25, descriptorIndex := 26, attributes := #[] }, { accessFlags := 26, nameIndex := 1116, descriptorIndex := 1117, attributes := #[] }, { accessFlags := 24, nameIndex := 40, descriptorIndex := 26, attributes := #[] }, { accessFlags := 26, nameIndex := 1101, descriptorIndex := 1102, attributes := #[] }, { accessFlags := 26, nameIndex := 1121, descriptorIndex := 1122, attributes := #[] }, { accessFlags := 25, nameIndex := 599, descriptorIndex := 600, attributes := #[] }, { accessFlags := 24, nameIndex := 1125, descriptorIndex := 18, attributes := #[] }, { accessFlags := 24, nameIndex := 1127, descriptorIndex := 18, attributes := #[] }])
  fields := #[{ name := "value", type := (.array .byte), accessFlags := 18, slot := 0, constantValue := 0 }, { name := "coder", type := .byte, accessFlags := 18, slot := 1, constantValue := 0 }, { name := "hash", type := .int, accessFlags := 2, slot := 2, constantValue := 0 }, { name := "hashIsZero", type := .boolean, accessFlags := 2, slot := 3, constantValue := 0 }, { name := "serialVersionUID", type := .long, accessFlags := 26, slot := 0, constantValue := 0 }, { name := "COMPACT_STRINGS", type := .boolean, accessFlags := 24, slot := 1, constantValue := 0 }, { name := "serialPersistentFields", type := (.array (.object "java/io/ObjectStreamField")), accessFlags := 26, slot := 2, constantValue := 0 }, { name := "REPL", type := .char, accessFlags := 26, slot := 3, constantValue := 0 }, { name := "CASE_INSENSITIVE_ORDER", type := (.object "java/util/Comparator"), accessFlags := 25, slot := 4, constantValue := 0 }, { name := "LATIN1", type := .byte, accessFlags := 24, slot := 5, constantValue := 0 }, { name := "UTF16", type := .byte, accessFlags := 24, slot := 6, constantValue := 0 }]
  methods := #[k9m0, k9m1, k9m2, k9m3]
  instanceTypes := #[(.array .byte), .byte, .int, .boolean]
  staticTypes := #[.long, .boolean, (.array (.object "java/io/ObjectStreamField")), .char, (.object "java/util/Comparator"), .byte, .byte]
  resolved := Array.replicate 1451 none
  statics := some 1 }

def pool10 : Array CpInfo := pool [(6, .class_ 8), (1, u "java/lang/Object"), (0, u "<init>"), (0, u "()V"), (1, .class_ 14), (1, u "java/lang/StringUTF16"), (31, u "$assertionsDisabled"), (0, u "Z"), (13, u "HI_BYTE_SHIFT"), (0, u "I"), (2, u "LO_BYTE_SHIFT"), (49, .methodref 12 116), (0, .nameAndType 117 118), (0, u "compress"), (0, u "([CI[BII)I"), (3, u "([CII)[B"), (138, u "coderFromArrayLen"), (0, u "([BI)B"), (106, .class_ 371), (1, u "java/lang/StringUTF16$LinesSpliterator"), (58, u "MAX_LENGTH"), (196, .class_ 628), (0, u "java/lang/StringUTF16$CodePointsSpliterator"), (0, .class_ 630), (0, u "java/lang/StringUTF16$CharsSpliterator")] 4

def k10m0 : Method := { name := "<init>", desc := "()V", sig := { parameters := [], returnType := none }, accessFlags := 0, code := none }
def k10c1 : Code := { maxStack := 2, maxLocals := 2, code := jdk_52_method_15_code, exceptionTable := #[], attributes := #[] }
def k10m1 : Method := { name := "coderFromArrayLen", desc := "([BI)B", sig := { parameters := [(.array .byte), .int], returnType := some .byte }, accessFlags := 8, code := some k10c1 }
def k10c2 : Code := { maxStack := 5, maxLocals := 6, code := jdk_52_method_16_code, exceptionTable := #[], attributes := #[] }
def k10m2 : Method := { name := "compress", desc := "([CII)[B", sig := { parameters := [(.array .char), .int, .int], returnType := some (.array .byte) }, accessFlags := 9, code := some k10c2 }
def k10c3 : Code := { maxStack := 3, maxLocals := 7, code := jdk_52_method_21_code, exceptionTable := #[], attributes := #[] }
def k10m3 : Method := { name := "compress", desc := "([CI[BII)I", sig := { parameters := [(.array .char), .int, (.array .byte), .int, .int], returnType := some .int }, accessFlags := 9, code := some k10c3 }
/-- java/lang/StringUTF16 -/
def k10 : Class := { plain "java/lang/StringUTF16" (some 0) with
  accessFlags := 48
  interfaces := #[]
  cf := some (fileOf pool10 12 #[.nestMembers #[627, 629, 369]] #[{ accessFlags := 0, nameIndex := 9, descriptorIndex := 10, attributes := #[] }, { accessFlags := 8, nameIndex := 261, descriptorIndex := 262, attributes := #[] }, { accessFlags := 9, nameIndex := 117, descriptorIndex := 122, attributes := #[] }, { accessFlags := 9, nameIndex := 117, descriptorIndex := 118, attributes := #[] }] 48 6 #[] #[{ accessFlags := 26, nameIndex := 61, descriptorIndex := 62, attributes := #[] }, { accessFlags := 26, nameIndex := 65, descriptorIndex := 62, attributes := #[] }, { accessFlags := 24, nameIndex := 430, descriptorIndex := 62, attributes := #[] }, { accessFlags := 4120, nameIndex := 46, descriptorIndex := 47, attributes := #[] }])
  fields := #[{ name := "HI_BYTE_SHIFT", type := .int, accessFlags := 26, slot := 0, constantValue := 0 }, { name := "LO_BYTE_SHIFT", type := .int, accessFlags := 26, slot := 1, constantValue := 0 }, { name := "MAX_LENGTH", type := .int, accessFlags := 24, slot := 2, constantValue := 0 }, { name := "$assertionsDisabled", type := .boolean, accessFlags := 4120, slot := 3, constantValue := 0 }]
  methods := #[k10m0, k10m1, k10m2, k10m3]
  instanceTypes := #[]
  staticTypes := #[.int, .int, .int, .boolean]
  resolved := Array.replicate 635 none
  statics := none }

def pool11 : Array CpInfo := pool [(1, .methodref 2 3), (0, .class_ 4), (0, .nameAndType 5 6), (0, u "java/lang/Object"), (0, u "<init>"), (0, u "()V"), (0, .class_ 8), (0, u "java/lang/Record")] 13

def k11c0 : Code := { maxStack := 1, maxLocals := 1, code := jdk_30_method_1_code, exceptionTable := #[], attributes := #[] }
def k11m0 : Method := { name := "<init>", desc := "()V", sig := { parameters := [], returnType := none }, accessFlags := 4, code := some k11c0 }
/-- java/lang/Record -/
def k11 : Class := { plain "java/lang/Record" (some 0) with
  accessFlags := 1057
  interfaces := #[]
  cf := some (fileOf pool11 7 #[] #[{ accessFlags := 4, nameIndex := 5, descriptorIndex := 6, attributes := #[] }] 1057 2 #[] #[])
  fields := #[]
  methods := #[k11m0]
  instanceTypes := #[]
  staticTypes := #[]
  resolved := Array.replicate 22 none
  statics := none }

def pool12 : Array CpInfo := pool [(1, .methodref 2 3), (0, .class_ 4), (0, .nameAndType 5 6), (0, u "java/lang/Record"), (0, u "<init>"), (0, u "()V"), (0, .fieldref 8 9), (0, .class_ 10), (0, .nameAndType 11 12), (0, u "com/example/lint_for_clocks/lintforclocks/model/Token"), (0, u "kind"), (0, u "Lcom/example/lint_for_clocks/lintforclocks/model/Token$Kind;"), (0, .fieldref 8 14), (0, .nameAndType 15 16), (0, u "text"), (0, u "Ljava/lang/String;"), (0, .fieldref 8 18), (0, .nameAndType 19 20), (0, u "line"), (0, u "I"), (0, .fieldref 22 23), (0, .class_ 24), (0, .nameAndType 25 12), (0, u "com/example/lint_for_clocks/lintforclocks/model/Token$Kind"), (0, u "END"), (0, .fieldref 22 27), (0, .nameAndType 28 12), (0, u "NUMBER"), (0, .methodref 30 31), (0, .class_ 32), (0, .nameAndType 33 34), (0, u "java/lang/String"), (0, u "equals"), (0, u "(Ljava/lang/Object;)Z"), (17, u "(Lcom/example/lint_for_clocks/lintforclocks/model/Token$Kind;Ljava/lang/String;I)V"), (3, u "is"), (0, u "(Ljava/lang/String;)Z")] 37

def k12c0 : Code := { maxStack := 2, maxLocals := 4, code := prog_61_method_1_code, exceptionTable := #[], attributes := #[] }
def k12m0 : Method := { name := "<init>", desc := "(Lcom/example/lint_for_clocks/lintforclocks/model/Token$Kind;Ljava/lang/String;I)V", sig := { parameters := [(.object "com/example/lint_for_clocks/lintforclocks/model/Token$Kind"), (.object "java/lang/String"), .int], returnType := none }, accessFlags := 0, code := some k12c0 }
def k12c1 : Code := { maxStack := 2, maxLocals := 2, code := prog_61_method_2_code, exceptionTable := #[], attributes := #[] }
def k12m1 : Method := { name := "is", desc := "(Ljava/lang/String;)Z", sig := { parameters := [(.object "java/lang/String")], returnType := some .boolean }, accessFlags := 0, code := some k12c1 }
/-- com/example/lint_for_clocks/lintforclocks/model/Token -/
def k12 : Class := { plain "com/example/lint_for_clocks/lintforclocks/model/Token" (some 11) with
  accessFlags := 48
  interfaces := #[]
  cf := some (fileOf pool12 8 #[.nestMembers #[22]] #[{ accessFlags := 0, nameIndex := 5, descriptorIndex := 52, attributes := #[] }, { accessFlags := 0, nameIndex := 56, descriptorIndex := 57, attributes := #[] }] 48 2 #[] #[{ accessFlags := 18, nameIndex := 11, descriptorIndex := 12, attributes := #[] }, { accessFlags := 18, nameIndex := 15, descriptorIndex := 16, attributes := #[] }, { accessFlags := 18, nameIndex := 19, descriptorIndex := 20, attributes := #[] }])
  fields := #[{ name := "kind", type := (.object "com/example/lint_for_clocks/lintforclocks/model/Token$Kind"), accessFlags := 18, slot := 0, constantValue := 0 }, { name := "text", type := (.object "java/lang/String"), accessFlags := 18, slot := 1, constantValue := 0 }, { name := "line", type := .int, accessFlags := 18, slot := 2, constantValue := 0 }]
  methods := #[k12m0, k12m1]
  instanceTypes := #[(.object "com/example/lint_for_clocks/lintforclocks/model/Token$Kind"), (.object "java/lang/String"), .int]
  staticTypes := #[]
  resolved := Array.replicate 95 none
  statics := none }

def pool13 : Array CpInfo := pool [(4, .class_ 6), (1, u "java/lang/Object"), (0, u "<init>"), (0, u "()V"), (5, .class_ 16), (1, u "java/lang/StringLatin1"), (104, u "$assertionsDisabled"), (0, u "Z"), (98, .class_ 223), (1, u "java/lang/StringLatin1$LinesSpliterator"), (57, u "equals"), (0, u "([B[B)Z"), (107, .class_ 391), (0, u "java/lang/StringLatin1$CharsSpliterator")] 3

def k13m0 : Method := { name := "<init>", desc := "()V", sig := { parameters := [], returnType := none }, accessFlags := 0, code := none }
def k13c1 : Code := { maxStack := 3, maxLocals := 3, code := jdk_43_method_13_code, exceptionTable := #[], attributes := #[] }
def k13m1 : Method := { name := "equals", desc := "([B[B)Z", sig := { parameters := [(.array .byte), (.array .byte)], returnType := some .boolean }, accessFlags := 9, code := some k13c1 }
/-- java/lang/StringLatin1 -/
def k13 : Class := { plain "java/lang/StringLatin1" (some 0) with
  accessFlags := 48
  interfaces := #[]
  cf := some (fileOf pool13 14 #[.nestMembers #[390, 221]] #[{ accessFlags := 0, nameIndex := 7, descriptorIndex := 8, attributes := #[] }, { accessFlags := 9, nameIndex := 281, descriptorIndex := 282, attributes := #[] }] 48 4 #[] #[{ accessFlags := 4120, nameIndex := 121, descriptorIndex := 122, attributes := #[] }])
  fields := #[{ name := "$assertionsDisabled", type := .boolean, accessFlags := 4120, slot := 0, constantValue := 0 }]
  methods := #[k13m0, k13m1]
  instanceTypes := #[]
  staticTypes := #[.boolean]
  resolved := Array.replicate 395 none
  statics := none }

def pool14 : Array CpInfo := pool [(2, .class_ 4), (1, u "java/lang/Object"), (0, u "<init>"), (0, u "()V"), (17, .class_ 26), (1, u "jdk/internal/util/Preconditions"), (28, .class_ 56), (0, u "jdk/internal/util/Preconditions$4"), (57, .class_ 115), (0, u "jdk/internal/util/Preconditions$1"), (7, u "SIOOBE_FORMATTER"), (0, u "Ljava/util/function/BiFunction;"), (0, .class_ 126), (0, u "jdk/internal/util/Preconditions$2"), (3, u "AIOOBE_FORMATTER"), (0, .class_ 132), (0, u "jdk/internal/util/Preconditions$3"), (3, u "IOOBE_FORMATTER")] 57

def k14m0 : Method := { name := "<init>", desc := "()V", sig := { parameters := [], returnType := none }, accessFlags := 1, code := none }
/-- jdk/internal/util/Preconditions -/
def k14 : Class := { plain "jdk/internal/util/Preconditions" (some 0) with
  accessFlags := 33
  interfaces := #[]
  cf := some (fileOf pool14 24 #[.nestMembers #[55, 131, 125, 114]] #[{ accessFlags := 1, nameIndex := 5, descriptorIndex := 6, attributes := #[] }] 33 2 #[] #[{ accessFlags := 25, nameIndex := 123, descriptorIndex := 124, attributes := #[] }, { accessFlags := 25, nameIndex := 130, descriptorIndex := 124, attributes := #[] }, { accessFlags := 25, nameIndex := 136, descriptorIndex := 124, attributes := #[] }])
  fields := #[{ name := "SIOOBE_FORMATTER", type := (.object "java/util/function/BiFunction"), accessFlags := 25, slot := 0, constantValue := 0 }, { name := "AIOOBE_FORMATTER", type := (.object "java/util/function/BiFunction"), accessFlags := 25, slot := 1, constantValue := 0 }, { name := "IOOBE_FORMATTER", type := (.object "java/util/function/BiFunction"), accessFlags := 25, slot := 2, constantValue := 0 }]
  methods := #[k14m0]
  instanceTypes := #[]
  staticTypes := #[(.object "java/util/function/BiFunction"), (.object "java/util/function/BiFunction"), (.object "java/util/function/BiFunction")]
  resolved := Array.replicate 194 none
  statics := some 2 }

def pool15 : Array CpInfo := pool [(9, u "<init>"), (6, .class_ 18), (1, u "java/lang/Object"), (0, u "()V"), (1, .class_ 23), (1, u "jdk/internal/util/ArraysSupport"), (0, u "LOG2_ARRAY_LONG_INDEX_SCALE"), (0, u "I"), (2, u "U"), (0, u "Ljdk/internal/misc/Unsafe;"), (8, u "BIG_ENDIAN"), (0, u "Z"), (8, u "LOG2_BYTE_BIT_SIZE"), (4, u "LOG2_ARRAY_INT_INDEX_SCALE"), (54, u "JLA"), (0, u "Ljdk/internal/access/JavaLangAccess;"), (11, u "LOG2_ARRAY_BOOLEAN_INDEX_SCALE"), (9, u "LOG2_ARRAY_BYTE_INDEX_SCALE"), (5, u "LOG2_ARRAY_CHAR_INDEX_SCALE"), (5, u "LOG2_ARRAY_SHORT_INDEX_SCALE"), (18, u "LOG2_ARRAY_FLOAT_INDEX_SCALE"), (24, u "LOG2_ARRAY_DOUBLE_INDEX_SCALE"), (89, u "T_BOOLEAN"), (2, u "T_CHAR"), (1, u "T_FLOAT"), (1, u "T_DOUBLE"), (1, u "T_BYTE"), (1, u "T_SHORT"), (1, u "T_INT"), (1, u "T_LONG"), (1, u "SOFT_MAX_ARRAY_LENGTH")] 83

def k15m0 : Method := { name := "<init>", desc := "()V", sig := { parameters := [], returnType := none }, accessFlags := 2, code := none }
/-- jdk/internal/util/ArraysSupport -/
def k15 : Class := { plain "jdk/internal/util/ArraysSupport" (some 0) with
  accessFlags := 33
  interfaces := #[]
  cf := some (fileOf pool15 21 #[] #[{ accessFlags := 2, nameIndex := 9, descriptorIndex := 19, attributes := #[] }] 33 16 #[] #[{ accessFlags := 24, nameIndex := 28, descriptorIndex := 29, attributes := #[] }, { accessFlags := 26, nameIndex := 38, descriptorIndex := 39, attributes := #[] }, { accessFlags := 25, nameIndex := 121, descriptorIndex := 25, attributes := #[] }, { accessFlags := 25, nameIndex := 131, descriptorIndex := 25, attributes := #[] }, { accessFlags := 25, nameIndex := 137, descriptorIndex := 25, attributes := #[] }, { accessFlags := 25, nameIndex := 143, descriptorIndex := 25, attributes := #[] }, { accessFlags := 25, nameIndex := 53, descriptorIndex := 25, attributes := #[] }, { accessFlags := 25, nameIndex := 24, descriptorIndex := 25, attributes := #[] }, { accessFlags := 25, nameIndex := 162, descriptorIndex := 25, attributes := #[] }, { accessFlags := 25, nameIndex := 187, descriptorIndex := 25, attributes := #[] }, { accessFlags := 26, nameIndex := 48, descriptorIndex := 25, attributes := #[] }, { accessFlags := 25, nameIndex := 277, descriptorIndex := 25, attributes := #[] }, { accessFlags := 25, nameIndex := 280, descriptorIndex := 25, attributes := #[] }, { accessFlags := 25, nameIndex := 282, descriptorIndex := 25, attributes := #[] }, { accessFlags := 25, nameIndex := 284, descriptorIndex := 25, attributes := #[] }, { accessFlags := 25, nameIndex := 286, descriptorIndex := 25, attributes := #[] }, { accessFlags := 25, nameIndex := 288, descriptorIndex := 25, attributes := #[] }, { accessFlags := 25, nameIndex := 290, descriptorIndex := 25, attributes := #[] }, { accessFlags := 25, nameIndex := 292, descriptorIndex := 25, attributes := #[] }, { accessFlags := 26, nameIndex := 108, descriptorIndex := 109, attributes := #[] }, { accessFlags := 25, nameIndex := 294, descriptorIndex := 25, attributes := #[] }])
  fields := #[{ name := "U", type := (.object "jdk/internal/misc/Unsafe"), accessFlags := 24, slot := 0, constantValue := 0 }, { name := "BIG_ENDIAN", type := .boolean, accessFlags := 26, slot := 1, constantValue := 0 }, { name := "LOG2_ARRAY_BOOLEAN_INDEX_SCALE", type := .int, accessFlags := 25, slot := 2, constantValue := 0 }, { name := "LOG2_ARRAY_BYTE_INDEX_SCALE", type := .int, accessFlags := 25, slot := 3, constantValue := 0 }, { name := "LOG2_ARRAY_CHAR_INDEX_SCALE", type := .int, accessFlags := 25, slot := 4, constantValue := 0 }, { name := "LOG2_ARRAY_SHORT_INDEX_SCALE", type := .int, accessFlags := 25, slot := 5, constantValue := 0 }, { name := "LOG2_ARRAY_INT_INDEX_SCALE", type := .int, accessFlags := 25, slot := 6, constantValue := 0 }, { name := "LOG2_ARRAY_LONG_INDEX_SCALE", type := .int, accessFlags := 25, slot := 7, constantValue := 0 }, { name := "LOG2_ARRAY_FLOAT_INDEX_SCALE", type := .int, accessFlags := 25, slot := 8, constantValue := 0 }, { name := "LOG2_ARRAY_DOUBLE_INDEX_SCALE", type := .int, accessFlags := 25, slot := 9, constantValue := 0 }, { name := "LOG2_BYTE_BIT_SIZE", type := .int, accessFlags := 26, slot := 10, constantValue := 0 }, { name := "T_BOOLEAN", type := .int, accessFlags := 25, slot := 11, constantValue := 0 }, { name := "T_CHAR", type := .int, accessFlags := 25, slot := 12, constantValue := 0 }, { name := "T_FLOAT", type := .int, accessFlags := 25, slot := 13, constantValue := 0 }, { name := "T_DOUBLE", type := .int, accessFlags := 25, slot := 14, constantValue := 0 }, { name := "T_BYTE", type := .int, accessFlags := 25, slot := 15, constantValue := 0 }, { name := "T_SHORT", type := .int, accessFlags := 25, slot := 16, constantValue := 0 }, { name := "T_INT", type := .int, accessFlags := 25, slot := 17, constantValue := 0 }, { name := "T_LONG", type := .int, accessFlags := 25, slot := 18, constantValue := 0 }, { name := "JLA", type := (.object "jdk/internal/access/JavaLangAccess"), accessFlags := 26, slot := 19, constantValue := 0 }, { name := "SOFT_MAX_ARRAY_LENGTH", type := .int, accessFlags := 25, slot := 20, constantValue := 0 }]
  methods := #[k15m0]
  instanceTypes := #[]
  staticTypes := #[(.object "jdk/internal/misc/Unsafe"), .boolean, .int, .int, .int, .int, .int, .int, .int, .int, .int, .int, .int, .int, .int, .int, .int, .int, .int, (.object "jdk/internal/access/JavaLangAccess"), .int]
  resolved := Array.replicate 378 none
  statics := none }

def pool16 : Array CpInfo := pool [(1, u "java/lang/Cloneable"), (0, .class_ 1), (0, u "java/lang/Object"), (0, .class_ 3)] 3

/-- java/lang/Cloneable -/
def k16 : Class := { plain "java/lang/Cloneable" (some 0) with
  accessFlags := 1537
  interfaces := #[]
  cf := some (fileOf pool16 2 #[] #[] 1537 4 #[] #[])
  fields := #[]
  methods := #[]
  instanceTypes := #[]
  staticTypes := #[]
  resolved := Array.replicate 8 none
  statics := none }

/-- the primitive byte -/
def k17 : Class := { plain "byte" none with kind := .primitive 'B', accessFlags := 0x411 }
/-- [B -/
def k18 : Class := { plain "[B" (some 0) with kind := .array 17 .byte, interfaces := #[16, 4], accessFlags := 1041 }

/-- the primitive char -/
def k19 : Class := { plain "char" none with kind := .primitive 'C', accessFlags := 0x411 }
/-- [C -/
def k20 : Class := { plain "[C" (some 0) with kind := .array 19 .char, interfaces := #[16, 4], accessFlags := 1041 }

/-- the primitive int -/
def k21 : Class := { plain "int" none with kind := .primitive 'I', accessFlags := 0x411 }
/-- [I -/
def k22 : Class := { plain "[I" (some 0) with kind := .array 21 .int, interfaces := #[16, 4], accessFlags := 1041 }

def heap : Heap := #[{ cls := 6, slots := #[.ref 3, .ref 4, .ref 5, .ref 6, .null], vm := .statics 6 },
  { cls := 9, slots := #[.long 0, .int 1, .null, .int 0, .null, .int 0, .int 0], vm := .statics 9 },
  { cls := 14, slots := #[.null, .null, .null], vm := .statics 14 },
  { cls := 6, slots := #[.null, .int 0, .int 0], vm := .none },
  { cls := 6, slots := #[.null, .int 1, .int 0], vm := .none },
  { cls := 6, slots := #[.null, .int 2, .int 0], vm := .none },
  { cls := 6, slots := #[.null, .int 3, .int 0], vm := .none }]
def classes : Array Class := #[k0, k1, k2, k3, k4, k5, k6, k7, k8, k9, k10, k11, k12, k13, k14, k15, k16, k17, k18, k19, k20, k21, k22]
def interned : List (Array UInt16 × Addr) := []
def slotsUsed : Nat := 27
def theMethod : MethodId := ⟨1, 2⟩
def args0 : Array Value := #[.int 0, .int 5, .int 5, .int 256, .int 7]
def aboutOver (below : List Frame) : State where
  vm := { classes := classes, interned := interned.toArray }
  heap := heap
  slotsUsed := slotsUsed
  threads := #[{ frames := .invoking theMethod args0 :: below }]
def below0 : List Frame := [.native { method := ⟨0, 0⟩, args := #[] }]
def about1 : State := aboutOver below0
def p0 : Program := .bare "" "" ""
def e0 : Env := launch0.env 0 0 0
theorem w_frames : about1.frames = Frame.invoking theMethod args0 :: below0 := rfl
set_option maxRecDepth 65536 in
theorem w_args : argsFit about1.vm theMethod args0 = true := by decide +kernel
set_option maxRecDepth 65536 in
theorem w_heap : heapFits about1 = true := by decide +kernel
set_option maxRecDepth 65536 in
theorem w_runnable : about1.curStatus? = some .runnable := by decide +kernel
set_option maxRecDepth 65536 in
theorem w_alone : about1.alone = true := by decide +kernel
set_option maxRecDepth 65536 in
theorem w_named : about1.methodNamed? x = some theMethod := by decide +kernel
set_option maxRecDepth 65536 in
theorem w_hears : about1.hears theMethod below0 = true := by decide +kernel
set_option maxRecDepth 65536 in
theorem w_ripe : about1.ripe theMethod args0 below0 = true := by decide +kernel
theorem w_running : about1.status = .running := rfl
set_option maxRecDepth 65536 in
theorem w_room : about1.hasRoom e0.platform room_1 = true :=
  launch0.hasRoom_least _ room_1 (by decide +kernel) (by decide +kernel) (by decide +kernel) (by decide +kernel) (by decide +kernel) (by decide +kernel)
theorem allAtoms_all (ts : List Jvm.Cond) (a : Array Jvm.Value) (st : Jvm.State) : (allAtoms ts).before a st = ts.all (fun c => c.before a st) := by
  induction ts with
  | nil => rfl
  | cons c t ih =>
    show (Jvm.Cond.and c (allAtoms t)).before a st = _
    rw [Jvm.Cond.before_and, ih, List.all_cons]
def words1 : List Jvm.Cond := Jvm.Cond.code x code maxLocals ret :: tables_1
/-- a 'code' word, met by the world's own term for the bytes: nothing is compared byte by byte -/
theorem code_word {y : MethodName} {bytes : ByteArray} {mx : Nat} {rt : Option FieldType} {a : Array Value} {s : State} {m : MethodId} {meth : Method} {c : Code} (h1 : s.methodNamed? y = some m) (h2 : s.vm.method? m = some meth) (h3 : meth.code = some c) (h4 : c.code = bytes)
    (h5 : (c.maxLocals == mx && c.exceptionTable.isEmpty && decide (c.maxStack ≤ mostOperands) && decide (meth.sig.returnType = rt) && !meth.locks && decide (parseMethodDescriptor y.desc = some meth.sig)) = true) : (Jvm.Cond.code y bytes mx rt).before a s = true := by
  simp only [Bool.and_eq_true, beq_iff_eq, Bool.not_eq_true', decide_eq_true_eq] at h5
  obtain ⟨⟨⟨⟨⟨g1, g2⟩, g3⟩, g4⟩, g5⟩, g6⟩ := h5
  simp [Cond.before, Cond.holds, Cond.value, h1, h2, h3, h4, g1, g2, g3, g4, g5, g6]
def isCode : Jvm.Cond → Bool
  | .code _ _ _ _ => true
  | _ => false
theorem all_split {L : List Jvm.Cond} {P : Jvm.Cond → Bool} (h1 : L.all (fun c => isCode c || P c) = true) (h2 : ∀ c ∈ L.filter isCode, P c = true) : L.all P = true := by
  refine List.all_eq_true.mpr fun c hc => ?_
  have h := List.all_eq_true.mp h1 c hc
  rcases Bool.eq_false_or_eq_true (isCode c) with hi | hi
  · exact h2 c (List.mem_filter.mpr ⟨hc, hi⟩)
  · simpa [hi] using h
set_option maxRecDepth 65536 in
theorem w_c0 : (Jvm.Cond.code x code maxLocals ret).before args0 about1 = true := code_word (m := ⟨1, 2⟩) (meth := k1m2) (c := k1c2) (by decide +kernel) rfl rfl rfl (by decide +kernel)
set_option maxRecDepth 65536 in
theorem w_c1 : (Jvm.Cond.code ({ cls := "com/example/lint_for_clocks/lintforclocks/model/TokenIsPinLaw", name := "mk", desc := "(ICC)Ljava/lang/String;" } : Jvm.MethodName) method_2_code (3 : Nat) (Option.some (Jvm.ClassFile.FieldType.object "java/lang/String"))).before args0 about1 = true := code_word (m := ⟨1, 1⟩) (meth := k1m1) (c := k1c1) (by decide +kernel) rfl rfl rfl (by decide +kernel)
set_option maxRecDepth 65536 in
theorem w_c2 : (Jvm.Cond.code ({ cls := "java/lang/String", name := "<init>", desc := "([C)V" } : Jvm.MethodName) jdk_42_method_3_code (2 : Nat) (Option.none : Option Jvm.ClassFile.FieldType)).before args0 about1 = true := code_word (m := ⟨9, 1⟩) (meth := k9m1) (c := k9c1) (by decide +kernel) rfl rfl rfl (by decide +kernel)
set_option maxRecDepth 65536 in
theorem w_c3 : (Jvm.Cond.code ({ cls := "java/lang/String", name := "<init>", desc := "([CIILjava/lang/Void;)V" } : Jvm.MethodName) jdk_42_method_149_code (6 : Nat) (Option.none : Option Jvm.ClassFile.FieldType)).before args0 about1 = true := code_word (m := ⟨9, 3⟩) (meth := k9m3) (c := k9c3) (by decide +kernel) rfl rfl rfl (by decide +kernel)
set_option maxRecDepth 65536 in
theorem w_c4 : (Jvm.Cond.code ({ cls := "java/lang/Object", name := "<init>", desc := "()V" } : Jvm.MethodName) object_method_1_code (1 : Nat) (Option.none : Option Jvm.ClassFile.FieldType)).before args0 about1 = true := code_word (m := ⟨0, 0⟩) (meth := k0m0) (c := k0c0) (by decide +kernel) rfl rfl rfl (by decide +kernel)
set_option maxRecDepth 65536 in
theorem w_c5 : (Jvm.Cond.code ({ cls := "java/lang/StringUTF16", name := "compress", desc := "([CII)[B" } : Jvm.MethodName) jdk_52_method_16_code (6 : Nat) (Option.some (Jvm.ClassFile.FieldType.array Jvm.ClassFile.FieldType.byte))).before args0 about1 = true := code_word (m := ⟨10, 2⟩) (meth := k10m2) (c := k10c2) (by decide +kernel) rfl rfl rfl (by decide +kernel)
set_option maxRecDepth 65536 in
theorem w_c6 : (Jvm.Cond.code ({ cls := "java/lang/StringUTF16", name := "compress", desc := "([CI[BII)I" } : Jvm.MethodName) jdk_52_method_21_code (7 : Nat) (Option.some Jvm.ClassFile.FieldType.int)).before args0 about1 = true := code_word (m := ⟨10, 3⟩) (meth := k10m3) (c := k10c3) (by decide +kernel) rfl rfl rfl (by decide +kernel)
set_option maxRecDepth 65536 in
theorem w_c7 : (Jvm.Cond.code ({ cls := "java/lang/StringUTF16", name := "coderFromArrayLen", desc := "([BI)B" } : Jvm.MethodName) jdk_52_method_15_code (2 : Nat) (Option.some Jvm.ClassFile.FieldType.byte)).before args0 about1 = true := code_word (m := ⟨10, 1⟩) (meth := k10m1) (c := k10c1) (by decide +kernel) rfl rfl rfl (by decide +kernel)
set_option maxRecDepth 65536 in
theorem w_c8 : (Jvm.Cond.code ({ cls := "com/example/lint_for_clocks/lintforclocks/model/Token", name := "<init>", desc := "(Lcom/example/lint_for_clocks/lintforclocks/model/Token$Kind;Ljava/lang/String;I)V" } : Jvm.MethodName) prog_61_method_1_code (4 : Nat) (Option.none : Option Jvm.ClassFile.FieldType)).before args0 about1 = true := code_word (m := ⟨12, 0⟩) (meth := k12m0) (c := k12c0) (by decide +kernel) rfl rfl rfl (by decide +kernel)
set_option maxRecDepth 65536 in
theorem w_c9 : (Jvm.Cond.code ({ cls := "java/lang/Record", name := "<init>", desc := "()V" } : Jvm.MethodName) jdk_30_method_1_code (1 : Nat) (Option.none : Option Jvm.ClassFile.FieldType)).before args0 about1 = true := code_word (m := ⟨11, 0⟩) (meth := k11m0) (c := k11c0) (by decide +kernel) rfl rfl rfl (by decide +kernel)
set_option maxRecDepth 65536 in
theorem w_c10 : (Jvm.Cond.code ({ cls := "com/example/lint_for_clocks/lintforclocks/model/Token", name := "is", desc := "(Ljava/lang/String;)Z" } : Jvm.MethodName) prog_61_method_2_code (2 : Nat) (Option.some Jvm.ClassFile.FieldType.boolean)).before args0 about1 = true := code_word (m := ⟨12, 1⟩) (meth := k12m1) (c := k12c1) (by decide +kernel) rfl rfl rfl (by decide +kernel)
set_option maxRecDepth 65536 in
theorem w_c11 : (Jvm.Cond.code ({ cls := "java/lang/String", name := "equals", desc := "(Ljava/lang/Object;)Z" } : Jvm.MethodName) jdk_42_method_66_code (3 : Nat) (Option.some Jvm.ClassFile.FieldType.boolean)).before args0 about1 = true := code_word (m := ⟨9, 2⟩) (meth := k9m2) (c := k9c2) (by decide +kernel) rfl rfl rfl (by decide +kernel)
set_option maxRecDepth 65536 in
theorem w_c12 : (Jvm.Cond.code ({ cls := "java/lang/StringLatin1", name := "equals", desc := "([B[B)Z" } : Jvm.MethodName) jdk_43_method_13_code (3 : Nat) (Option.some Jvm.ClassFile.FieldType.boolean)).before args0 about1 = true := code_word (m := ⟨13, 1⟩) (meth := k13m1) (c := k13c1) (by decide +kernel) rfl rfl rfl (by decide +kernel)
def codes1 : List Jvm.Cond := [Jvm.Cond.code x code maxLocals ret, Jvm.Cond.code ({ cls := "com/example/lint_for_clocks/lintforclocks/model/TokenIsPinLaw", name := "mk", desc := "(ICC)Ljava/lang/String;" } : Jvm.MethodName) method_2_code (3 : Nat) (Option.some (Jvm.ClassFile.FieldType.object "java/lang/String")), Jvm.Cond.code ({ cls := "java/lang/String", name := "<init>", desc := "([C)V" } : Jvm.MethodName) jdk_42_method_3_code (2 : Nat) (Option.none : Option Jvm.ClassFile.FieldType), Jvm.Cond.code ({ cls := "java/lang/String", name := "<init>", desc := "([CIILjava/lang/Void;)V" } : Jvm.MethodName) jdk_42_method_149_code (6 : Nat) (Option.none : Option Jvm.ClassFile.FieldType), Jvm.Cond.code ({ cls := "java/lang/Object", name := "<init>", desc := "()V" } : Jvm.MethodName) object_method_1_code (1 : Nat) (Option.none : Option Jvm.ClassFile.FieldType), Jvm.Cond.code ({ cls := "java/lang/StringUTF16", name := "compress", desc := "([CII)[B" } : Jvm.MethodName) jdk_52_method_16_code (6 : Nat) (Option.some (Jvm.ClassFile.FieldType.array Jvm.ClassFile.FieldType.byte)), Jvm.Cond.code ({ cls := "java/lang/StringUTF16", name := "compress", desc := "([CI[BII)I" } : Jvm.MethodName) jdk_52_method_21_code (7 : Nat) (Option.some Jvm.ClassFile.FieldType.int), Jvm.Cond.code ({ cls := "java/lang/StringUTF16", name := "coderFromArrayLen", desc := "([BI)B" } : Jvm.MethodName) jdk_52_method_15_code (2 : Nat) (Option.some Jvm.ClassFile.FieldType.byte), Jvm.Cond.code ({ cls := "com/example/lint_for_clocks/lintforclocks/model/Token", name := "<init>", desc := "(Lcom/example/lint_for_clocks/lintforclocks/model/Token$Kind;Ljava/lang/String;I)V" } : Jvm.MethodName) prog_61_method_1_code (4 : Nat) (Option.none : Option Jvm.ClassFile.FieldType), Jvm.Cond.code ({ cls := "java/lang/Record", name := "<init>", desc := "()V" } : Jvm.MethodName) jdk_30_method_1_code (1 : Nat) (Option.none : Option Jvm.ClassFile.FieldType), Jvm.Cond.code ({ cls := "com/example/lint_for_clocks/lintforclocks/model/Token", name := "is", desc := "(Ljava/lang/String;)Z" } : Jvm.MethodName) prog_61_method_2_code (2 : Nat) (Option.some Jvm.ClassFile.FieldType.boolean), Jvm.Cond.code ({ cls := "java/lang/String", name := "equals", desc := "(Ljava/lang/Object;)Z" } : Jvm.MethodName) jdk_42_method_66_code (3 : Nat) (Option.some Jvm.ClassFile.FieldType.boolean), Jvm.Cond.code ({ cls := "java/lang/StringLatin1", name := "equals", desc := "([B[B)Z" } : Jvm.MethodName) jdk_43_method_13_code (3 : Nat) (Option.some Jvm.ClassFile.FieldType.boolean)]
set_option maxRecDepth 65536 in
theorem codes_eq : words1.filter isCode = codes1 := rfl
theorem w_codes : ∀ c ∈ words1.filter isCode, c.before args0 about1 = true := by
  rw [codes_eq]
  intro c hc
  simp only [codes1, List.mem_cons, List.not_mem_nil, or_false] at hc
  rcases hc with rfl | rfl | rfl | rfl | rfl | rfl | rfl | rfl | rfl | rfl | rfl | rfl | rfl
  · exact w_c0
  · exact w_c1
  · exact w_c2
  · exact w_c3
  · exact w_c4
  · exact w_c5
  · exact w_c6
  · exact w_c7
  · exact w_c8
  · exact w_c9
  · exact w_c10
  · exact w_c11
  · exact w_c12
set_option maxRecDepth 65536 in
theorem w_t1 : (words1.take 24).all (fun c => isCode c || c.before args0 about1) = true := by decide +kernel
set_option maxRecDepth 65536 in
theorem w_t2 : ((words1.drop 24).take 24).all (fun c => isCode c || c.before args0 about1) = true := by decide +kernel
set_option maxRecDepth 65536 in
theorem w_t3 : (((words1.drop 24).drop 24).take 24).all (fun c => isCode c || c.before args0 about1) = true := by decide +kernel
set_option maxRecDepth 65536 in
theorem w_t4 : (((words1.drop 24).drop 24).drop 24).all (fun c => isCode c || c.before args0 about1) = true := by decide +kernel
theorem w_tables : (allAtoms (Jvm.Cond.code x code maxLocals ret :: tables_1)).before args0 about1 = true := by
  rw [allAtoms_all]
  show words1.all (fun c => c.before args0 about1) = true
  refine all_split ?_ w_codes
  rw [← List.take_append_drop 24 words1, List.all_append, w_t1, ← List.take_append_drop 24 (words1.drop 24), List.all_append, w_t2, ← List.take_append_drop 24 ((words1.drop 24).drop 24), List.all_append, w_t3, w_t4]
  rfl
set_option maxRecDepth 65536 in
theorem w_rest : rest_1_c.before args0 about1 = true := by decide +kernel
set_option maxRecDepth 65536 in
theorem w_case : (Jvm.Cond.and given_1 narrow_1).before args0 about1 = true := by decide +kernel
set_option maxRecDepth 65536 in
theorem w_consts : constsHeld consts_1 about1 := Jvm.Lit.constsHeldB_iff.mp (by decide +kernel)
theorem w_applies : (headSpec (Jvm.Cond.code x code maxLocals ret :: tables_1) room_1).applies x e0.platform about1 = true :=
  (Spec.applies_iff w_frames).mpr ⟨w_running, w_runnable, w_alone, w_named, w_hears, w_ripe, w_room, w_tables⟩
theorem atStart : AtStart classFile x code maxLocals ret World_1 tables_1 room_1 Calls_1 rest_1 Pre_1 launch0 p0 e0 about1 theMethod args0 below0 :=
  ⟨lists_1, trivial, launch0.admits_env _ _ _, launch0.least_env, fairChoices_fair.cas, fairChoices_fair.clock, w_frames, w_args, w_heap, w_applies, ⟨w_consts, trivial⟩, w_rest, w_case⟩
end start1
theorem witness_1 : WitnessClaimed_1 := ⟨start1.p0, start1.e0, start1.about1, start1.theMethod, start1.args0, start1.below0, start1.atStart⟩
end Jvm.Pilot.@@N@@
