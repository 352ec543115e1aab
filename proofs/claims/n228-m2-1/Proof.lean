import JvmDerived
import JvmDerived.Pilot.@@N@@Statement
import JvmDerived.Pilot.@@N@@Code
set_option linter.unusedVariables false
set_option linter.unusedSimpArgs false
namespace Jvm.RoadKit
open Sem ClassFile Op Lib Jvm.Stand Jvm.Free Jvm.LawKit
section New
variable {p : Program} {l : Launch} {e : Env} {R : Room} {s : State} {m : MethodId} {args : Array Value} {below : List Frame} {meth : Method} {c : Code} {T : State} {locs : List Loc} {cells slots : Nat}
theorem retI (X : Stand p l e R s m args below meth c T locs cells slots) (hx : p.tables.exec = Jvm.exec) {pc : Nat} {Ls : Array Slot} {z : Int32} {rest : List Value} (hret : meth.sig.returnType = some .int) (hd : decode c.code pc = .ok (.ireturn, 1)) {fs : List Frame}
    (hl : ∀ (f : JFrame) (acts : List Action), f.method = m → f.locked = none → f.entered = [] → (doReturn e (T.setTop f) acts (some (.int z))).1 = T.setFrames fs) : Steps p.tables e below (T.setTop (mkF m pc Ls (.int z :: rest))) (T.setFrames fs) := by
  have hm' : T.vm.method? m = some meth := X.method'
  have hn : narrow .int (.int z) = .int z := rfl
  show Steps p.tables e below (T.setTop { method := m, pc := pc, locals := Ls, stack := _ :: rest, locked := none }) _
  jvm_step X.here [X.here.top, hx, hd, hm', hret, hn]
  first | (intro acts; rw [hl _ acts rfl rfl rfl]) | rw [hl _ _ rfl rfl rfl]
  exact Steps.refl _
theorem own_lrem {g : JFrame} {target : State} (X : Stand p l e R s m args below meth c T locs cells slots) (hx : p.tables.exec = Jvm.exec) (hg : g.method = m) {x y : Int64} {rest : List Value} (hd : decode c.code g.pc = .ok (.lrem, 1)) (hs : g.stack = .long y :: .long x :: rest) (hy : y ≠ 0)
    (hr : Steps p.tables e below (T.setTop { g with pc := g.pc + 1, stack := .long (x % y) :: rest }) target) : Steps p.tables e below (T.setTop g) target :=
  XS.lrem X.here hx hg hd hs hy (by first | exact hr | (rw [lrem_mod]; exact hr))
end New
end Jvm.RoadKit
namespace Jvm.Pilot.@@N@@
open Jvm Jvm.ClassFile Sem Op Lib Jvm.Free Jvm.Stand Jvm.LawKit Jvm.RoadKit Bundle Jvm.Pilot.@@N@@.Jvm.D
/-- from the state A the body returns with QQ -/
def own_Go (p : Program) (e : Env) (below : List Frame) (s : State) (QQ : Option Value → Heap → List Loc → Prop) (k n : Nat) (A : State) : Prop :=
  ∃ U o, Steps p.tables e below A U ∧ U.status = .running ∧ Ended U below o ∧ ∃ v L, o = .returned v ∧ QQ v U.heap L ∧ FrameEnd s o U L k n
theorem own_go {p : Program} {e : Env} {below : List Frame} {s : State} {QQ : Option Value → Heap → List Loc → Prop} {k n : Nat} {A B : State} (h : ∀ t, Steps p.tables e below B t → Steps p.tables e below A t) (g : own_Go p e below s QQ k n B) : own_Go p e below s QQ k n A := by
  obtain ⟨U, o, h1, r⟩ := g
  exact ⟨U, o, h U h1, r⟩
theorem own_ret {p : Program} {l : Launch} {e : Env} {R : Room} {s : State} {m : MethodId} {args : Array Value} {below : List Frame} {meth : Method} {c : Code} {T : State} {locs : List Loc} {cells slots : Nat} {QQ : Option Value → Heap → List Loc → Prop} {k n : Nat} {A : State}
    (X : Stand p l e R s m args below meth c T locs cells slots) {v : Option Value} (hv : meth.sig.returnType = none → v = none) (hlk : meth.locks = false) (hQ : QQ v T.heap locs) (hk : cells ≤ k) (hn : slots ≤ n)
    (st : ∀ fs, (∀ (f : JFrame) (acts : List Action), f.method = m → f.locked = none → f.entered = [] → (doReturn e (T.setTop f) acts v).1 = T.setFrames fs) → Steps p.tables e below A (T.setFrames fs)) : own_Go p e below s QQ k n A := by
  obtain ⟨fs, hr, hrun, hended, hW, hsame⟩ := X.leave hv hlk
  exact ⟨_, _, st fs hr, hrun, hended, _, _, rfl, hQ, ⟨_, rfl⟩, hW, hsame.mono hk hn⟩
def own_GoW (p : Program) (e : Env) (below : List Frame) (s : State) (QQ : Option Value → Heap → List Loc → Prop) (k n : Nat) (A : State) : Prop :=
  ∃ U o, Steps p.tables e below A U ∧ U.status = .running ∧ Ended U below o ∧ ∃ v L, o = .returned v ∧ QQ v U.heap L ∧ ReturnedEndW s o U L k n
theorem own_goW {p : Program} {e : Env} {below : List Frame} {s : State} {QQ : Option Value → Heap → List Loc → Prop} {k n : Nat} {A B : State} (h : ∀ t, Steps p.tables e below B t → Steps p.tables e below A t) (g : own_GoW p e below s QQ k n B) : own_GoW p e below s QQ k n A := by
  obtain ⟨U, o, h1, r⟩ := g
  exact ⟨U, o, h U h1, r⟩
theorem own_retW {p : Program} {l : Launch} {e : Env} {R : Room} {s : State} {vm₁ : Vm} {m : MethodId} {args : Array Value} {below : List Frame} {meth : Method} {c : Code} {T : State} {locs : List Loc} {cells slots : Nat} {QQ : Option Value → Heap → List Loc → Prop} {k n : Nat} {A : State}
    (X : Stand p l e R (s.setVm vm₁) m args below meth c T locs cells slots) {n1 : Nat} (hS : s.Since vm₁ n1) (hn1 : n1 ≤ T.heap.size) {v : Option Value} (hv : meth.sig.returnType = none → v = none) (hlk : meth.locks = false) (hQ : QQ v T.heap locs) (hk : cells ≤ k) (hn : slots ≤ n)
    (st : ∀ fs, (∀ (f : JFrame) (acts : List Action), f.method = m → f.locked = none → f.entered = [] → (doReturn e (T.setTop f) acts v).1 = T.setFrames fs) → Steps p.tables e below A (T.setFrames fs)) : own_GoW p e below s QQ k n A := by
  obtain ⟨fs, hr, hrun, hended, hq⟩ := X.leaveW hS hn1 hv hlk
  exact ⟨_, _, st fs hr, hrun, hended, _, _, rfl, hQ, hq.1, hq.2.1, hq.2.2.1, hq.2.2.2.mono hk hn⟩
/-- an array by what its places hold -/
def own_Ary (Z : State) (h : Heap) (a : Addr) (ty : FieldType) (n : Nat) (f : Nat → Value) : Prop := ∃ c : Cell, Arr Z h a c ty ∧ c.slots.size = n ∧ ∀ j, j < n → c.slots[j]? = some (f j)
def own_set (f : Nat → Value) (i : Nat) (v : Value) : Nat → Value := fun j => if j = i then v else f j
section
variable {Z : State} {h h' : Heap} {a b : Addr} {ty : FieldType} {n : Nat} {f : Nat → Value}
theorem own_Ary.lt (F : own_Ary Z h a ty n f) : a < h.size := by obtain ⟨c, A, -⟩ := F; exact A.lt
theorem own_Ary.ext (F : own_Ary Z h a ty n f) (E : Ext h h') : own_Ary Z h' a ty n f := by obtain ⟨c, A, r⟩ := F; exact ⟨c, A.ext E, r⟩
theorem own_Ary.other {sl : Nat} {v : Value} (F : own_Ary Z h b ty n f) (W : Wr h h' a sl v) (q : b ≠ a) : own_Ary Z h' b ty n f := by obtain ⟨c, A, r⟩ := F; exact ⟨c, A.other W q, r⟩
theorem own_Ary.keep {ws : List Addr} (F : own_Ary Z h a ty n f) (K : Keep h h' ws) (q : a ∉ ws) : own_Ary Z h' a ty n f := by obtain ⟨c, A, r⟩ := F; exact ⟨c, ⟨K.2.1 a c A.1 q, A.2⟩, r⟩
theorem own_Ary.new {k : ClassId} {z : Int32} (A : Arr Z h a (newA k ty z) ty) (hz : z.toNatClampNeg = n) : own_Ary Z h a ty n (fun _ => defaultValue ty) :=
  ⟨_, A, by rw [sz_new]; exact hz, fun j hj => by simp [newA, hz, hj]⟩
theorem own_Ary.set {c : Cell} {i : Nat} {v : Value} (A : Arr Z h a c ty) (S : c.slots.size = n) (G : ∀ j, j < n → c.slots[j]? = some (f j)) (W : Wr h h' a i v) : own_Ary Z h' a ty n (own_set f i v) := by
  refine ⟨_, A.same W, by rw [sz_set]; exact S, fun j hj => ?_⟩
  simp only [Cell.setSlot, Array.getElem?_setIfInBounds, own_set]
  by_cases q : j = i
  · subst q; simp [S, hj]
  · have q' : ¬ i = j := fun z => q z.symm
    simp [q, q', G j hj]
theorem own_Ary.congr {g : Nat → Value} (F : own_Ary Z h a ty n f) (q : ∀ j, j < n → f j = g j) : own_Ary Z h a ty n g := by
  obtain ⟨c, A, S, G⟩ := F; exact ⟨c, A, S, fun j hj => by rw [G j hj, q j hj]⟩
theorem own_sta_keep {C m d : String} {v : Value} (F : Sta Z h C m d v) (K : Keep h h' []) : Sta Z h' C m d v := by
  obtain ⟨cf, i, k, g, st, cell, h1, h2, h3, h4, h5, r⟩ := F
  exact ⟨cf, i, k, g, st, cell, h1, h2, h3, h4, K.2.1 _ _ h5 nin0, r⟩
theorem own_cl {j : Int32} {i : Nat} (q : j.toInt = (i : Int)) : j.toNatClampNeg = i := by
  show j.toInt.toNat = i
  rw [q]; rfl
theorem own_in {c : Cell} {j : Int32} {i : Nat} (S : c.slots.size = n) (q : j.toInt = (i : Int)) (hi : i < n) : ¬ (j < 0 ∨ c.slots.size ≤ j.toNatClampNeg) := by
  rw [own_cl q, S]
  have h0 : (0 : Int32).toInt = 0 := by decide
  intro z
  rcases z with z | z
  · have := Int32.lt_iff_toInt_lt.mp z; omega
  · omega
end
def own_nb (z : Int) : Int32 := if (65 ≤ z ∧ z ≤ 90) ∨ (97 ≤ z ∧ z ≤ 122) ∨ (192 ≤ z ∧ z ≤ 214) ∨ (216 ≤ z ∧ z ≤ 246) ∨ (248 ≤ z ∧ z ≤ 767) ∨ (880 ≤ z ∧ z ≤ 893) ∨ (895 ≤ z ∧ z ≤ 8191) ∨ (8204 ≤ z ∧ z ≤ 8205) ∨ (8304 ≤ z ∧ z ≤ 8591) ∨ (11264 ≤ z ∧ z ≤ 12271) ∨ (12289 ≤ z ∧ z ≤ 55295) ∨ (63744 ≤ z ∧ z ≤ 64975) ∨ (65008 ≤ z ∧ z ≤ 65533) ∨ (65536 ≤ z ∧ z ≤ 983039) then 1 else 0
def own_nm (z : Int) : Int32 := if (45 ≤ z ∧ z ≤ 45) ∨ (48 ≤ z ∧ z ≤ 57) ∨ (65 ≤ z ∧ z ≤ 90) ∨ (95 ≤ z ∧ z ≤ 95) ∨ (97 ≤ z ∧ z ≤ 122) ∨ (183 ≤ z ∧ z ≤ 183) ∨ (192 ≤ z ∧ z ≤ 214) ∨ (216 ≤ z ∧ z ≤ 246) ∨ (248 ≤ z ∧ z ≤ 893) ∨ (895 ≤ z ∧ z ≤ 8191) ∨ (8204 ≤ z ∧ z ≤ 8205) ∨ (8255 ≤ z ∧ z ≤ 8256) ∨ (8304 ≤ z ∧ z ≤ 8591) ∨ (11264 ≤ z ∧ z ≤ 12271) ∨ (12289 ≤ z ∧ z ≤ 55295) ∨ (63744 ≤ z ∧ z ≤ 64975) ∨ (65008 ≤ z ∧ z ≤ 65533) ∨ (65536 ≤ z ∧ z ≤ 983039) then 1 else 0
theorem own_nb0 {z : Int} (h : own_nb z = 0) : ¬ ((65 ≤ z ∧ z ≤ 90) ∨ (97 ≤ z ∧ z ≤ 122) ∨ (192 ≤ z ∧ z ≤ 214) ∨ (216 ≤ z ∧ z ≤ 246) ∨ (248 ≤ z ∧ z ≤ 767) ∨ (880 ≤ z ∧ z ≤ 893) ∨ (895 ≤ z ∧ z ≤ 8191) ∨ (8204 ≤ z ∧ z ≤ 8205) ∨ (8304 ≤ z ∧ z ≤ 8591) ∨ (11264 ≤ z ∧ z ≤ 12271) ∨ (12289 ≤ z ∧ z ≤ 55295) ∨ (63744 ≤ z ∧ z ≤ 64975) ∨ (65008 ≤ z ∧ z ≤ 65533) ∨ (65536 ≤ z ∧ z ≤ 983039)) := by
  intro q; unfold own_nb at h; rw [if_pos q] at h; exact absurd h (by decide)
theorem own_nb1 {z : Int} (h : ¬ own_nb z = 0) : (65 ≤ z ∧ z ≤ 90) ∨ (97 ≤ z ∧ z ≤ 122) ∨ (192 ≤ z ∧ z ≤ 214) ∨ (216 ≤ z ∧ z ≤ 246) ∨ (248 ≤ z ∧ z ≤ 767) ∨ (880 ≤ z ∧ z ≤ 893) ∨ (895 ≤ z ∧ z ≤ 8191) ∨ (8204 ≤ z ∧ z ≤ 8205) ∨ (8304 ≤ z ∧ z ≤ 8591) ∨ (11264 ≤ z ∧ z ≤ 12271) ∨ (12289 ≤ z ∧ z ≤ 55295) ∨ (63744 ≤ z ∧ z ≤ 64975) ∨ (65008 ≤ z ∧ z ≤ 65533) ∨ (65536 ≤ z ∧ z ≤ 983039) := by
  apply Classical.byContradiction; intro q; apply h; unfold own_nb; rw [if_neg q]
def own_io (c lo hi : Int32) : Int32 := if lo.toInt ≤ c.toInt ∧ c.toInt ≤ hi.toInt then 1 else 0
theorem own_io0 {c lo hi : Int32} (h : own_io c lo hi = 0) : ¬ (lo.toInt ≤ c.toInt ∧ c.toInt ≤ hi.toInt) := by
  intro q; unfold own_io at h; rw [if_pos q] at h; exact absurd h (by decide)
theorem own_io1 {c lo hi : Int32} (h : ¬ own_io c lo hi = 0) : lo.toInt ≤ c.toInt ∧ c.toInt ≤ hi.toInt := by
  apply Classical.byContradiction; intro q; apply h; unfold own_io; rw [if_neg q]
def own_is (f : Nat → Value) : Prop := ∀ j, ∃ v : Int32, f j = .int v
theorem own_is0 : own_is (fun _ => (.int (0 : Int32))) := fun _ => ⟨_, rfl⟩
theorem own_is1 {f : Nat → Value} {i : Nat} {v : Int32} (h : own_is f) : own_is (own_set f i (.int v)) := fun j => by
  unfold own_set
  by_cases q : j = i
  · exact ⟨v, if_pos q⟩
  · obtain ⟨u, hu⟩ := h j; exact ⟨u, by rw [if_neg q]; exact hu⟩
theorem pn_0 : plainName "com/example/provfold/provfold/QualifiedName" = true := by first | (simp [plainName, overriddenIn]; done) | decide +kernel
theorem d2_185 : decode prog_38_method_10_code 185 = .ok (.iconst 1, 1) := by decide +kernel
theorem d2_186 : decode prog_38_method_10_code 186 = .ok (.goto 4, 3) := by decide +kernel
theorem d2_190 : decode prog_38_method_10_code 190 = .ok (.ireturn, 1) := by decide +kernel
theorem d2_189 : decode prog_38_method_10_code 189 = .ok (.iconst 0, 1) := by decide +kernel
theorem d2_173 : decode prog_38_method_10_code 173 = .ok (.iload_n 0, 1) := by decide +kernel
theorem d2_174 : decode prog_38_method_10_code 174 = .ok (.ldc 106, 2) := by decide +kernel
theorem d2_176 : decode prog_38_method_10_code 176 = .ok (.if_icmp .lt 13, 3) := by decide +kernel
theorem d2_179 : decode prog_38_method_10_code 179 = .ok (.iload_n 0, 1) := by decide +kernel
theorem d2_180 : decode prog_38_method_10_code 180 = .ok (.ldc 107, 2) := by decide +kernel
theorem d2_182 : decode prog_38_method_10_code 182 = .ok (.if_icmp .gt 7, 3) := by decide +kernel
theorem d2_161 : decode prog_38_method_10_code 161 = .ok (.iload_n 0, 1) := by decide +kernel
theorem d2_162 : decode prog_38_method_10_code 162 = .ok (.ldc 104, 2) := by decide +kernel
theorem d2_164 : decode prog_38_method_10_code 164 = .ok (.if_icmp .lt 9, 3) := by decide +kernel
theorem d2_167 : decode prog_38_method_10_code 167 = .ok (.iload_n 0, 1) := by decide +kernel
theorem d2_168 : decode prog_38_method_10_code 168 = .ok (.ldc 105, 2) := by decide +kernel
theorem d2_170 : decode prog_38_method_10_code 170 = .ok (.if_icmp .le 15, 3) := by decide +kernel
theorem d2_149 : decode prog_38_method_10_code 149 = .ok (.iload_n 0, 1) := by decide +kernel
theorem d2_150 : decode prog_38_method_10_code 150 = .ok (.ldc 102, 2) := by decide +kernel
theorem d2_152 : decode prog_38_method_10_code 152 = .ok (.if_icmp .lt 9, 3) := by decide +kernel
theorem d2_155 : decode prog_38_method_10_code 155 = .ok (.iload_n 0, 1) := by decide +kernel
theorem d2_156 : decode prog_38_method_10_code 156 = .ok (.ldc 103, 2) := by decide +kernel
theorem d2_158 : decode prog_38_method_10_code 158 = .ok (.if_icmp .le 27, 3) := by decide +kernel
theorem d2_136 : decode prog_38_method_10_code 136 = .ok (.iload_n 0, 1) := by decide +kernel
theorem d2_137 : decode prog_38_method_10_code 137 = .ok (.sipush 12289, 3) := by decide +kernel
theorem d2_140 : decode prog_38_method_10_code 140 = .ok (.if_icmp .lt 9, 3) := by decide +kernel
theorem d2_143 : decode prog_38_method_10_code 143 = .ok (.iload_n 0, 1) := by decide +kernel
theorem d2_144 : decode prog_38_method_10_code 144 = .ok (.ldc 101, 2) := by decide +kernel
theorem d2_146 : decode prog_38_method_10_code 146 = .ok (.if_icmp .le 39, 3) := by decide +kernel
theorem d2_122 : decode prog_38_method_10_code 122 = .ok (.iload_n 0, 1) := by decide +kernel
theorem d2_123 : decode prog_38_method_10_code 123 = .ok (.sipush 11264, 3) := by decide +kernel
theorem d2_126 : decode prog_38_method_10_code 126 = .ok (.if_icmp .lt 10, 3) := by decide +kernel
theorem d2_129 : decode prog_38_method_10_code 129 = .ok (.iload_n 0, 1) := by decide +kernel
theorem d2_130 : decode prog_38_method_10_code 130 = .ok (.sipush 12271, 3) := by decide +kernel
theorem d2_133 : decode prog_38_method_10_code 133 = .ok (.if_icmp .le 52, 3) := by decide +kernel
theorem d2_108 : decode prog_38_method_10_code 108 = .ok (.iload_n 0, 1) := by decide +kernel
theorem d2_109 : decode prog_38_method_10_code 109 = .ok (.sipush 8304, 3) := by decide +kernel
theorem d2_112 : decode prog_38_method_10_code 112 = .ok (.if_icmp .lt 10, 3) := by decide +kernel
theorem d2_115 : decode prog_38_method_10_code 115 = .ok (.iload_n 0, 1) := by decide +kernel
theorem d2_116 : decode prog_38_method_10_code 116 = .ok (.sipush 8591, 3) := by decide +kernel
theorem d2_119 : decode prog_38_method_10_code 119 = .ok (.if_icmp .le 66, 3) := by decide +kernel
theorem d2_94 : decode prog_38_method_10_code 94 = .ok (.iload_n 0, 1) := by decide +kernel
theorem d2_95 : decode prog_38_method_10_code 95 = .ok (.sipush 8204, 3) := by decide +kernel
theorem d2_98 : decode prog_38_method_10_code 98 = .ok (.if_icmp .lt 10, 3) := by decide +kernel
theorem d2_101 : decode prog_38_method_10_code 101 = .ok (.iload_n 0, 1) := by decide +kernel
theorem d2_102 : decode prog_38_method_10_code 102 = .ok (.sipush 8205, 3) := by decide +kernel
theorem d2_105 : decode prog_38_method_10_code 105 = .ok (.if_icmp .le 80, 3) := by decide +kernel
theorem d2_80 : decode prog_38_method_10_code 80 = .ok (.iload_n 0, 1) := by decide +kernel
theorem d2_81 : decode prog_38_method_10_code 81 = .ok (.sipush 895, 3) := by decide +kernel
theorem d2_84 : decode prog_38_method_10_code 84 = .ok (.if_icmp .lt 10, 3) := by decide +kernel
theorem d2_87 : decode prog_38_method_10_code 87 = .ok (.iload_n 0, 1) := by decide +kernel
theorem d2_88 : decode prog_38_method_10_code 88 = .ok (.sipush 8191, 3) := by decide +kernel
theorem d2_91 : decode prog_38_method_10_code 91 = .ok (.if_icmp .le 94, 3) := by decide +kernel
theorem d2_66 : decode prog_38_method_10_code 66 = .ok (.iload_n 0, 1) := by decide +kernel
theorem d2_67 : decode prog_38_method_10_code 67 = .ok (.sipush 880, 3) := by decide +kernel
theorem d2_70 : decode prog_38_method_10_code 70 = .ok (.if_icmp .lt 10, 3) := by decide +kernel
theorem d2_73 : decode prog_38_method_10_code 73 = .ok (.iload_n 0, 1) := by decide +kernel
theorem d2_74 : decode prog_38_method_10_code 74 = .ok (.sipush 893, 3) := by decide +kernel
theorem d2_77 : decode prog_38_method_10_code 77 = .ok (.if_icmp .le 108, 3) := by decide +kernel
theorem d2_52 : decode prog_38_method_10_code 52 = .ok (.iload_n 0, 1) := by decide +kernel
theorem d2_53 : decode prog_38_method_10_code 53 = .ok (.sipush 248, 3) := by decide +kernel
theorem d2_56 : decode prog_38_method_10_code 56 = .ok (.if_icmp .lt 10, 3) := by decide +kernel
theorem d2_59 : decode prog_38_method_10_code 59 = .ok (.iload_n 0, 1) := by decide +kernel
theorem d2_60 : decode prog_38_method_10_code 60 = .ok (.sipush 767, 3) := by decide +kernel
theorem d2_63 : decode prog_38_method_10_code 63 = .ok (.if_icmp .le 122, 3) := by decide +kernel
theorem d2_38 : decode prog_38_method_10_code 38 = .ok (.iload_n 0, 1) := by decide +kernel
theorem d2_39 : decode prog_38_method_10_code 39 = .ok (.sipush 216, 3) := by decide +kernel
theorem d2_42 : decode prog_38_method_10_code 42 = .ok (.if_icmp .lt 10, 3) := by decide +kernel
theorem d2_45 : decode prog_38_method_10_code 45 = .ok (.iload_n 0, 1) := by decide +kernel
theorem d2_46 : decode prog_38_method_10_code 46 = .ok (.sipush 246, 3) := by decide +kernel
theorem d2_49 : decode prog_38_method_10_code 49 = .ok (.if_icmp .le 136, 3) := by decide +kernel
theorem d2_24 : decode prog_38_method_10_code 24 = .ok (.iload_n 0, 1) := by decide +kernel
theorem d2_25 : decode prog_38_method_10_code 25 = .ok (.sipush 192, 3) := by decide +kernel
theorem d2_28 : decode prog_38_method_10_code 28 = .ok (.if_icmp .lt 10, 3) := by decide +kernel
theorem d2_31 : decode prog_38_method_10_code 31 = .ok (.iload_n 0, 1) := by decide +kernel
theorem d2_32 : decode prog_38_method_10_code 32 = .ok (.sipush 214, 3) := by decide +kernel
theorem d2_35 : decode prog_38_method_10_code 35 = .ok (.if_icmp .le 150, 3) := by decide +kernel
theorem d2_12 : decode prog_38_method_10_code 12 = .ok (.iload_n 0, 1) := by decide +kernel
theorem d2_13 : decode prog_38_method_10_code 13 = .ok (.bipush 97, 2) := by decide +kernel
theorem d2_15 : decode prog_38_method_10_code 15 = .ok (.if_icmp .lt 9, 3) := by decide +kernel
theorem d2_18 : decode prog_38_method_10_code 18 = .ok (.iload_n 0, 1) := by decide +kernel
theorem d2_19 : decode prog_38_method_10_code 19 = .ok (.bipush 122, 2) := by decide +kernel
theorem d2_21 : decode prog_38_method_10_code 21 = .ok (.if_icmp .le 164, 3) := by decide +kernel
theorem d2_0 : decode prog_38_method_10_code 0 = .ok (.iload_n 0, 1) := by decide +kernel
theorem d2_1 : decode prog_38_method_10_code 1 = .ok (.bipush 65, 2) := by decide +kernel
theorem d2_3 : decode prog_38_method_10_code 3 = .ok (.if_icmp .lt 9, 3) := by decide +kernel
theorem d2_6 : decode prog_38_method_10_code 6 = .ok (.iload_n 0, 1) := by decide +kernel
theorem d2_7 : decode prog_38_method_10_code 7 = .ok (.bipush 90, 2) := by decide +kernel
theorem d2_9 : decode prog_38_method_10_code 9 = .ok (.if_icmp .le 176, 3) := by decide +kernel
theorem ef_2 (m : MethodId) (p0 : Int32) : entryFrame m #[(.int p0)] 1 = mkF m 0 #[.val (.int p0)] [] := by first | (simp [entryFrame, mkF, argsToLocals, Value.category]; done) | rfl
def Q2 (Z : State) (p0 : Int32) (h0 : Heap) (n0 : Nat) (v : Option Value) (h : Heap) (L : List Loc) : Prop := v = some (.int (own_nb p0.toInt)) ∧ Fr n0 L ∧ h = h0
set_option maxRecDepth 65536 in
set_option maxHeartbeats 40000000 in
theorem rm2 (l : Launch) (Z : State) (a0 : Array Value) (hw : ∀ d ∈ tables_1, d.before a0 Z = true) (ws : List Jvm.Cond) (p0 : Int32) (h0 : Heap) (n0 : Nat) (Z0 : n0 ≤ h0.size) :
    MetFree l (⟨"com/example/provfold/provfold/QualifiedName", "isNameBase", "(I)Z"⟩ : MethodName) (head1 (Jvm.Cond.code (⟨"com/example/provfold/provfold/QualifiedName", "isNameBase", "(I)Z"⟩ : MethodName) prog_38_method_10_code 1 (some .boolean) :: ws) ({ frames := 0, cells := 0, slots := 0, locals := 0 } : Room)) (fun a U => a = #[(.int p0)] ∧ Z.Warmed39 U.vm ∧ U.heap = h0) (fun _ _ _ _ _ => True) (fun _ U o U' => ∃ v L, o = .returned v ∧ Q2 Z p0 h0 n0 v U'.heap L ∧ FrameEnd U o U' L (({ frames := 0, cells := 0, slots := 0, locals := 0 } : Room)).cells (({ frames := 0, cells := 0, slots := 0, locals := 0 } : Room)).slots) := by
  refine MetFree.of_bodySF (plainFor_of_name pn_0) hisR ?_
  intro p e s m args below meth c s₁ Bd hml0 hP hK
  obtain ⟨rfl, hZ, hh⟩ := hP
  have hx := Bd.exec
  have hby := Bd.bytes
  have hml : c.maxLocals = 1 := hml0
  have hown : s.vm.findClass "com/example/provfold/provfold/QualifiedName" = some m.cls := findClass_of_methodNamed Bd.named
  have hnm := (name_of_methodNamed Bd.named Bd.method).1
  have hlk : meth.locks = false := Bd.notSynchronized
  have X0 : Stand p l e ({ frames := 0, cells := 0, slots := 0, locals := 0 } : Room) s m #[(.int p0)] below meth c s₁ [] 0 0 := Stand.of_body Bd
  have e0 : s₁.heap = h0 := by rw [← hh, Bd.state]; rfl
  have N0 := Fr.nil n0
  have hret := Bd.returns
  show own_Go p e below s (Q2 Z p0 h0 n0) _ _ (s₁.setTop (entryFrame m #[(.int p0)] 1))
  refine own_go (fun t k => castTop (ef_2 m p0) k) ?_
  show own_Go p e below s _ _ _ (s₁.setTop (mkF m 0 #[.val (.int p0)] []))
  have J185 : ∀ (T1 : State) (locs1 : List Loc) (X1 : Stand p l e ({ frames := 0, cells := 0, slots := 0, locals := 0 } : Room) s m #[(.int p0)] below meth c T1 locs1 0 0) (e1 : T1.heap = h0) (N1 : Fr n0 locs1) (hq : own_nb p0.toInt = 1), own_Go p e below s (Q2 Z p0 h0 n0) (({ frames := 0, cells := 0, slots := 0, locals := 0 } : Room)).cells (({ frames := 0, cells := 0, slots := 0, locals := 0 } : Room)).slots (T1.setTop (mkF m 185 #[.val (.int p0)] [])) := by
    intro T1 locs1 X1 e1 N1 hq
    refine own_go (fun t_ kt_ => XS.iconst X1.here hx rfl (hb hby d2_185) kt_) ?_
    show own_Go p e below s _ _ _ (T1.setTop (mkF m 186 #[.val (.int p0)] [(.int (1 : Int32))]))
    refine own_go (fun t_ kt_ => XS.goto X1.here hx rfl (pc0 := 186) (pc' := 190) rfl (hb hby d2_186) (by decide) (by decide) kt_) ?_
    show own_Go p e below s _ _ _ (T1.setTop (mkF m 190 #[.val (.int p0)] [(.int (1 : Int32))]))
    refine own_ret X1 (v := some (.int (1 : Int32))) (fun h => by rw [hret] at h; cases h) hlk ?_ (by decide) (by decide) (fun fs hr => retN X1 hx (t := .boolean) hret (by simp) (hb hby d2_190) hr)
    show Q2 Z p0 h0 n0 (some (.int (1 : Int32))) T1.heap _
    rw [e1]
    exact ⟨congrArg (fun z => some (Value.int z)) hq.symm, N1, rfl⟩
  have J189 : ∀ (T2 : State) (locs2 : List Loc) (X2 : Stand p l e ({ frames := 0, cells := 0, slots := 0, locals := 0 } : Room) s m #[(.int p0)] below meth c T2 locs2 0 0) (e2 : T2.heap = h0) (N2 : Fr n0 locs2) (hq : own_nb p0.toInt = 0), own_Go p e below s (Q2 Z p0 h0 n0) (({ frames := 0, cells := 0, slots := 0, locals := 0 } : Room)).cells (({ frames := 0, cells := 0, slots := 0, locals := 0 } : Room)).slots (T2.setTop (mkF m 189 #[.val (.int p0)] [])) := by
    intro T2 locs2 X2 e2 N2 hq
    refine own_go (fun t_ kt_ => XS.iconst X2.here hx rfl (hb hby d2_189) kt_) ?_
    show own_Go p e below s _ _ _ (T2.setTop (mkF m 190 #[.val (.int p0)] [(.int (0 : Int32))]))
    refine own_ret X2 (v := some (.int (0 : Int32))) (fun h => by rw [hret] at h; cases h) hlk ?_ (by decide) (by decide) (fun fs hr => retN X2 hx (t := .boolean) hret (by simp) (hb hby d2_190) hr)
    show Q2 Z p0 h0 n0 (some (.int (0 : Int32))) T2.heap _
    rw [e2]
    exact ⟨congrArg (fun z => some (Value.int z)) hq.symm, N2, rfl⟩
  have J173 : ∀ (T3 : State) (locs3 : List Loc) (X3 : Stand p l e ({ frames := 0, cells := 0, slots := 0, locals := 0 } : Room) s m #[(.int p0)] below meth c T3 locs3 0 0) (e3 : T3.heap = h0) (N3 : Fr n0 locs3) (hq : ¬ (65 ≤ p0.toInt ∧ p0.toInt ≤ 90) ∧ ¬ (97 ≤ p0.toInt ∧ p0.toInt ≤ 122) ∧ ¬ (192 ≤ p0.toInt ∧ p0.toInt ≤ 214) ∧ ¬ (216 ≤ p0.toInt ∧ p0.toInt ≤ 246) ∧ ¬ (248 ≤ p0.toInt ∧ p0.toInt ≤ 767) ∧ ¬ (880 ≤ p0.toInt ∧ p0.toInt ≤ 893) ∧ ¬ (895 ≤ p0.toInt ∧ p0.toInt ≤ 8191) ∧ ¬ (8204 ≤ p0.toInt ∧ p0.toInt ≤ 8205) ∧ ¬ (8304 ≤ p0.toInt ∧ p0.toInt ≤ 8591) ∧ ¬ (11264 ≤ p0.toInt ∧ p0.toInt ≤ 12271) ∧ ¬ (12289 ≤ p0.toInt ∧ p0.toInt ≤ 55295) ∧ ¬ (63744 ≤ p0.toInt ∧ p0.toInt ≤ 64975) ∧ ¬ (65008 ≤ p0.toInt ∧ p0.toInt ≤ 65533)), own_Go p e below s (Q2 Z p0 h0 n0) (({ frames := 0, cells := 0, slots := 0, locals := 0 } : Room)).cells (({ frames := 0, cells := 0, slots := 0, locals := 0 } : Room)).slots (T3.setTop (mkF m 173 #[.val (.int p0)] [])) := by
    intro T3 locs3 X3 e3 N3 hq
    refine own_go (fun t_ kt_ => XS.iloadN X3.here hx rfl (hb hby d2_173) rfl kt_) ?_
    show own_Go p e below s _ _ _ (T3.setTop (mkF m 174 #[.val (.int p0)] [(.int p0)]))
    refine own_go (fun t_ kt_ => X3.ldcInt hx hown (mvT hZ (hw _ (List.mem_of_getElem? (i := 18) rfl))) (g := (mkF m 174 #[.val (.int p0)] [(.int p0)])) rfl (hb hby d2_174) _ kt_) ?_
    show own_Go p e below s _ _ _ (T3.setTop (mkF m 176 #[.val (.int p0)] [(.int (65536 : Int32)), (.int p0)]))
    by_cases hc176 : p0 < (65536 : Int32)
    · skip
      have hi176 : p0.toInt < 65536 := Int32.lt_iff_toInt_lt.mp hc176
      refine own_go (fun t_ kt_ => XS.icmpYes X3.here hx rfl (pc0 := 176) (pc' := 189) rfl (hb hby d2_176) rfl (tlt hc176).1 (by decide) (by decide) kt_) ?_
      show own_Go p e below s _ _ _ (T3.setTop (mkF m 189 #[.val (.int p0)] []))
      exact J189 T3 _ X3 e3 N3   (by unfold own_nb; rw [if_neg (by omega)])
    · skip
      have hi176 : ¬ p0.toInt < 65536 := fun q => hc176 (Int32.lt_iff_toInt_lt.mpr q)
      refine own_go (fun t_ kt_ => XS.icmpNo X3.here hx rfl (hb hby d2_176) rfl (flt hc176).1 kt_) ?_
      show own_Go p e below s _ _ _ (T3.setTop (mkF m 179 #[.val (.int p0)] []))
      refine own_go (fun t_ kt_ => XS.iloadN X3.here hx rfl (hb hby d2_179) rfl kt_) ?_
      show own_Go p e below s _ _ _ (T3.setTop (mkF m 180 #[.val (.int p0)] [(.int p0)]))
      refine own_go (fun t_ kt_ => X3.ldcInt hx hown (mvT hZ (hw _ (List.mem_of_getElem? (i := 29) rfl))) (g := (mkF m 180 #[.val (.int p0)] [(.int p0)])) rfl (hb hby d2_180) _ kt_) ?_
      show own_Go p e below s _ _ _ (T3.setTop (mkF m 182 #[.val (.int p0)] [(.int (983039 : Int32)), (.int p0)]))
      by_cases hc182 : (983039 : Int32) < p0
      · skip
        have hi182 : 983039 < p0.toInt := Int32.lt_iff_toInt_lt.mp hc182
        refine own_go (fun t_ kt_ => XS.icmpYes X3.here hx rfl (pc0 := 182) (pc' := 189) rfl (hb hby d2_182) rfl (tlt hc182).2.2.1 (by decide) (by decide) kt_) ?_
        show own_Go p e below s _ _ _ (T3.setTop (mkF m 189 #[.val (.int p0)] []))
        exact J189 T3 _ X3 e3 N3   (by unfold own_nb; rw [if_neg (by omega)])
      · skip
        have hi182 : ¬ 983039 < p0.toInt := fun q => hc182 (Int32.lt_iff_toInt_lt.mpr q)
        refine own_go (fun t_ kt_ => XS.icmpNo X3.here hx rfl (hb hby d2_182) rfl (flt hc182).2.2.1 kt_) ?_
        show own_Go p e below s _ _ _ (T3.setTop (mkF m 185 #[.val (.int p0)] []))
        exact J185 T3 _ X3 e3 N3   (by unfold own_nb; rw [if_pos (by omega)])
  have J161 : ∀ (T4 : State) (locs4 : List Loc) (X4 : Stand p l e ({ frames := 0, cells := 0, slots := 0, locals := 0 } : Room) s m #[(.int p0)] below meth c T4 locs4 0 0) (e4 : T4.heap = h0) (N4 : Fr n0 locs4) (hq : ¬ (65 ≤ p0.toInt ∧ p0.toInt ≤ 90) ∧ ¬ (97 ≤ p0.toInt ∧ p0.toInt ≤ 122) ∧ ¬ (192 ≤ p0.toInt ∧ p0.toInt ≤ 214) ∧ ¬ (216 ≤ p0.toInt ∧ p0.toInt ≤ 246) ∧ ¬ (248 ≤ p0.toInt ∧ p0.toInt ≤ 767) ∧ ¬ (880 ≤ p0.toInt ∧ p0.toInt ≤ 893) ∧ ¬ (895 ≤ p0.toInt ∧ p0.toInt ≤ 8191) ∧ ¬ (8204 ≤ p0.toInt ∧ p0.toInt ≤ 8205) ∧ ¬ (8304 ≤ p0.toInt ∧ p0.toInt ≤ 8591) ∧ ¬ (11264 ≤ p0.toInt ∧ p0.toInt ≤ 12271) ∧ ¬ (12289 ≤ p0.toInt ∧ p0.toInt ≤ 55295) ∧ ¬ (63744 ≤ p0.toInt ∧ p0.toInt ≤ 64975)), own_Go p e below s (Q2 Z p0 h0 n0) (({ frames := 0, cells := 0, slots := 0, locals := 0 } : Room)).cells (({ frames := 0, cells := 0, slots := 0, locals := 0 } : Room)).slots (T4.setTop (mkF m 161 #[.val (.int p0)] [])) := by
    intro T4 locs4 X4 e4 N4 hq
    refine own_go (fun t_ kt_ => XS.iloadN X4.here hx rfl (hb hby d2_161) rfl kt_) ?_
    show own_Go p e below s _ _ _ (T4.setTop (mkF m 162 #[.val (.int p0)] [(.int p0)]))
    refine own_go (fun t_ kt_ => X4.ldcInt hx hown (mvT hZ (hw _ (List.mem_of_getElem? (i := 17) rfl))) (g := (mkF m 162 #[.val (.int p0)] [(.int p0)])) rfl (hb hby d2_162) _ kt_) ?_
    show own_Go p e below s _ _ _ (T4.setTop (mkF m 164 #[.val (.int p0)] [(.int (65008 : Int32)), (.int p0)]))
    by_cases hc164 : p0 < (65008 : Int32)
    · skip
      have hi164 : p0.toInt < 65008 := Int32.lt_iff_toInt_lt.mp hc164
      refine own_go (fun t_ kt_ => XS.icmpYes X4.here hx rfl (pc0 := 164) (pc' := 173) rfl (hb hby d2_164) rfl (tlt hc164).1 (by decide) (by decide) kt_) ?_
      show own_Go p e below s _ _ _ (T4.setTop (mkF m 173 #[.val (.int p0)] []))
      exact J173 T4 _ X4 e4 N4   (by omega)
    · skip
      have hi164 : ¬ p0.toInt < 65008 := fun q => hc164 (Int32.lt_iff_toInt_lt.mpr q)
      refine own_go (fun t_ kt_ => XS.icmpNo X4.here hx rfl (hb hby d2_164) rfl (flt hc164).1 kt_) ?_
      show own_Go p e below s _ _ _ (T4.setTop (mkF m 167 #[.val (.int p0)] []))
      refine own_go (fun t_ kt_ => XS.iloadN X4.here hx rfl (hb hby d2_167) rfl kt_) ?_
      show own_Go p e below s _ _ _ (T4.setTop (mkF m 168 #[.val (.int p0)] [(.int p0)]))
      refine own_go (fun t_ kt_ => X4.ldcInt hx hown (mvT hZ (hw _ (List.mem_of_getElem? (i := 28) rfl))) (g := (mkF m 168 #[.val (.int p0)] [(.int p0)])) rfl (hb hby d2_168) _ kt_) ?_
      show own_Go p e below s _ _ _ (T4.setTop (mkF m 170 #[.val (.int p0)] [(.int (65533 : Int32)), (.int p0)]))
      by_cases hc170 : (65533 : Int32) < p0
      · skip
        have hi170 : 65533 < p0.toInt := Int32.lt_iff_toInt_lt.mp hc170
        refine own_go (fun t_ kt_ => XS.icmpNo X4.here hx rfl (hb hby d2_170) rfl (tlt hc170).2.2.2 kt_) ?_
        show own_Go p e below s _ _ _ (T4.setTop (mkF m 173 #[.val (.int p0)] []))
        exact J173 T4 _ X4 e4 N4   (by omega)
      · skip
        have hi170 : ¬ 65533 < p0.toInt := fun q => hc170 (Int32.lt_iff_toInt_lt.mpr q)
        refine own_go (fun t_ kt_ => XS.icmpYes X4.here hx rfl (pc0 := 170) (pc' := 185) rfl (hb hby d2_170) rfl (flt hc170).2.2.2 (by decide) (by decide) kt_) ?_
        show own_Go p e below s _ _ _ (T4.setTop (mkF m 185 #[.val (.int p0)] []))
        exact J185 T4 _ X4 e4 N4   (by unfold own_nb; rw [if_pos (by omega)])
  have J149 : ∀ (T5 : State) (locs5 : List Loc) (X5 : Stand p l e ({ frames := 0, cells := 0, slots := 0, locals := 0 } : Room) s m #[(.int p0)] below meth c T5 locs5 0 0) (e5 : T5.heap = h0) (N5 : Fr n0 locs5) (hq : ¬ (65 ≤ p0.toInt ∧ p0.toInt ≤ 90) ∧ ¬ (97 ≤ p0.toInt ∧ p0.toInt ≤ 122) ∧ ¬ (192 ≤ p0.toInt ∧ p0.toInt ≤ 214) ∧ ¬ (216 ≤ p0.toInt ∧ p0.toInt ≤ 246) ∧ ¬ (248 ≤ p0.toInt ∧ p0.toInt ≤ 767) ∧ ¬ (880 ≤ p0.toInt ∧ p0.toInt ≤ 893) ∧ ¬ (895 ≤ p0.toInt ∧ p0.toInt ≤ 8191) ∧ ¬ (8204 ≤ p0.toInt ∧ p0.toInt ≤ 8205) ∧ ¬ (8304 ≤ p0.toInt ∧ p0.toInt ≤ 8591) ∧ ¬ (11264 ≤ p0.toInt ∧ p0.toInt ≤ 12271) ∧ ¬ (12289 ≤ p0.toInt ∧ p0.toInt ≤ 55295)), own_Go p e below s (Q2 Z p0 h0 n0) (({ frames := 0, cells := 0, slots := 0, locals := 0 } : Room)).cells (({ frames := 0, cells := 0, slots := 0, locals := 0 } : Room)).slots (T5.setTop (mkF m 149 #[.val (.int p0)] [])) := by
    intro T5 locs5 X5 e5 N5 hq
    refine own_go (fun t_ kt_ => XS.iloadN X5.here hx rfl (hb hby d2_149) rfl kt_) ?_
    show own_Go p e below s _ _ _ (T5.setTop (mkF m 150 #[.val (.int p0)] [(.int p0)]))
    refine own_go (fun t_ kt_ => X5.ldcInt hx hown (mvT hZ (hw _ (List.mem_of_getElem? (i := 16) rfl))) (g := (mkF m 150 #[.val (.int p0)] [(.int p0)])) rfl (hb hby d2_150) _ kt_) ?_
    show own_Go p e below s _ _ _ (T5.setTop (mkF m 152 #[.val (.int p0)] [(.int (63744 : Int32)), (.int p0)]))
    by_cases hc152 : p0 < (63744 : Int32)
    · skip
      have hi152 : p0.toInt < 63744 := Int32.lt_iff_toInt_lt.mp hc152
      refine own_go (fun t_ kt_ => XS.icmpYes X5.here hx rfl (pc0 := 152) (pc' := 161) rfl (hb hby d2_152) rfl (tlt hc152).1 (by decide) (by decide) kt_) ?_
      show own_Go p e below s _ _ _ (T5.setTop (mkF m 161 #[.val (.int p0)] []))
      exact J161 T5 _ X5 e5 N5   (by omega)
    · skip
      have hi152 : ¬ p0.toInt < 63744 := fun q => hc152 (Int32.lt_iff_toInt_lt.mpr q)
      refine own_go (fun t_ kt_ => XS.icmpNo X5.here hx rfl (hb hby d2_152) rfl (flt hc152).1 kt_) ?_
      show own_Go p e below s _ _ _ (T5.setTop (mkF m 155 #[.val (.int p0)] []))
      refine own_go (fun t_ kt_ => XS.iloadN X5.here hx rfl (hb hby d2_155) rfl kt_) ?_
      show own_Go p e below s _ _ _ (T5.setTop (mkF m 156 #[.val (.int p0)] [(.int p0)]))
      refine own_go (fun t_ kt_ => X5.ldcInt hx hown (mvT hZ (hw _ (List.mem_of_getElem? (i := 27) rfl))) (g := (mkF m 156 #[.val (.int p0)] [(.int p0)])) rfl (hb hby d2_156) _ kt_) ?_
      show own_Go p e below s _ _ _ (T5.setTop (mkF m 158 #[.val (.int p0)] [(.int (64975 : Int32)), (.int p0)]))
      by_cases hc158 : (64975 : Int32) < p0
      · skip
        have hi158 : 64975 < p0.toInt := Int32.lt_iff_toInt_lt.mp hc158
        refine own_go (fun t_ kt_ => XS.icmpNo X5.here hx rfl (hb hby d2_158) rfl (tlt hc158).2.2.2 kt_) ?_
        show own_Go p e below s _ _ _ (T5.setTop (mkF m 161 #[.val (.int p0)] []))
        exact J161 T5 _ X5 e5 N5   (by omega)
      · skip
        have hi158 : ¬ 64975 < p0.toInt := fun q => hc158 (Int32.lt_iff_toInt_lt.mpr q)
        refine own_go (fun t_ kt_ => XS.icmpYes X5.here hx rfl (pc0 := 158) (pc' := 185) rfl (hb hby d2_158) rfl (flt hc158).2.2.2 (by decide) (by decide) kt_) ?_
        show own_Go p e below s _ _ _ (T5.setTop (mkF m 185 #[.val (.int p0)] []))
        exact J185 T5 _ X5 e5 N5   (by unfold own_nb; rw [if_pos (by omega)])
  have J136 : ∀ (T6 : State) (locs6 : List Loc) (X6 : Stand p l e ({ frames := 0, cells := 0, slots := 0, locals := 0 } : Room) s m #[(.int p0)] below meth c T6 locs6 0 0) (e6 : T6.heap = h0) (N6 : Fr n0 locs6) (hq : ¬ (65 ≤ p0.toInt ∧ p0.toInt ≤ 90) ∧ ¬ (97 ≤ p0.toInt ∧ p0.toInt ≤ 122) ∧ ¬ (192 ≤ p0.toInt ∧ p0.toInt ≤ 214) ∧ ¬ (216 ≤ p0.toInt ∧ p0.toInt ≤ 246) ∧ ¬ (248 ≤ p0.toInt ∧ p0.toInt ≤ 767) ∧ ¬ (880 ≤ p0.toInt ∧ p0.toInt ≤ 893) ∧ ¬ (895 ≤ p0.toInt ∧ p0.toInt ≤ 8191) ∧ ¬ (8204 ≤ p0.toInt ∧ p0.toInt ≤ 8205) ∧ ¬ (8304 ≤ p0.toInt ∧ p0.toInt ≤ 8591) ∧ ¬ (11264 ≤ p0.toInt ∧ p0.toInt ≤ 12271)), own_Go p e below s (Q2 Z p0 h0 n0) (({ frames := 0, cells := 0, slots := 0, locals := 0 } : Room)).cells (({ frames := 0, cells := 0, slots := 0, locals := 0 } : Room)).slots (T6.setTop (mkF m 136 #[.val (.int p0)] [])) := by
    intro T6 locs6 X6 e6 N6 hq
    refine own_go (fun t_ kt_ => XS.iloadN X6.here hx rfl (hb hby d2_136) rfl kt_) ?_
    show own_Go p e below s _ _ _ (T6.setTop (mkF m 137 #[.val (.int p0)] [(.int p0)]))
    refine own_go (fun t_ kt_ => XS.sipush X6.here hx rfl (hb hby d2_137) kt_) ?_
    show own_Go p e below s _ _ _ (T6.setTop (mkF m 140 #[.val (.int p0)] [(.int (12289 : Int32)), (.int p0)]))
    by_cases hc140 : p0 < (12289 : Int32)
    · skip
      have hi140 : p0.toInt < 12289 := Int32.lt_iff_toInt_lt.mp hc140
      refine own_go (fun t_ kt_ => XS.icmpYes X6.here hx rfl (pc0 := 140) (pc' := 149) rfl (hb hby d2_140) rfl (tlt hc140).1 (by decide) (by decide) kt_) ?_
      show own_Go p e below s _ _ _ (T6.setTop (mkF m 149 #[.val (.int p0)] []))
      exact J149 T6 _ X6 e6 N6   (by omega)
    · skip
      have hi140 : ¬ p0.toInt < 12289 := fun q => hc140 (Int32.lt_iff_toInt_lt.mpr q)
      refine own_go (fun t_ kt_ => XS.icmpNo X6.here hx rfl (hb hby d2_140) rfl (flt hc140).1 kt_) ?_
      show own_Go p e below s _ _ _ (T6.setTop (mkF m 143 #[.val (.int p0)] []))
      refine own_go (fun t_ kt_ => XS.iloadN X6.here hx rfl (hb hby d2_143) rfl kt_) ?_
      show own_Go p e below s _ _ _ (T6.setTop (mkF m 144 #[.val (.int p0)] [(.int p0)]))
      refine own_go (fun t_ kt_ => X6.ldcInt hx hown (mvT hZ (hw _ (List.mem_of_getElem? (i := 26) rfl))) (g := (mkF m 144 #[.val (.int p0)] [(.int p0)])) rfl (hb hby d2_144) _ kt_) ?_
      show own_Go p e below s _ _ _ (T6.setTop (mkF m 146 #[.val (.int p0)] [(.int (55295 : Int32)), (.int p0)]))
      by_cases hc146 : (55295 : Int32) < p0
      · skip
        have hi146 : 55295 < p0.toInt := Int32.lt_iff_toInt_lt.mp hc146
        refine own_go (fun t_ kt_ => XS.icmpNo X6.here hx rfl (hb hby d2_146) rfl (tlt hc146).2.2.2 kt_) ?_
        show own_Go p e below s _ _ _ (T6.setTop (mkF m 149 #[.val (.int p0)] []))
        exact J149 T6 _ X6 e6 N6   (by omega)
      · skip
        have hi146 : ¬ 55295 < p0.toInt := fun q => hc146 (Int32.lt_iff_toInt_lt.mpr q)
        refine own_go (fun t_ kt_ => XS.icmpYes X6.here hx rfl (pc0 := 146) (pc' := 185) rfl (hb hby d2_146) rfl (flt hc146).2.2.2 (by decide) (by decide) kt_) ?_
        show own_Go p e below s _ _ _ (T6.setTop (mkF m 185 #[.val (.int p0)] []))
        exact J185 T6 _ X6 e6 N6   (by unfold own_nb; rw [if_pos (by omega)])
  have J122 : ∀ (T7 : State) (locs7 : List Loc) (X7 : Stand p l e ({ frames := 0, cells := 0, slots := 0, locals := 0 } : Room) s m #[(.int p0)] below meth c T7 locs7 0 0) (e7 : T7.heap = h0) (N7 : Fr n0 locs7) (hq : ¬ (65 ≤ p0.toInt ∧ p0.toInt ≤ 90) ∧ ¬ (97 ≤ p0.toInt ∧ p0.toInt ≤ 122) ∧ ¬ (192 ≤ p0.toInt ∧ p0.toInt ≤ 214) ∧ ¬ (216 ≤ p0.toInt ∧ p0.toInt ≤ 246) ∧ ¬ (248 ≤ p0.toInt ∧ p0.toInt ≤ 767) ∧ ¬ (880 ≤ p0.toInt ∧ p0.toInt ≤ 893) ∧ ¬ (895 ≤ p0.toInt ∧ p0.toInt ≤ 8191) ∧ ¬ (8204 ≤ p0.toInt ∧ p0.toInt ≤ 8205) ∧ ¬ (8304 ≤ p0.toInt ∧ p0.toInt ≤ 8591)), own_Go p e below s (Q2 Z p0 h0 n0) (({ frames := 0, cells := 0, slots := 0, locals := 0 } : Room)).cells (({ frames := 0, cells := 0, slots := 0, locals := 0 } : Room)).slots (T7.setTop (mkF m 122 #[.val (.int p0)] [])) := by
    intro T7 locs7 X7 e7 N7 hq
    refine own_go (fun t_ kt_ => XS.iloadN X7.here hx rfl (hb hby d2_122) rfl kt_) ?_
    show own_Go p e below s _ _ _ (T7.setTop (mkF m 123 #[.val (.int p0)] [(.int p0)]))
    refine own_go (fun t_ kt_ => XS.sipush X7.here hx rfl (hb hby d2_123) kt_) ?_
    show own_Go p e below s _ _ _ (T7.setTop (mkF m 126 #[.val (.int p0)] [(.int (11264 : Int32)), (.int p0)]))
    by_cases hc126 : p0 < (11264 : Int32)
    · skip
      have hi126 : p0.toInt < 11264 := Int32.lt_iff_toInt_lt.mp hc126
      refine own_go (fun t_ kt_ => XS.icmpYes X7.here hx rfl (pc0 := 126) (pc' := 136) rfl (hb hby d2_126) rfl (tlt hc126).1 (by decide) (by decide) kt_) ?_
      show own_Go p e below s _ _ _ (T7.setTop (mkF m 136 #[.val (.int p0)] []))
      exact J136 T7 _ X7 e7 N7   (by omega)
    · skip
      have hi126 : ¬ p0.toInt < 11264 := fun q => hc126 (Int32.lt_iff_toInt_lt.mpr q)
      refine own_go (fun t_ kt_ => XS.icmpNo X7.here hx rfl (hb hby d2_126) rfl (flt hc126).1 kt_) ?_
      show own_Go p e below s _ _ _ (T7.setTop (mkF m 129 #[.val (.int p0)] []))
      refine own_go (fun t_ kt_ => XS.iloadN X7.here hx rfl (hb hby d2_129) rfl kt_) ?_
      show own_Go p e below s _ _ _ (T7.setTop (mkF m 130 #[.val (.int p0)] [(.int p0)]))
      refine own_go (fun t_ kt_ => XS.sipush X7.here hx rfl (hb hby d2_130) kt_) ?_
      show own_Go p e below s _ _ _ (T7.setTop (mkF m 133 #[.val (.int p0)] [(.int (12271 : Int32)), (.int p0)]))
      by_cases hc133 : (12271 : Int32) < p0
      · skip
        have hi133 : 12271 < p0.toInt := Int32.lt_iff_toInt_lt.mp hc133
        refine own_go (fun t_ kt_ => XS.icmpNo X7.here hx rfl (hb hby d2_133) rfl (tlt hc133).2.2.2 kt_) ?_
        show own_Go p e below s _ _ _ (T7.setTop (mkF m 136 #[.val (.int p0)] []))
        exact J136 T7 _ X7 e7 N7   (by omega)
      · skip
        have hi133 : ¬ 12271 < p0.toInt := fun q => hc133 (Int32.lt_iff_toInt_lt.mpr q)
        refine own_go (fun t_ kt_ => XS.icmpYes X7.here hx rfl (pc0 := 133) (pc' := 185) rfl (hb hby d2_133) rfl (flt hc133).2.2.2 (by decide) (by decide) kt_) ?_
        show own_Go p e below s _ _ _ (T7.setTop (mkF m 185 #[.val (.int p0)] []))
        exact J185 T7 _ X7 e7 N7   (by unfold own_nb; rw [if_pos (by omega)])
  have J108 : ∀ (T8 : State) (locs8 : List Loc) (X8 : Stand p l e ({ frames := 0, cells := 0, slots := 0, locals := 0 } : Room) s m #[(.int p0)] below meth c T8 locs8 0 0) (e8 : T8.heap = h0) (N8 : Fr n0 locs8) (hq : ¬ (65 ≤ p0.toInt ∧ p0.toInt ≤ 90) ∧ ¬ (97 ≤ p0.toInt ∧ p0.toInt ≤ 122) ∧ ¬ (192 ≤ p0.toInt ∧ p0.toInt ≤ 214) ∧ ¬ (216 ≤ p0.toInt ∧ p0.toInt ≤ 246) ∧ ¬ (248 ≤ p0.toInt ∧ p0.toInt ≤ 767) ∧ ¬ (880 ≤ p0.toInt ∧ p0.toInt ≤ 893) ∧ ¬ (895 ≤ p0.toInt ∧ p0.toInt ≤ 8191) ∧ ¬ (8204 ≤ p0.toInt ∧ p0.toInt ≤ 8205)), own_Go p e below s (Q2 Z p0 h0 n0) (({ frames := 0, cells := 0, slots := 0, locals := 0 } : Room)).cells (({ frames := 0, cells := 0, slots := 0, locals := 0 } : Room)).slots (T8.setTop (mkF m 108 #[.val (.int p0)] [])) := by
    intro T8 locs8 X8 e8 N8 hq
    refine own_go (fun t_ kt_ => XS.iloadN X8.here hx rfl (hb hby d2_108) rfl kt_) ?_
    show own_Go p e below s _ _ _ (T8.setTop (mkF m 109 #[.val (.int p0)] [(.int p0)]))
    refine own_go (fun t_ kt_ => XS.sipush X8.here hx rfl (hb hby d2_109) kt_) ?_
    show own_Go p e below s _ _ _ (T8.setTop (mkF m 112 #[.val (.int p0)] [(.int (8304 : Int32)), (.int p0)]))
    by_cases hc112 : p0 < (8304 : Int32)
    · skip
      have hi112 : p0.toInt < 8304 := Int32.lt_iff_toInt_lt.mp hc112
      refine own_go (fun t_ kt_ => XS.icmpYes X8.here hx rfl (pc0 := 112) (pc' := 122) rfl (hb hby d2_112) rfl (tlt hc112).1 (by decide) (by decide) kt_) ?_
      show own_Go p e below s _ _ _ (T8.setTop (mkF m 122 #[.val (.int p0)] []))
      exact J122 T8 _ X8 e8 N8   (by omega)
    · skip
      have hi112 : ¬ p0.toInt < 8304 := fun q => hc112 (Int32.lt_iff_toInt_lt.mpr q)
      refine own_go (fun t_ kt_ => XS.icmpNo X8.here hx rfl (hb hby d2_112) rfl (flt hc112).1 kt_) ?_
      show own_Go p e below s _ _ _ (T8.setTop (mkF m 115 #[.val (.int p0)] []))
      refine own_go (fun t_ kt_ => XS.iloadN X8.here hx rfl (hb hby d2_115) rfl kt_) ?_
      show own_Go p e below s _ _ _ (T8.setTop (mkF m 116 #[.val (.int p0)] [(.int p0)]))
      refine own_go (fun t_ kt_ => XS.sipush X8.here hx rfl (hb hby d2_116) kt_) ?_
      show own_Go p e below s _ _ _ (T8.setTop (mkF m 119 #[.val (.int p0)] [(.int (8591 : Int32)), (.int p0)]))
      by_cases hc119 : (8591 : Int32) < p0
      · skip
        have hi119 : 8591 < p0.toInt := Int32.lt_iff_toInt_lt.mp hc119
        refine own_go (fun t_ kt_ => XS.icmpNo X8.here hx rfl (hb hby d2_119) rfl (tlt hc119).2.2.2 kt_) ?_
        show own_Go p e below s _ _ _ (T8.setTop (mkF m 122 #[.val (.int p0)] []))
        exact J122 T8 _ X8 e8 N8   (by omega)
      · skip
        have hi119 : ¬ 8591 < p0.toInt := fun q => hc119 (Int32.lt_iff_toInt_lt.mpr q)
        refine own_go (fun t_ kt_ => XS.icmpYes X8.here hx rfl (pc0 := 119) (pc' := 185) rfl (hb hby d2_119) rfl (flt hc119).2.2.2 (by decide) (by decide) kt_) ?_
        show own_Go p e below s _ _ _ (T8.setTop (mkF m 185 #[.val (.int p0)] []))
        exact J185 T8 _ X8 e8 N8   (by unfold own_nb; rw [if_pos (by omega)])
  have J94 : ∀ (T9 : State) (locs9 : List Loc) (X9 : Stand p l e ({ frames := 0, cells := 0, slots := 0, locals := 0 } : Room) s m #[(.int p0)] below meth c T9 locs9 0 0) (e9 : T9.heap = h0) (N9 : Fr n0 locs9) (hq : ¬ (65 ≤ p0.toInt ∧ p0.toInt ≤ 90) ∧ ¬ (97 ≤ p0.toInt ∧ p0.toInt ≤ 122) ∧ ¬ (192 ≤ p0.toInt ∧ p0.toInt ≤ 214) ∧ ¬ (216 ≤ p0.toInt ∧ p0.toInt ≤ 246) ∧ ¬ (248 ≤ p0.toInt ∧ p0.toInt ≤ 767) ∧ ¬ (880 ≤ p0.toInt ∧ p0.toInt ≤ 893) ∧ ¬ (895 ≤ p0.toInt ∧ p0.toInt ≤ 8191)), own_Go p e below s (Q2 Z p0 h0 n0) (({ frames := 0, cells := 0, slots := 0, locals := 0 } : Room)).cells (({ frames := 0, cells := 0, slots := 0, locals := 0 } : Room)).slots (T9.setTop (mkF m 94 #[.val (.int p0)] [])) := by
    intro T9 locs9 X9 e9 N9 hq
    refine own_go (fun t_ kt_ => XS.iloadN X9.here hx rfl (hb hby d2_94) rfl kt_) ?_
    show own_Go p e below s _ _ _ (T9.setTop (mkF m 95 #[.val (.int p0)] [(.int p0)]))
    refine own_go (fun t_ kt_ => XS.sipush X9.here hx rfl (hb hby d2_95) kt_) ?_
    show own_Go p e below s _ _ _ (T9.setTop (mkF m 98 #[.val (.int p0)] [(.int (8204 : Int32)), (.int p0)]))
    by_cases hc98 : p0 < (8204 : Int32)
    · skip
      have hi98 : p0.toInt < 8204 := Int32.lt_iff_toInt_lt.mp hc98
      refine own_go (fun t_ kt_ => XS.icmpYes X9.here hx rfl (pc0 := 98) (pc' := 108) rfl (hb hby d2_98) rfl (tlt hc98).1 (by decide) (by decide) kt_) ?_
      show own_Go p e below s _ _ _ (T9.setTop (mkF m 108 #[.val (.int p0)] []))
      exact J108 T9 _ X9 e9 N9   (by omega)
    · skip
      have hi98 : ¬ p0.toInt < 8204 := fun q => hc98 (Int32.lt_iff_toInt_lt.mpr q)
      refine own_go (fun t_ kt_ => XS.icmpNo X9.here hx rfl (hb hby d2_98) rfl (flt hc98).1 kt_) ?_
      show own_Go p e below s _ _ _ (T9.setTop (mkF m 101 #[.val (.int p0)] []))
      refine own_go (fun t_ kt_ => XS.iloadN X9.here hx rfl (hb hby d2_101) rfl kt_) ?_
      show own_Go p e below s _ _ _ (T9.setTop (mkF m 102 #[.val (.int p0)] [(.int p0)]))
      refine own_go (fun t_ kt_ => XS.sipush X9.here hx rfl (hb hby d2_102) kt_) ?_
      show own_Go p e below s _ _ _ (T9.setTop (mkF m 105 #[.val (.int p0)] [(.int (8205 : Int32)), (.int p0)]))
      by_cases hc105 : (8205 : Int32) < p0
      · skip
        have hi105 : 8205 < p0.toInt := Int32.lt_iff_toInt_lt.mp hc105
        refine own_go (fun t_ kt_ => XS.icmpNo X9.here hx rfl (hb hby d2_105) rfl (tlt hc105).2.2.2 kt_) ?_
        show own_Go p e below s _ _ _ (T9.setTop (mkF m 108 #[.val (.int p0)] []))
        exact J108 T9 _ X9 e9 N9   (by omega)
      · skip
        have hi105 : ¬ 8205 < p0.toInt := fun q => hc105 (Int32.lt_iff_toInt_lt.mpr q)
        refine own_go (fun t_ kt_ => XS.icmpYes X9.here hx rfl (pc0 := 105) (pc' := 185) rfl (hb hby d2_105) rfl (flt hc105).2.2.2 (by decide) (by decide) kt_) ?_
        show own_Go p e below s _ _ _ (T9.setTop (mkF m 185 #[.val (.int p0)] []))
        exact J185 T9 _ X9 e9 N9   (by unfold own_nb; rw [if_pos (by omega)])
  have J80 : ∀ (T10 : State) (locs10 : List Loc) (X10 : Stand p l e ({ frames := 0, cells := 0, slots := 0, locals := 0 } : Room) s m #[(.int p0)] below meth c T10 locs10 0 0) (e10 : T10.heap = h0) (N10 : Fr n0 locs10) (hq : ¬ (65 ≤ p0.toInt ∧ p0.toInt ≤ 90) ∧ ¬ (97 ≤ p0.toInt ∧ p0.toInt ≤ 122) ∧ ¬ (192 ≤ p0.toInt ∧ p0.toInt ≤ 214) ∧ ¬ (216 ≤ p0.toInt ∧ p0.toInt ≤ 246) ∧ ¬ (248 ≤ p0.toInt ∧ p0.toInt ≤ 767) ∧ ¬ (880 ≤ p0.toInt ∧ p0.toInt ≤ 893)), own_Go p e below s (Q2 Z p0 h0 n0) (({ frames := 0, cells := 0, slots := 0, locals := 0 } : Room)).cells (({ frames := 0, cells := 0, slots := 0, locals := 0 } : Room)).slots (T10.setTop (mkF m 80 #[.val (.int p0)] [])) := by
    intro T10 locs10 X10 e10 N10 hq
    refine own_go (fun t_ kt_ => XS.iloadN X10.here hx rfl (hb hby d2_80) rfl kt_) ?_
    show own_Go p e below s _ _ _ (T10.setTop (mkF m 81 #[.val (.int p0)] [(.int p0)]))
    refine own_go (fun t_ kt_ => XS.sipush X10.here hx rfl (hb hby d2_81) kt_) ?_
    show own_Go p e below s _ _ _ (T10.setTop (mkF m 84 #[.val (.int p0)] [(.int (895 : Int32)), (.int p0)]))
    by_cases hc84 : p0 < (895 : Int32)
    · skip
      have hi84 : p0.toInt < 895 := Int32.lt_iff_toInt_lt.mp hc84
      refine own_go (fun t_ kt_ => XS.icmpYes X10.here hx rfl (pc0 := 84) (pc' := 94) rfl (hb hby d2_84) rfl (tlt hc84).1 (by decide) (by decide) kt_) ?_
      show own_Go p e below s _ _ _ (T10.setTop (mkF m 94 #[.val (.int p0)] []))
      exact J94 T10 _ X10 e10 N10   (by omega)
    · skip
      have hi84 : ¬ p0.toInt < 895 := fun q => hc84 (Int32.lt_iff_toInt_lt.mpr q)
      refine own_go (fun t_ kt_ => XS.icmpNo X10.here hx rfl (hb hby d2_84) rfl (flt hc84).1 kt_) ?_
      show own_Go p e below s _ _ _ (T10.setTop (mkF m 87 #[.val (.int p0)] []))
      refine own_go (fun t_ kt_ => XS.iloadN X10.here hx rfl (hb hby d2_87) rfl kt_) ?_
      show own_Go p e below s _ _ _ (T10.setTop (mkF m 88 #[.val (.int p0)] [(.int p0)]))
      refine own_go (fun t_ kt_ => XS.sipush X10.here hx rfl (hb hby d2_88) kt_) ?_
      show own_Go p e below s _ _ _ (T10.setTop (mkF m 91 #[.val (.int p0)] [(.int (8191 : Int32)), (.int p0)]))
      by_cases hc91 : (8191 : Int32) < p0
      · skip
        have hi91 : 8191 < p0.toInt := Int32.lt_iff_toInt_lt.mp hc91
        refine own_go (fun t_ kt_ => XS.icmpNo X10.here hx rfl (hb hby d2_91) rfl (tlt hc91).2.2.2 kt_) ?_
        show own_Go p e below s _ _ _ (T10.setTop (mkF m 94 #[.val (.int p0)] []))
        exact J94 T10 _ X10 e10 N10   (by omega)
      · skip
        have hi91 : ¬ 8191 < p0.toInt := fun q => hc91 (Int32.lt_iff_toInt_lt.mpr q)
        refine own_go (fun t_ kt_ => XS.icmpYes X10.here hx rfl (pc0 := 91) (pc' := 185) rfl (hb hby d2_91) rfl (flt hc91).2.2.2 (by decide) (by decide) kt_) ?_
        show own_Go p e below s _ _ _ (T10.setTop (mkF m 185 #[.val (.int p0)] []))
        exact J185 T10 _ X10 e10 N10   (by unfold own_nb; rw [if_pos (by omega)])
  have J66 : ∀ (T11 : State) (locs11 : List Loc) (X11 : Stand p l e ({ frames := 0, cells := 0, slots := 0, locals := 0 } : Room) s m #[(.int p0)] below meth c T11 locs11 0 0) (e11 : T11.heap = h0) (N11 : Fr n0 locs11) (hq : ¬ (65 ≤ p0.toInt ∧ p0.toInt ≤ 90) ∧ ¬ (97 ≤ p0.toInt ∧ p0.toInt ≤ 122) ∧ ¬ (192 ≤ p0.toInt ∧ p0.toInt ≤ 214) ∧ ¬ (216 ≤ p0.toInt ∧ p0.toInt ≤ 246) ∧ ¬ (248 ≤ p0.toInt ∧ p0.toInt ≤ 767)), own_Go p e below s (Q2 Z p0 h0 n0) (({ frames := 0, cells := 0, slots := 0, locals := 0 } : Room)).cells (({ frames := 0, cells := 0, slots := 0, locals := 0 } : Room)).slots (T11.setTop (mkF m 66 #[.val (.int p0)] [])) := by
    intro T11 locs11 X11 e11 N11 hq
    refine own_go (fun t_ kt_ => XS.iloadN X11.here hx rfl (hb hby d2_66) rfl kt_) ?_
    show own_Go p e below s _ _ _ (T11.setTop (mkF m 67 #[.val (.int p0)] [(.int p0)]))
    refine own_go (fun t_ kt_ => XS.sipush X11.here hx rfl (hb hby d2_67) kt_) ?_
    show own_Go p e below s _ _ _ (T11.setTop (mkF m 70 #[.val (.int p0)] [(.int (880 : Int32)), (.int p0)]))
    by_cases hc70 : p0 < (880 : Int32)
    · skip
      have hi70 : p0.toInt < 880 := Int32.lt_iff_toInt_lt.mp hc70
      refine own_go (fun t_ kt_ => XS.icmpYes X11.here hx rfl (pc0 := 70) (pc' := 80) rfl (hb hby d2_70) rfl (tlt hc70).1 (by decide) (by decide) kt_) ?_
      show own_Go p e below s _ _ _ (T11.setTop (mkF m 80 #[.val (.int p0)] []))
      exact J80 T11 _ X11 e11 N11   (by omega)
    · skip
      have hi70 : ¬ p0.toInt < 880 := fun q => hc70 (Int32.lt_iff_toInt_lt.mpr q)
      refine own_go (fun t_ kt_ => XS.icmpNo X11.here hx rfl (hb hby d2_70) rfl (flt hc70).1 kt_) ?_
      show own_Go p e below s _ _ _ (T11.setTop (mkF m 73 #[.val (.int p0)] []))
      refine own_go (fun t_ kt_ => XS.iloadN X11.here hx rfl (hb hby d2_73) rfl kt_) ?_
      show own_Go p e below s _ _ _ (T11.setTop (mkF m 74 #[.val (.int p0)] [(.int p0)]))
      refine own_go (fun t_ kt_ => XS.sipush X11.here hx rfl (hb hby d2_74) kt_) ?_
      show own_Go p e below s _ _ _ (T11.setTop (mkF m 77 #[.val (.int p0)] [(.int (893 : Int32)), (.int p0)]))
      by_cases hc77 : (893 : Int32) < p0
      · skip
        have hi77 : 893 < p0.toInt := Int32.lt_iff_toInt_lt.mp hc77
        refine own_go (fun t_ kt_ => XS.icmpNo X11.here hx rfl (hb hby d2_77) rfl (tlt hc77).2.2.2 kt_) ?_
        show own_Go p e below s _ _ _ (T11.setTop (mkF m 80 #[.val (.int p0)] []))
        exact J80 T11 _ X11 e11 N11   (by omega)
      · skip
        have hi77 : ¬ 893 < p0.toInt := fun q => hc77 (Int32.lt_iff_toInt_lt.mpr q)
        refine own_go (fun t_ kt_ => XS.icmpYes X11.here hx rfl (pc0 := 77) (pc' := 185) rfl (hb hby d2_77) rfl (flt hc77).2.2.2 (by decide) (by decide) kt_) ?_
        show own_Go p e below s _ _ _ (T11.setTop (mkF m 185 #[.val (.int p0)] []))
        exact J185 T11 _ X11 e11 N11   (by unfold own_nb; rw [if_pos (by omega)])
  have J52 : ∀ (T12 : State) (locs12 : List Loc) (X12 : Stand p l e ({ frames := 0, cells := 0, slots := 0, locals := 0 } : Room) s m #[(.int p0)] below meth c T12 locs12 0 0) (e12 : T12.heap = h0) (N12 : Fr n0 locs12) (hq : ¬ (65 ≤ p0.toInt ∧ p0.toInt ≤ 90) ∧ ¬ (97 ≤ p0.toInt ∧ p0.toInt ≤ 122) ∧ ¬ (192 ≤ p0.toInt ∧ p0.toInt ≤ 214) ∧ ¬ (216 ≤ p0.toInt ∧ p0.toInt ≤ 246)), own_Go p e below s (Q2 Z p0 h0 n0) (({ frames := 0, cells := 0, slots := 0, locals := 0 } : Room)).cells (({ frames := 0, cells := 0, slots := 0, locals := 0 } : Room)).slots (T12.setTop (mkF m 52 #[.val (.int p0)] [])) := by
    intro T12 locs12 X12 e12 N12 hq
    refine own_go (fun t_ kt_ => XS.iloadN X12.here hx rfl (hb hby d2_52) rfl kt_) ?_
    show own_Go p e below s _ _ _ (T12.setTop (mkF m 53 #[.val (.int p0)] [(.int p0)]))
    refine own_go (fun t_ kt_ => XS.sipush X12.here hx rfl (hb hby d2_53) kt_) ?_
    show own_Go p e below s _ _ _ (T12.setTop (mkF m 56 #[.val (.int p0)] [(.int (248 : Int32)), (.int p0)]))
    by_cases hc56 : p0 < (248 : Int32)
    · skip
      have hi56 : p0.toInt < 248 := Int32.lt_iff_toInt_lt.mp hc56
      refine own_go (fun t_ kt_ => XS.icmpYes X12.here hx rfl (pc0 := 56) (pc' := 66) rfl (hb hby d2_56) rfl (tlt hc56).1 (by decide) (by decide) kt_) ?_
      show own_Go p e below s _ _ _ (T12.setTop (mkF m 66 #[.val (.int p0)] []))
      exact J66 T12 _ X12 e12 N12   (by omega)
    · skip
      have hi56 : ¬ p0.toInt < 248 := fun q => hc56 (Int32.lt_iff_toInt_lt.mpr q)
      refine own_go (fun t_ kt_ => XS.icmpNo X12.here hx rfl (hb hby d2_56) rfl (flt hc56).1 kt_) ?_
      show own_Go p e below s _ _ _ (T12.setTop (mkF m 59 #[.val (.int p0)] []))
      refine own_go (fun t_ kt_ => XS.iloadN X12.here hx rfl (hb hby d2_59) rfl kt_) ?_
      show own_Go p e below s _ _ _ (T12.setTop (mkF m 60 #[.val (.int p0)] [(.int p0)]))
      refine own_go (fun t_ kt_ => XS.sipush X12.here hx rfl (hb hby d2_60) kt_) ?_
      show own_Go p e below s _ _ _ (T12.setTop (mkF m 63 #[.val (.int p0)] [(.int (767 : Int32)), (.int p0)]))
      by_cases hc63 : (767 : Int32) < p0
      · skip
        have hi63 : 767 < p0.toInt := Int32.lt_iff_toInt_lt.mp hc63
        refine own_go (fun t_ kt_ => XS.icmpNo X12.here hx rfl (hb hby d2_63) rfl (tlt hc63).2.2.2 kt_) ?_
        show own_Go p e below s _ _ _ (T12.setTop (mkF m 66 #[.val (.int p0)] []))
        exact J66 T12 _ X12 e12 N12   (by omega)
      · skip
        have hi63 : ¬ 767 < p0.toInt := fun q => hc63 (Int32.lt_iff_toInt_lt.mpr q)
        refine own_go (fun t_ kt_ => XS.icmpYes X12.here hx rfl (pc0 := 63) (pc' := 185) rfl (hb hby d2_63) rfl (flt hc63).2.2.2 (by decide) (by decide) kt_) ?_
        show own_Go p e below s _ _ _ (T12.setTop (mkF m 185 #[.val (.int p0)] []))
        exact J185 T12 _ X12 e12 N12   (by unfold own_nb; rw [if_pos (by omega)])
  have J38 : ∀ (T13 : State) (locs13 : List Loc) (X13 : Stand p l e ({ frames := 0, cells := 0, slots := 0, locals := 0 } : Room) s m #[(.int p0)] below meth c T13 locs13 0 0) (e13 : T13.heap = h0) (N13 : Fr n0 locs13) (hq : ¬ (65 ≤ p0.toInt ∧ p0.toInt ≤ 90) ∧ ¬ (97 ≤ p0.toInt ∧ p0.toInt ≤ 122) ∧ ¬ (192 ≤ p0.toInt ∧ p0.toInt ≤ 214)), own_Go p e below s (Q2 Z p0 h0 n0) (({ frames := 0, cells := 0, slots := 0, locals := 0 } : Room)).cells (({ frames := 0, cells := 0, slots := 0, locals := 0 } : Room)).slots (T13.setTop (mkF m 38 #[.val (.int p0)] [])) := by
    intro T13 locs13 X13 e13 N13 hq
    refine own_go (fun t_ kt_ => XS.iloadN X13.here hx rfl (hb hby d2_38) rfl kt_) ?_
    show own_Go p e below s _ _ _ (T13.setTop (mkF m 39 #[.val (.int p0)] [(.int p0)]))
    refine own_go (fun t_ kt_ => XS.sipush X13.here hx rfl (hb hby d2_39) kt_) ?_
    show own_Go p e below s _ _ _ (T13.setTop (mkF m 42 #[.val (.int p0)] [(.int (216 : Int32)), (.int p0)]))
    by_cases hc42 : p0 < (216 : Int32)
    · skip
      have hi42 : p0.toInt < 216 := Int32.lt_iff_toInt_lt.mp hc42
      refine own_go (fun t_ kt_ => XS.icmpYes X13.here hx rfl (pc0 := 42) (pc' := 52) rfl (hb hby d2_42) rfl (tlt hc42).1 (by decide) (by decide) kt_) ?_
      show own_Go p e below s _ _ _ (T13.setTop (mkF m 52 #[.val (.int p0)] []))
      exact J52 T13 _ X13 e13 N13   (by omega)
    · skip
      have hi42 : ¬ p0.toInt < 216 := fun q => hc42 (Int32.lt_iff_toInt_lt.mpr q)
      refine own_go (fun t_ kt_ => XS.icmpNo X13.here hx rfl (hb hby d2_42) rfl (flt hc42).1 kt_) ?_
      show own_Go p e below s _ _ _ (T13.setTop (mkF m 45 #[.val (.int p0)] []))
      refine own_go (fun t_ kt_ => XS.iloadN X13.here hx rfl (hb hby d2_45) rfl kt_) ?_
      show own_Go p e below s _ _ _ (T13.setTop (mkF m 46 #[.val (.int p0)] [(.int p0)]))
      refine own_go (fun t_ kt_ => XS.sipush X13.here hx rfl (hb hby d2_46) kt_) ?_
      show own_Go p e below s _ _ _ (T13.setTop (mkF m 49 #[.val (.int p0)] [(.int (246 : Int32)), (.int p0)]))
      by_cases hc49 : (246 : Int32) < p0
      · skip
        have hi49 : 246 < p0.toInt := Int32.lt_iff_toInt_lt.mp hc49
        refine own_go (fun t_ kt_ => XS.icmpNo X13.here hx rfl (hb hby d2_49) rfl (tlt hc49).2.2.2 kt_) ?_
        show own_Go p e below s _ _ _ (T13.setTop (mkF m 52 #[.val (.int p0)] []))
        exact J52 T13 _ X13 e13 N13   (by omega)
      · skip
        have hi49 : ¬ 246 < p0.toInt := fun q => hc49 (Int32.lt_iff_toInt_lt.mpr q)
        refine own_go (fun t_ kt_ => XS.icmpYes X13.here hx rfl (pc0 := 49) (pc' := 185) rfl (hb hby d2_49) rfl (flt hc49).2.2.2 (by decide) (by decide) kt_) ?_
        show own_Go p e below s _ _ _ (T13.setTop (mkF m 185 #[.val (.int p0)] []))
        exact J185 T13 _ X13 e13 N13   (by unfold own_nb; rw [if_pos (by omega)])
  have J24 : ∀ (T14 : State) (locs14 : List Loc) (X14 : Stand p l e ({ frames := 0, cells := 0, slots := 0, locals := 0 } : Room) s m #[(.int p0)] below meth c T14 locs14 0 0) (e14 : T14.heap = h0) (N14 : Fr n0 locs14) (hq : ¬ (65 ≤ p0.toInt ∧ p0.toInt ≤ 90) ∧ ¬ (97 ≤ p0.toInt ∧ p0.toInt ≤ 122)), own_Go p e below s (Q2 Z p0 h0 n0) (({ frames := 0, cells := 0, slots := 0, locals := 0 } : Room)).cells (({ frames := 0, cells := 0, slots := 0, locals := 0 } : Room)).slots (T14.setTop (mkF m 24 #[.val (.int p0)] [])) := by
    intro T14 locs14 X14 e14 N14 hq
    refine own_go (fun t_ kt_ => XS.iloadN X14.here hx rfl (hb hby d2_24) rfl kt_) ?_
    show own_Go p e below s _ _ _ (T14.setTop (mkF m 25 #[.val (.int p0)] [(.int p0)]))
    refine own_go (fun t_ kt_ => XS.sipush X14.here hx rfl (hb hby d2_25) kt_) ?_
    show own_Go p e below s _ _ _ (T14.setTop (mkF m 28 #[.val (.int p0)] [(.int (192 : Int32)), (.int p0)]))
    by_cases hc28 : p0 < (192 : Int32)
    · skip
      have hi28 : p0.toInt < 192 := Int32.lt_iff_toInt_lt.mp hc28
      refine own_go (fun t_ kt_ => XS.icmpYes X14.here hx rfl (pc0 := 28) (pc' := 38) rfl (hb hby d2_28) rfl (tlt hc28).1 (by decide) (by decide) kt_) ?_
      show own_Go p e below s _ _ _ (T14.setTop (mkF m 38 #[.val (.int p0)] []))
      exact J38 T14 _ X14 e14 N14   (by omega)
    · skip
      have hi28 : ¬ p0.toInt < 192 := fun q => hc28 (Int32.lt_iff_toInt_lt.mpr q)
      refine own_go (fun t_ kt_ => XS.icmpNo X14.here hx rfl (hb hby d2_28) rfl (flt hc28).1 kt_) ?_
      show own_Go p e below s _ _ _ (T14.setTop (mkF m 31 #[.val (.int p0)] []))
      refine own_go (fun t_ kt_ => XS.iloadN X14.here hx rfl (hb hby d2_31) rfl kt_) ?_
      show own_Go p e below s _ _ _ (T14.setTop (mkF m 32 #[.val (.int p0)] [(.int p0)]))
      refine own_go (fun t_ kt_ => XS.sipush X14.here hx rfl (hb hby d2_32) kt_) ?_
      show own_Go p e below s _ _ _ (T14.setTop (mkF m 35 #[.val (.int p0)] [(.int (214 : Int32)), (.int p0)]))
      by_cases hc35 : (214 : Int32) < p0
      · skip
        have hi35 : 214 < p0.toInt := Int32.lt_iff_toInt_lt.mp hc35
        refine own_go (fun t_ kt_ => XS.icmpNo X14.here hx rfl (hb hby d2_35) rfl (tlt hc35).2.2.2 kt_) ?_
        show own_Go p e below s _ _ _ (T14.setTop (mkF m 38 #[.val (.int p0)] []))
        exact J38 T14 _ X14 e14 N14   (by omega)
      · skip
        have hi35 : ¬ 214 < p0.toInt := fun q => hc35 (Int32.lt_iff_toInt_lt.mpr q)
        refine own_go (fun t_ kt_ => XS.icmpYes X14.here hx rfl (pc0 := 35) (pc' := 185) rfl (hb hby d2_35) rfl (flt hc35).2.2.2 (by decide) (by decide) kt_) ?_
        show own_Go p e below s _ _ _ (T14.setTop (mkF m 185 #[.val (.int p0)] []))
        exact J185 T14 _ X14 e14 N14   (by unfold own_nb; rw [if_pos (by omega)])
  have J12 : ∀ (T15 : State) (locs15 : List Loc) (X15 : Stand p l e ({ frames := 0, cells := 0, slots := 0, locals := 0 } : Room) s m #[(.int p0)] below meth c T15 locs15 0 0) (e15 : T15.heap = h0) (N15 : Fr n0 locs15) (hq : ¬ (65 ≤ p0.toInt ∧ p0.toInt ≤ 90)), own_Go p e below s (Q2 Z p0 h0 n0) (({ frames := 0, cells := 0, slots := 0, locals := 0 } : Room)).cells (({ frames := 0, cells := 0, slots := 0, locals := 0 } : Room)).slots (T15.setTop (mkF m 12 #[.val (.int p0)] [])) := by
    intro T15 locs15 X15 e15 N15 hq
    refine own_go (fun t_ kt_ => XS.iloadN X15.here hx rfl (hb hby d2_12) rfl kt_) ?_
    show own_Go p e below s _ _ _ (T15.setTop (mkF m 13 #[.val (.int p0)] [(.int p0)]))
    refine own_go (fun t_ kt_ => XS.bipush X15.here hx rfl (hb hby d2_13) kt_) ?_
    show own_Go p e below s _ _ _ (T15.setTop (mkF m 15 #[.val (.int p0)] [(.int (97 : Int32)), (.int p0)]))
    by_cases hc15 : p0 < (97 : Int32)
    · skip
      have hi15 : p0.toInt < 97 := Int32.lt_iff_toInt_lt.mp hc15
      refine own_go (fun t_ kt_ => XS.icmpYes X15.here hx rfl (pc0 := 15) (pc' := 24) rfl (hb hby d2_15) rfl (tlt hc15).1 (by decide) (by decide) kt_) ?_
      show own_Go p e below s _ _ _ (T15.setTop (mkF m 24 #[.val (.int p0)] []))
      exact J24 T15 _ X15 e15 N15   (by omega)
    · skip
      have hi15 : ¬ p0.toInt < 97 := fun q => hc15 (Int32.lt_iff_toInt_lt.mpr q)
      refine own_go (fun t_ kt_ => XS.icmpNo X15.here hx rfl (hb hby d2_15) rfl (flt hc15).1 kt_) ?_
      show own_Go p e below s _ _ _ (T15.setTop (mkF m 18 #[.val (.int p0)] []))
      refine own_go (fun t_ kt_ => XS.iloadN X15.here hx rfl (hb hby d2_18) rfl kt_) ?_
      show own_Go p e below s _ _ _ (T15.setTop (mkF m 19 #[.val (.int p0)] [(.int p0)]))
      refine own_go (fun t_ kt_ => XS.bipush X15.here hx rfl (hb hby d2_19) kt_) ?_
      show own_Go p e below s _ _ _ (T15.setTop (mkF m 21 #[.val (.int p0)] [(.int (122 : Int32)), (.int p0)]))
      by_cases hc21 : (122 : Int32) < p0
      · skip
        have hi21 : 122 < p0.toInt := Int32.lt_iff_toInt_lt.mp hc21
        refine own_go (fun t_ kt_ => XS.icmpNo X15.here hx rfl (hb hby d2_21) rfl (tlt hc21).2.2.2 kt_) ?_
        show own_Go p e below s _ _ _ (T15.setTop (mkF m 24 #[.val (.int p0)] []))
        exact J24 T15 _ X15 e15 N15   (by omega)
      · skip
        have hi21 : ¬ 122 < p0.toInt := fun q => hc21 (Int32.lt_iff_toInt_lt.mpr q)
        refine own_go (fun t_ kt_ => XS.icmpYes X15.here hx rfl (pc0 := 21) (pc' := 185) rfl (hb hby d2_21) rfl (flt hc21).2.2.2 (by decide) (by decide) kt_) ?_
        show own_Go p e below s _ _ _ (T15.setTop (mkF m 185 #[.val (.int p0)] []))
        exact J185 T15 _ X15 e15 N15   (by unfold own_nb; rw [if_pos (by omega)])
  refine own_go (fun t_ kt_ => XS.iloadN X0.here hx rfl (hb hby d2_0) rfl kt_) ?_
  show own_Go p e below s _ _ _ (s₁.setTop (mkF m 1 #[.val (.int p0)] [(.int p0)]))
  refine own_go (fun t_ kt_ => XS.bipush X0.here hx rfl (hb hby d2_1) kt_) ?_
  show own_Go p e below s _ _ _ (s₁.setTop (mkF m 3 #[.val (.int p0)] [(.int (65 : Int32)), (.int p0)]))
  by_cases hc3 : p0 < (65 : Int32)
  · skip
    have hi3 : p0.toInt < 65 := Int32.lt_iff_toInt_lt.mp hc3
    refine own_go (fun t_ kt_ => XS.icmpYes X0.here hx rfl (pc0 := 3) (pc' := 12) rfl (hb hby d2_3) rfl (tlt hc3).1 (by decide) (by decide) kt_) ?_
    show own_Go p e below s _ _ _ (s₁.setTop (mkF m 12 #[.val (.int p0)] []))
    exact J12 s₁ _ X0 e0 N0   (by omega)
  · skip
    have hi3 : ¬ p0.toInt < 65 := fun q => hc3 (Int32.lt_iff_toInt_lt.mpr q)
    refine own_go (fun t_ kt_ => XS.icmpNo X0.here hx rfl (hb hby d2_3) rfl (flt hc3).1 kt_) ?_
    show own_Go p e below s _ _ _ (s₁.setTop (mkF m 6 #[.val (.int p0)] []))
    refine own_go (fun t_ kt_ => XS.iloadN X0.here hx rfl (hb hby d2_6) rfl kt_) ?_
    show own_Go p e below s _ _ _ (s₁.setTop (mkF m 7 #[.val (.int p0)] [(.int p0)]))
    refine own_go (fun t_ kt_ => XS.bipush X0.here hx rfl (hb hby d2_7) kt_) ?_
    show own_Go p e below s _ _ _ (s₁.setTop (mkF m 9 #[.val (.int p0)] [(.int (90 : Int32)), (.int p0)]))
    by_cases hc9 : (90 : Int32) < p0
    · skip
      have hi9 : 90 < p0.toInt := Int32.lt_iff_toInt_lt.mp hc9
      refine own_go (fun t_ kt_ => XS.icmpNo X0.here hx rfl (hb hby d2_9) rfl (tlt hc9).2.2.2 kt_) ?_
      show own_Go p e below s _ _ _ (s₁.setTop (mkF m 12 #[.val (.int p0)] []))
      exact J12 s₁ _ X0 e0 N0   (by omega)
    · skip
      have hi9 : ¬ 90 < p0.toInt := fun q => hc9 (Int32.lt_iff_toInt_lt.mpr q)
      refine own_go (fun t_ kt_ => XS.icmpYes X0.here hx rfl (pc0 := 9) (pc' := 185) rfl (hb hby d2_9) rfl (flt hc9).2.2.2 (by decide) (by decide) kt_) ?_
      show own_Go p e below s _ _ _ (s₁.setTop (mkF m 185 #[.val (.int p0)] []))
      exact J185 s₁ _ X0 e0 N0   (by unfold own_nb; rw [if_pos (by omega)])
theorem d1_66 : decode prog_38_method_11_code 66 = .ok (.iconst 1, 1) := by decide +kernel
theorem d1_67 : decode prog_38_method_11_code 67 = .ok (.goto 4, 3) := by decide +kernel
theorem d1_71 : decode prog_38_method_11_code 71 = .ok (.ireturn, 1) := by decide +kernel
theorem d1_70 : decode prog_38_method_11_code 70 = .ok (.iconst 0, 1) := by decide +kernel
theorem d1_52 : decode prog_38_method_11_code 52 = .ok (.iload_n 0, 1) := by decide +kernel
theorem d1_53 : decode prog_38_method_11_code 53 = .ok (.sipush 8255, 3) := by decide +kernel
theorem d1_56 : decode prog_38_method_11_code 56 = .ok (.if_icmp .lt 14, 3) := by decide +kernel
theorem d1_59 : decode prog_38_method_11_code 59 = .ok (.iload_n 0, 1) := by decide +kernel
theorem d1_60 : decode prog_38_method_11_code 60 = .ok (.sipush 8256, 3) := by decide +kernel
theorem d1_63 : decode prog_38_method_11_code 63 = .ok (.if_icmp .gt 7, 3) := by decide +kernel
theorem d1_31 : decode prog_38_method_11_code 31 = .ok (.iload_n 0, 1) := by decide +kernel
theorem d1_32 : decode prog_38_method_11_code 32 = .ok (.sipush 183, 3) := by decide +kernel
theorem d1_35 : decode prog_38_method_11_code 35 = .ok (.if_icmp .eq 31, 3) := by decide +kernel
theorem d1_38 : decode prog_38_method_11_code 38 = .ok (.iload_n 0, 1) := by decide +kernel
theorem d1_39 : decode prog_38_method_11_code 39 = .ok (.sipush 768, 3) := by decide +kernel
theorem d1_42 : decode prog_38_method_11_code 42 = .ok (.if_icmp .lt 10, 3) := by decide +kernel
theorem d1_45 : decode prog_38_method_11_code 45 = .ok (.iload_n 0, 1) := by decide +kernel
theorem d1_46 : decode prog_38_method_11_code 46 = .ok (.sipush 879, 3) := by decide +kernel
theorem d1_49 : decode prog_38_method_11_code 49 = .ok (.if_icmp .le 17, 3) := by decide +kernel
theorem d1_0 : decode prog_38_method_11_code 0 = .ok (.iload_n 0, 1) := by decide +kernel
theorem d1_1 : decode prog_38_method_11_code 1 = .ok (.invokestatic 69, 3) := by decide +kernel
theorem pd_0 : parseMethodDescriptor "(I)Z" = some ⟨[.int], some .boolean⟩ := by decide +kernel
theorem d1_4 : decode prog_38_method_11_code 4 = .ok (.ifCond .ne 62, 3) := by decide +kernel
theorem d1_7 : decode prog_38_method_11_code 7 = .ok (.iload_n 0, 1) := by decide +kernel
theorem d1_8 : decode prog_38_method_11_code 8 = .ok (.bipush 95, 2) := by decide +kernel
theorem d1_10 : decode prog_38_method_11_code 10 = .ok (.if_icmp .eq 56, 3) := by decide +kernel
theorem d1_13 : decode prog_38_method_11_code 13 = .ok (.iload_n 0, 1) := by decide +kernel
theorem d1_14 : decode prog_38_method_11_code 14 = .ok (.bipush 45, 2) := by decide +kernel
theorem d1_16 : decode prog_38_method_11_code 16 = .ok (.if_icmp .eq 50, 3) := by decide +kernel
theorem d1_19 : decode prog_38_method_11_code 19 = .ok (.iload_n 0, 1) := by decide +kernel
theorem d1_20 : decode prog_38_method_11_code 20 = .ok (.bipush 48, 2) := by decide +kernel
theorem d1_22 : decode prog_38_method_11_code 22 = .ok (.if_icmp .lt 9, 3) := by decide +kernel
theorem d1_25 : decode prog_38_method_11_code 25 = .ok (.iload_n 0, 1) := by decide +kernel
theorem d1_26 : decode prog_38_method_11_code 26 = .ok (.bipush 57, 2) := by decide +kernel
theorem d1_28 : decode prog_38_method_11_code 28 = .ok (.if_icmp .le 38, 3) := by decide +kernel
theorem ef_1 (m : MethodId) (p0 : Int32) : entryFrame m #[(.int p0)] 1 = mkF m 0 #[.val (.int p0)] [] := by first | (simp [entryFrame, mkF, argsToLocals, Value.category]; done) | rfl
def Q1 (Z : State) (p0 : Int32) (h0 : Heap) (n0 : Nat) (v : Option Value) (h : Heap) (L : List Loc) : Prop := v = some (.int (own_nm p0.toInt)) ∧ Fr n0 L ∧ h = h0
set_option maxRecDepth 65536 in
set_option maxHeartbeats 40000000 in
theorem rm1 (l : Launch) (Z : State) (a0 : Array Value) (hw : ∀ d ∈ tables_1, d.before a0 Z = true) (ws : List Jvm.Cond) (p0 : Int32) (h0 : Heap) (n0 : Nat) (Z0 : n0 ≤ h0.size) :
    MetFree l (⟨"com/example/provfold/provfold/QualifiedName", "isNameCharacter", "(I)Z"⟩ : MethodName) (head1 (Jvm.Cond.code (⟨"com/example/provfold/provfold/QualifiedName", "isNameCharacter", "(I)Z"⟩ : MethodName) prog_38_method_11_code 1 (some .boolean) :: ws) ({ frames := 1, cells := 0, slots := 0, locals := 12 } : Room)) (fun a U => a = #[(.int p0)] ∧ Z.Warmed39 U.vm ∧ U.heap = h0) (fun _ _ _ _ _ => True) (fun _ U o U' => ∃ v L, o = .returned v ∧ Q1 Z p0 h0 n0 v U'.heap L ∧ FrameEnd U o U' L (({ frames := 1, cells := 0, slots := 0, locals := 12 } : Room)).cells (({ frames := 1, cells := 0, slots := 0, locals := 12 } : Room)).slots) := by
  refine MetFree.of_bodySF (plainFor_of_name pn_0) hisR ?_
  intro p e s m args below meth c s₁ Bd hml0 hP hK
  obtain ⟨rfl, hZ, hh⟩ := hP
  have hx := Bd.exec
  have hby := Bd.bytes
  have hml : c.maxLocals = 1 := hml0
  have hown : s.vm.findClass "com/example/provfold/provfold/QualifiedName" = some m.cls := findClass_of_methodNamed Bd.named
  have hnm := (name_of_methodNamed Bd.named Bd.method).1
  have hlk : meth.locks = false := Bd.notSynchronized
  have X0 : Stand p l e ({ frames := 1, cells := 0, slots := 0, locals := 12 } : Room) s m #[(.int p0)] below meth c s₁ [] 0 0 := Stand.of_body Bd
  have e0 : s₁.heap = h0 := by rw [← hh, Bd.state]; rfl
  have N0 := Fr.nil n0
  have hret := Bd.returns
  show own_Go p e below s (Q1 Z p0 h0 n0) _ _ (s₁.setTop (entryFrame m #[(.int p0)] 1))
  refine own_go (fun t k => castTop (ef_1 m p0) k) ?_
  show own_Go p e below s _ _ _ (s₁.setTop (mkF m 0 #[.val (.int p0)] []))
  have J66 : ∀ (T1 : State) (locs1 : List Loc) (X1 : Stand p l e ({ frames := 1, cells := 0, slots := 0, locals := 12 } : Room) s m #[(.int p0)] below meth c T1 locs1 0 0) (e1 : T1.heap = h0) (N1 : Fr n0 locs1) (hq : own_nm p0.toInt = 1), own_Go p e below s (Q1 Z p0 h0 n0) (({ frames := 1, cells := 0, slots := 0, locals := 12 } : Room)).cells (({ frames := 1, cells := 0, slots := 0, locals := 12 } : Room)).slots (T1.setTop (mkF m 66 #[.val (.int p0)] [])) := by
    intro T1 locs1 X1 e1 N1 hq
    refine own_go (fun t_ kt_ => XS.iconst X1.here hx rfl (hb hby d1_66) kt_) ?_
    show own_Go p e below s _ _ _ (T1.setTop (mkF m 67 #[.val (.int p0)] [(.int (1 : Int32))]))
    refine own_go (fun t_ kt_ => XS.goto X1.here hx rfl (pc0 := 67) (pc' := 71) rfl (hb hby d1_67) (by decide) (by decide) kt_) ?_
    show own_Go p e below s _ _ _ (T1.setTop (mkF m 71 #[.val (.int p0)] [(.int (1 : Int32))]))
    refine own_ret X1 (v := some (.int (1 : Int32))) (fun h => by rw [hret] at h; cases h) hlk ?_ (by decide) (by decide) (fun fs hr => retN X1 hx (t := .boolean) hret (by simp) (hb hby d1_71) hr)
    show Q1 Z p0 h0 n0 (some (.int (1 : Int32))) T1.heap _
    rw [e1]
    exact ⟨congrArg (fun z => some (Value.int z)) hq.symm, N1, rfl⟩
  have J70 : ∀ (T2 : State) (locs2 : List Loc) (X2 : Stand p l e ({ frames := 1, cells := 0, slots := 0, locals := 12 } : Room) s m #[(.int p0)] below meth c T2 locs2 0 0) (e2 : T2.heap = h0) (N2 : Fr n0 locs2) (hq : own_nm p0.toInt = 0), own_Go p e below s (Q1 Z p0 h0 n0) (({ frames := 1, cells := 0, slots := 0, locals := 12 } : Room)).cells (({ frames := 1, cells := 0, slots := 0, locals := 12 } : Room)).slots (T2.setTop (mkF m 70 #[.val (.int p0)] [])) := by
    intro T2 locs2 X2 e2 N2 hq
    refine own_go (fun t_ kt_ => XS.iconst X2.here hx rfl (hb hby d1_70) kt_) ?_
    show own_Go p e below s _ _ _ (T2.setTop (mkF m 71 #[.val (.int p0)] [(.int (0 : Int32))]))
    refine own_ret X2 (v := some (.int (0 : Int32))) (fun h => by rw [hret] at h; cases h) hlk ?_ (by decide) (by decide) (fun fs hr => retN X2 hx (t := .boolean) hret (by simp) (hb hby d1_71) hr)
    show Q1 Z p0 h0 n0 (some (.int (0 : Int32))) T2.heap _
    rw [e2]
    exact ⟨congrArg (fun z => some (Value.int z)) hq.symm, N2, rfl⟩
  have J52 : ∀ (T3 : State) (locs3 : List Loc) (X3 : Stand p l e ({ frames := 1, cells := 0, slots := 0, locals := 12 } : Room) s m #[(.int p0)] below meth c T3 locs3 0 0) (e3 : T3.heap = h0) (N3 : Fr n0 locs3) (hq : ¬ (65 ≤ p0.toInt ∧ p0.toInt ≤ 90) ∧ ¬ (97 ≤ p0.toInt ∧ p0.toInt ≤ 122) ∧ ¬ (192 ≤ p0.toInt ∧ p0.toInt ≤ 214) ∧ ¬ (216 ≤ p0.toInt ∧ p0.toInt ≤ 246) ∧ ¬ (248 ≤ p0.toInt ∧ p0.toInt ≤ 767) ∧ ¬ (880 ≤ p0.toInt ∧ p0.toInt ≤ 893) ∧ ¬ (895 ≤ p0.toInt ∧ p0.toInt ≤ 8191) ∧ ¬ (8204 ≤ p0.toInt ∧ p0.toInt ≤ 8205) ∧ ¬ (8304 ≤ p0.toInt ∧ p0.toInt ≤ 8591) ∧ ¬ (11264 ≤ p0.toInt ∧ p0.toInt ≤ 12271) ∧ ¬ (12289 ≤ p0.toInt ∧ p0.toInt ≤ 55295) ∧ ¬ (63744 ≤ p0.toInt ∧ p0.toInt ≤ 64975) ∧ ¬ (65008 ≤ p0.toInt ∧ p0.toInt ≤ 65533) ∧ ¬ (65536 ≤ p0.toInt ∧ p0.toInt ≤ 983039) ∧ ¬ (95 ≤ p0.toInt ∧ p0.toInt ≤ 95) ∧ ¬ (45 ≤ p0.toInt ∧ p0.toInt ≤ 45) ∧ ¬ (48 ≤ p0.toInt ∧ p0.toInt ≤ 57) ∧ ¬ (183 ≤ p0.toInt ∧ p0.toInt ≤ 183) ∧ ¬ (768 ≤ p0.toInt ∧ p0.toInt ≤ 879)), own_Go p e below s (Q1 Z p0 h0 n0) (({ frames := 1, cells := 0, slots := 0, locals := 12 } : Room)).cells (({ frames := 1, cells := 0, slots := 0, locals := 12 } : Room)).slots (T3.setTop (mkF m 52 #[.val (.int p0)] [])) := by
    intro T3 locs3 X3 e3 N3 hq
    refine own_go (fun t_ kt_ => XS.iloadN X3.here hx rfl (hb hby d1_52) rfl kt_) ?_
    show own_Go p e below s _ _ _ (T3.setTop (mkF m 53 #[.val (.int p0)] [(.int p0)]))
    refine own_go (fun t_ kt_ => XS.sipush X3.here hx rfl (hb hby d1_53) kt_) ?_
    show own_Go p e below s _ _ _ (T3.setTop (mkF m 56 #[.val (.int p0)] [(.int (8255 : Int32)), (.int p0)]))
    by_cases hc56 : p0 < (8255 : Int32)
    · skip
      have hi56 : p0.toInt < 8255 := Int32.lt_iff_toInt_lt.mp hc56
      refine own_go (fun t_ kt_ => XS.icmpYes X3.here hx rfl (pc0 := 56) (pc' := 70) rfl (hb hby d1_56) rfl (tlt hc56).1 (by decide) (by decide) kt_) ?_
      show own_Go p e below s _ _ _ (T3.setTop (mkF m 70 #[.val (.int p0)] []))
      exact J70 T3 _ X3 e3 N3   (by unfold own_nm; rw [if_neg (by omega)])
    · skip
      have hi56 : ¬ p0.toInt < 8255 := fun q => hc56 (Int32.lt_iff_toInt_lt.mpr q)
      refine own_go (fun t_ kt_ => XS.icmpNo X3.here hx rfl (hb hby d1_56) rfl (flt hc56).1 kt_) ?_
      show own_Go p e below s _ _ _ (T3.setTop (mkF m 59 #[.val (.int p0)] []))
      refine own_go (fun t_ kt_ => XS.iloadN X3.here hx rfl (hb hby d1_59) rfl kt_) ?_
      show own_Go p e below s _ _ _ (T3.setTop (mkF m 60 #[.val (.int p0)] [(.int p0)]))
      refine own_go (fun t_ kt_ => XS.sipush X3.here hx rfl (hb hby d1_60) kt_) ?_
      show own_Go p e below s _ _ _ (T3.setTop (mkF m 63 #[.val (.int p0)] [(.int (8256 : Int32)), (.int p0)]))
      by_cases hc63 : (8256 : Int32) < p0
      · skip
        have hi63 : 8256 < p0.toInt := Int32.lt_iff_toInt_lt.mp hc63
        refine own_go (fun t_ kt_ => XS.icmpYes X3.here hx rfl (pc0 := 63) (pc' := 70) rfl (hb hby d1_63) rfl (tlt hc63).2.2.1 (by decide) (by decide) kt_) ?_
        show own_Go p e below s _ _ _ (T3.setTop (mkF m 70 #[.val (.int p0)] []))
        exact J70 T3 _ X3 e3 N3   (by unfold own_nm; rw [if_neg (by omega)])
      · skip
        have hi63 : ¬ 8256 < p0.toInt := fun q => hc63 (Int32.lt_iff_toInt_lt.mpr q)
        refine own_go (fun t_ kt_ => XS.icmpNo X3.here hx rfl (hb hby d1_63) rfl (flt hc63).2.2.1 kt_) ?_
        show own_Go p e below s _ _ _ (T3.setTop (mkF m 66 #[.val (.int p0)] []))
        exact J66 T3 _ X3 e3 N3   (by unfold own_nm; rw [if_pos (by omega)])
  have J31 : ∀ (T4 : State) (locs4 : List Loc) (X4 : Stand p l e ({ frames := 1, cells := 0, slots := 0, locals := 12 } : Room) s m #[(.int p0)] below meth c T4 locs4 0 0) (e4 : T4.heap = h0) (N4 : Fr n0 locs4) (hq : ¬ (65 ≤ p0.toInt ∧ p0.toInt ≤ 90) ∧ ¬ (97 ≤ p0.toInt ∧ p0.toInt ≤ 122) ∧ ¬ (192 ≤ p0.toInt ∧ p0.toInt ≤ 214) ∧ ¬ (216 ≤ p0.toInt ∧ p0.toInt ≤ 246) ∧ ¬ (248 ≤ p0.toInt ∧ p0.toInt ≤ 767) ∧ ¬ (880 ≤ p0.toInt ∧ p0.toInt ≤ 893) ∧ ¬ (895 ≤ p0.toInt ∧ p0.toInt ≤ 8191) ∧ ¬ (8204 ≤ p0.toInt ∧ p0.toInt ≤ 8205) ∧ ¬ (8304 ≤ p0.toInt ∧ p0.toInt ≤ 8591) ∧ ¬ (11264 ≤ p0.toInt ∧ p0.toInt ≤ 12271) ∧ ¬ (12289 ≤ p0.toInt ∧ p0.toInt ≤ 55295) ∧ ¬ (63744 ≤ p0.toInt ∧ p0.toInt ≤ 64975) ∧ ¬ (65008 ≤ p0.toInt ∧ p0.toInt ≤ 65533) ∧ ¬ (65536 ≤ p0.toInt ∧ p0.toInt ≤ 983039) ∧ ¬ (95 ≤ p0.toInt ∧ p0.toInt ≤ 95) ∧ ¬ (45 ≤ p0.toInt ∧ p0.toInt ≤ 45) ∧ ¬ (48 ≤ p0.toInt ∧ p0.toInt ≤ 57)), own_Go p e below s (Q1 Z p0 h0 n0) (({ frames := 1, cells := 0, slots := 0, locals := 12 } : Room)).cells (({ frames := 1, cells := 0, slots := 0, locals := 12 } : Room)).slots (T4.setTop (mkF m 31 #[.val (.int p0)] [])) := by
    intro T4 locs4 X4 e4 N4 hq
    refine own_go (fun t_ kt_ => XS.iloadN X4.here hx rfl (hb hby d1_31) rfl kt_) ?_
    show own_Go p e below s _ _ _ (T4.setTop (mkF m 32 #[.val (.int p0)] [(.int p0)]))
    refine own_go (fun t_ kt_ => XS.sipush X4.here hx rfl (hb hby d1_32) kt_) ?_
    show own_Go p e below s _ _ _ (T4.setTop (mkF m 35 #[.val (.int p0)] [(.int (183 : Int32)), (.int p0)]))
    by_cases hc35 : p0 = (183 : Int32)
    · skip
      have hi35 : p0.toInt = 183 := congrArg Int32.toInt hc35
      refine own_go (fun t_ kt_ => XS.icmpYes X4.here hx rfl (pc0 := 35) (pc' := 66) rfl (hb hby d1_35) rfl (teq hc35).1 (by decide) (by decide) kt_) ?_
      show own_Go p e below s _ _ _ (T4.setTop (mkF m 66 #[.val (.int p0)] []))
      exact J66 T4 _ X4 e4 N4   (by unfold own_nm; rw [if_pos (by omega)])
    · skip
      have hi35 : ¬ p0.toInt = 183 := fun q => hc35 (Int32.toInt_inj.mp q)
      refine own_go (fun t_ kt_ => XS.icmpNo X4.here hx rfl (hb hby d1_35) rfl (feq hc35).1 kt_) ?_
      show own_Go p e below s _ _ _ (T4.setTop (mkF m 38 #[.val (.int p0)] []))
      refine own_go (fun t_ kt_ => XS.iloadN X4.here hx rfl (hb hby d1_38) rfl kt_) ?_
      show own_Go p e below s _ _ _ (T4.setTop (mkF m 39 #[.val (.int p0)] [(.int p0)]))
      refine own_go (fun t_ kt_ => XS.sipush X4.here hx rfl (hb hby d1_39) kt_) ?_
      show own_Go p e below s _ _ _ (T4.setTop (mkF m 42 #[.val (.int p0)] [(.int (768 : Int32)), (.int p0)]))
      by_cases hc42 : p0 < (768 : Int32)
      · skip
        have hi42 : p0.toInt < 768 := Int32.lt_iff_toInt_lt.mp hc42
        refine own_go (fun t_ kt_ => XS.icmpYes X4.here hx rfl (pc0 := 42) (pc' := 52) rfl (hb hby d1_42) rfl (tlt hc42).1 (by decide) (by decide) kt_) ?_
        show own_Go p e below s _ _ _ (T4.setTop (mkF m 52 #[.val (.int p0)] []))
        exact J52 T4 _ X4 e4 N4   (by omega)
      · skip
        have hi42 : ¬ p0.toInt < 768 := fun q => hc42 (Int32.lt_iff_toInt_lt.mpr q)
        refine own_go (fun t_ kt_ => XS.icmpNo X4.here hx rfl (hb hby d1_42) rfl (flt hc42).1 kt_) ?_
        show own_Go p e below s _ _ _ (T4.setTop (mkF m 45 #[.val (.int p0)] []))
        refine own_go (fun t_ kt_ => XS.iloadN X4.here hx rfl (hb hby d1_45) rfl kt_) ?_
        show own_Go p e below s _ _ _ (T4.setTop (mkF m 46 #[.val (.int p0)] [(.int p0)]))
        refine own_go (fun t_ kt_ => XS.sipush X4.here hx rfl (hb hby d1_46) kt_) ?_
        show own_Go p e below s _ _ _ (T4.setTop (mkF m 49 #[.val (.int p0)] [(.int (879 : Int32)), (.int p0)]))
        by_cases hc49 : (879 : Int32) < p0
        · skip
          have hi49 : 879 < p0.toInt := Int32.lt_iff_toInt_lt.mp hc49
          refine own_go (fun t_ kt_ => XS.icmpNo X4.here hx rfl (hb hby d1_49) rfl (tlt hc49).2.2.2 kt_) ?_
          show own_Go p e below s _ _ _ (T4.setTop (mkF m 52 #[.val (.int p0)] []))
          exact J52 T4 _ X4 e4 N4   (by omega)
        · skip
          have hi49 : ¬ 879 < p0.toInt := fun q => hc49 (Int32.lt_iff_toInt_lt.mpr q)
          refine own_go (fun t_ kt_ => XS.icmpYes X4.here hx rfl (pc0 := 49) (pc' := 66) rfl (hb hby d1_49) rfl (flt hc49).2.2.2 (by decide) (by decide) kt_) ?_
          show own_Go p e below s _ _ _ (T4.setTop (mkF m 66 #[.val (.int p0)] []))
          exact J66 T4 _ X4 e4 N4   (by unfold own_nm; rw [if_pos (by omega)])
  refine own_go (fun t_ kt_ => XS.iloadN X0.here hx rfl (hb hby d1_0) rfl kt_) ?_
  show own_Go p e below s _ _ _ (s₁.setTop (mkF m 1 #[.val (.int p0)] [(.int p0)]))
  obtain ⟨_, _, ⟨T5, L5, k5, n5⟩, -, X5, ⟨Lc5, hQ5, l5, y5, z5⟩, st5⟩ := Jvm.LawKit.callS X0 hx (y := (⟨"com/example/provfold/provfold/QualifiedName", "isNameBase", "(I)Z"⟩ : MethodName)) hown (mvT hZ (hw _ (List.mem_of_getElem? (i := 13) rfl))) (mvT hZ (hw _ (List.mem_of_getElem? (i := 14) rfl))) (mvT hZ (hw _ (List.mem_of_getElem? (i := 11) rfl))) (mvT hZ (hw _ (List.mem_of_getElem? (i := 15) rfl))) (by decide) (backOf (W := 0) (rm2 l Z a0 hw [] (p0) h0 n0 Z0 ) hZ (hw _ (List.mem_of_getElem? (i := 15) rfl)) (hw _ (List.mem_of_getElem? (i := 11) rfl)) (by decide) (by decide)) (g := (mkF m 1 #[.val (.int p0)] [(.int p0)])) rfl (by rw [hml]; rfl) (argsL := [(.int p0)]) (rest := []) (lenOf pd_0 rfl) rfl (by show 2 * 0 + _ ≤ _; exact Nat.le_of_eq rfl) (hb hby d1_1) (fun _ _ => ⟨rfl, e0, (by decide : 0 + 0 ≤ _), (by decide : 0 + 0 ≤ _)⟩)
  dsimp only [Pt.U, Pt.locs, Pt.cells, Pt.slots] at X5 l5 y5 z5 st5 hQ5
  subst l5 y5 z5
  obtain ⟨rfl, Nq5, eh5⟩ := hQ5
  have N5 := Fr.app N0 Nq5
  refine own_go (fun t_ kt_ => st5 _ kt_) ?_
  obtain ⟨lo5, X5g, N5g⟩ : ∃ lo, Stand p l e ({ frames := 1, cells := 0, slots := 0, locals := 12 } : Room) s m #[(.int p0)] below meth c T5 lo 0 0 ∧ Fr n0 lo := ⟨_, X5, N5⟩
  have e5 : T5.heap = h0 := eh5
  show own_Go p e below s _ _ _ (T5.setTop (mkF m 4 #[.val (.int p0)] [(.int (own_nb p0.toInt))]))
  by_cases hc4 : (own_nb p0.toInt) = (0 : Int32)
  · skip
    have hi4 : ((own_nb p0.toInt)).toInt = 0 := congrArg Int32.toInt hc4
    refine own_go (fun t_ kt_ => XS.ifNo X5g.here hx rfl (hb hby d1_4) rfl ((if0 _ _).trans (teq hc4).2) kt_) ?_
    show own_Go p e below s _ _ _ (T5.setTop (mkF m 7 #[.val (.int p0)] []))
    have hb4 := own_nb0 hc4
    refine own_go (fun t_ kt_ => XS.iloadN X5g.here hx rfl (hb hby d1_7) rfl kt_) ?_
    show own_Go p e below s _ _ _ (T5.setTop (mkF m 8 #[.val (.int p0)] [(.int p0)]))
    refine own_go (fun t_ kt_ => XS.bipush X5g.here hx rfl (hb hby d1_8) kt_) ?_
    show own_Go p e below s _ _ _ (T5.setTop (mkF m 10 #[.val (.int p0)] [(.int (95 : Int32)), (.int p0)]))
    by_cases hc10 : p0 = (95 : Int32)
    · skip
      have hi10 : p0.toInt = 95 := congrArg Int32.toInt hc10
      refine own_go (fun t_ kt_ => XS.icmpYes X5g.here hx rfl (pc0 := 10) (pc' := 66) rfl (hb hby d1_10) rfl (teq hc10).1 (by decide) (by decide) kt_) ?_
      show own_Go p e below s _ _ _ (T5.setTop (mkF m 66 #[.val (.int p0)] []))
      exact J66 T5 _ X5g e5 N5g   (by unfold own_nm; rw [if_pos (by omega)])
    · skip
      have hi10 : ¬ p0.toInt = 95 := fun q => hc10 (Int32.toInt_inj.mp q)
      refine own_go (fun t_ kt_ => XS.icmpNo X5g.here hx rfl (hb hby d1_10) rfl (feq hc10).1 kt_) ?_
      show own_Go p e below s _ _ _ (T5.setTop (mkF m 13 #[.val (.int p0)] []))
      refine own_go (fun t_ kt_ => XS.iloadN X5g.here hx rfl (hb hby d1_13) rfl kt_) ?_
      show own_Go p e below s _ _ _ (T5.setTop (mkF m 14 #[.val (.int p0)] [(.int p0)]))
      refine own_go (fun t_ kt_ => XS.bipush X5g.here hx rfl (hb hby d1_14) kt_) ?_
      show own_Go p e below s _ _ _ (T5.setTop (mkF m 16 #[.val (.int p0)] [(.int (45 : Int32)), (.int p0)]))
      by_cases hc16 : p0 = (45 : Int32)
      · skip
        have hi16 : p0.toInt = 45 := congrArg Int32.toInt hc16
        refine own_go (fun t_ kt_ => XS.icmpYes X5g.here hx rfl (pc0 := 16) (pc' := 66) rfl (hb hby d1_16) rfl (teq hc16).1 (by decide) (by decide) kt_) ?_
        show own_Go p e below s _ _ _ (T5.setTop (mkF m 66 #[.val (.int p0)] []))
        exact J66 T5 _ X5g e5 N5g   (by unfold own_nm; rw [if_pos (by omega)])
      · skip
        have hi16 : ¬ p0.toInt = 45 := fun q => hc16 (Int32.toInt_inj.mp q)
        refine own_go (fun t_ kt_ => XS.icmpNo X5g.here hx rfl (hb hby d1_16) rfl (feq hc16).1 kt_) ?_
        show own_Go p e below s _ _ _ (T5.setTop (mkF m 19 #[.val (.int p0)] []))
        refine own_go (fun t_ kt_ => XS.iloadN X5g.here hx rfl (hb hby d1_19) rfl kt_) ?_
        show own_Go p e below s _ _ _ (T5.setTop (mkF m 20 #[.val (.int p0)] [(.int p0)]))
        refine own_go (fun t_ kt_ => XS.bipush X5g.here hx rfl (hb hby d1_20) kt_) ?_
        show own_Go p e below s _ _ _ (T5.setTop (mkF m 22 #[.val (.int p0)] [(.int (48 : Int32)), (.int p0)]))
        by_cases hc22 : p0 < (48 : Int32)
        · skip
          have hi22 : p0.toInt < 48 := Int32.lt_iff_toInt_lt.mp hc22
          refine own_go (fun t_ kt_ => XS.icmpYes X5g.here hx rfl (pc0 := 22) (pc' := 31) rfl (hb hby d1_22) rfl (tlt hc22).1 (by decide) (by decide) kt_) ?_
          show own_Go p e below s _ _ _ (T5.setTop (mkF m 31 #[.val (.int p0)] []))
          exact J31 T5 _ X5g e5 N5g   (by omega)
        · skip
          have hi22 : ¬ p0.toInt < 48 := fun q => hc22 (Int32.lt_iff_toInt_lt.mpr q)
          refine own_go (fun t_ kt_ => XS.icmpNo X5g.here hx rfl (hb hby d1_22) rfl (flt hc22).1 kt_) ?_
          show own_Go p e below s _ _ _ (T5.setTop (mkF m 25 #[.val (.int p0)] []))
          refine own_go (fun t_ kt_ => XS.iloadN X5g.here hx rfl (hb hby d1_25) rfl kt_) ?_
          show own_Go p e below s _ _ _ (T5.setTop (mkF m 26 #[.val (.int p0)] [(.int p0)]))
          refine own_go (fun t_ kt_ => XS.bipush X5g.here hx rfl (hb hby d1_26) kt_) ?_
          show own_Go p e below s _ _ _ (T5.setTop (mkF m 28 #[.val (.int p0)] [(.int (57 : Int32)), (.int p0)]))
          by_cases hc28 : (57 : Int32) < p0
          · skip
            have hi28 : 57 < p0.toInt := Int32.lt_iff_toInt_lt.mp hc28
            refine own_go (fun t_ kt_ => XS.icmpNo X5g.here hx rfl (hb hby d1_28) rfl (tlt hc28).2.2.2 kt_) ?_
            show own_Go p e below s _ _ _ (T5.setTop (mkF m 31 #[.val (.int p0)] []))
            exact J31 T5 _ X5g e5 N5g   (by omega)
          · skip
            have hi28 : ¬ 57 < p0.toInt := fun q => hc28 (Int32.lt_iff_toInt_lt.mpr q)
            refine own_go (fun t_ kt_ => XS.icmpYes X5g.here hx rfl (pc0 := 28) (pc' := 66) rfl (hb hby d1_28) rfl (flt hc28).2.2.2 (by decide) (by decide) kt_) ?_
            show own_Go p e below s _ _ _ (T5.setTop (mkF m 66 #[.val (.int p0)] []))
            exact J66 T5 _ X5g e5 N5g   (by unfold own_nm; rw [if_pos (by omega)])
  · skip
    have hi4 : ¬ ((own_nb p0.toInt)).toInt = 0 := fun q => hc4 (Int32.toInt_inj.mp q)
    refine own_go (fun t_ kt_ => XS.ifYes X5g.here hx rfl (pc0 := 4) (pc' := 66) rfl (hb hby d1_4) rfl ((if0 _ _).trans (feq hc4).2) (by decide) (by decide) kt_) ?_
    show own_Go p e below s _ _ _ (T5.setTop (mkF m 66 #[.val (.int p0)] []))
    have hb4 := own_nb1 hc4
    exact J66 T5 _ X5g e5 N5g   (by unfold own_nm; rw [if_pos (by omega)])
theorem pn_1 : plainName "com/example/provfold/provfold/QualifiedNameIsNameCharacterPinLaw" = true := by first | (simp [plainName, overriddenIn]; done) | decide +kernel
theorem d4_0 : decode method_2_code 0 = .ok (.iload_n 0, 1) := by decide +kernel
theorem d4_1 : decode method_2_code 1 = .ok (.iload_n 1, 1) := by decide +kernel
theorem d4_2 : decode method_2_code 2 = .ok (.if_icmp .lt 12, 3) := by decide +kernel
theorem d4_14 : decode method_2_code 14 = .ok (.iconst 0, 1) := by decide +kernel
theorem d4_15 : decode method_2_code 15 = .ok (.ireturn, 1) := by decide +kernel
theorem d4_5 : decode method_2_code 5 = .ok (.iload_n 0, 1) := by decide +kernel
theorem d4_6 : decode method_2_code 6 = .ok (.iload_n 2, 1) := by decide +kernel
theorem d4_7 : decode method_2_code 7 = .ok (.if_icmp .gt 7, 3) := by decide +kernel
theorem d4_10 : decode method_2_code 10 = .ok (.iconst 1, 1) := by decide +kernel
theorem d4_11 : decode method_2_code 11 = .ok (.goto 4, 3) := by decide +kernel
theorem ef_4 (m : MethodId) (p0 : Int32) (p1 : Int32) (p2 : Int32) : entryFrame m #[(.int p0), (.int p1), (.int p2)] 3 = mkF m 0 #[.val (.int p0), .val (.int p1), .val (.int p2)] [] := by first | (simp [entryFrame, mkF, argsToLocals, Value.category]; done) | rfl
def Q4 (Z : State) (p0 : Int32) (p1 : Int32) (p2 : Int32) (h0 : Heap) (n0 : Nat) (v : Option Value) (h : Heap) (L : List Loc) : Prop := v = some (.int (own_io p0 p1 p2)) ∧ Fr n0 L ∧ h = h0
set_option maxRecDepth 65536 in
set_option maxHeartbeats 40000000 in
theorem rm4 (l : Launch) (Z : State) (a0 : Array Value) (hw : ∀ d ∈ tables_1, d.before a0 Z = true) (ws : List Jvm.Cond) (p0 : Int32) (p1 : Int32) (p2 : Int32) (h0 : Heap) (n0 : Nat) (Z0 : n0 ≤ h0.size) :
    MetFree l (⟨"com/example/provfold/provfold/QualifiedNameIsNameCharacterPinLaw", "in", "(III)Z"⟩ : MethodName) (head1 (Jvm.Cond.code (⟨"com/example/provfold/provfold/QualifiedNameIsNameCharacterPinLaw", "in", "(III)Z"⟩ : MethodName) method_2_code 3 (some .boolean) :: ws) ({ frames := 0, cells := 0, slots := 0, locals := 0 } : Room)) (fun a U => a = #[(.int p0), (.int p1), (.int p2)] ∧ Z.Warmed39 U.vm ∧ U.heap = h0) (fun _ _ _ _ _ => True) (fun _ U o U' => ∃ v L, o = .returned v ∧ Q4 Z p0 p1 p2 h0 n0 v U'.heap L ∧ FrameEnd U o U' L (({ frames := 0, cells := 0, slots := 0, locals := 0 } : Room)).cells (({ frames := 0, cells := 0, slots := 0, locals := 0 } : Room)).slots) := by
  refine MetFree.of_bodySF (plainFor_of_name pn_1) hisR ?_
  intro p e s m args below meth c s₁ Bd hml0 hP hK
  obtain ⟨rfl, hZ, hh⟩ := hP
  have hx := Bd.exec
  have hby := Bd.bytes
  have hml : c.maxLocals = 3 := hml0
  have hown : s.vm.findClass "com/example/provfold/provfold/QualifiedNameIsNameCharacterPinLaw" = some m.cls := findClass_of_methodNamed Bd.named
  have hnm := (name_of_methodNamed Bd.named Bd.method).1
  have hlk : meth.locks = false := Bd.notSynchronized
  have X0 : Stand p l e ({ frames := 0, cells := 0, slots := 0, locals := 0 } : Room) s m #[(.int p0), (.int p1), (.int p2)] below meth c s₁ [] 0 0 := Stand.of_body Bd
  have e0 : s₁.heap = h0 := by rw [← hh, Bd.state]; rfl
  have N0 := Fr.nil n0
  have hret := Bd.returns
  show own_Go p e below s (Q4 Z p0 p1 p2 h0 n0) _ _ (s₁.setTop (entryFrame m #[(.int p0), (.int p1), (.int p2)] 3))
  refine own_go (fun t k => castTop (ef_4 m p0 p1 p2) k) ?_
  show own_Go p e below s _ _ _ (s₁.setTop (mkF m 0 #[.val (.int p0), .val (.int p1), .val (.int p2)] []))
  refine own_go (fun t_ kt_ => XS.iloadN X0.here hx rfl (hb hby d4_0) rfl kt_) ?_
  show own_Go p e below s _ _ _ (s₁.setTop (mkF m 1 #[.val (.int p0), .val (.int p1), .val (.int p2)] [(.int p0)]))
  refine own_go (fun t_ kt_ => XS.iloadN X0.here hx rfl (hb hby d4_1) rfl kt_) ?_
  show own_Go p e below s _ _ _ (s₁.setTop (mkF m 2 #[.val (.int p0), .val (.int p1), .val (.int p2)] [(.int p1), (.int p0)]))
  by_cases hc2 : p0 < p1
  · skip
    have hi2 : p0.toInt < p1.toInt := Int32.lt_iff_toInt_lt.mp hc2
    refine own_go (fun t_ kt_ => XS.icmpYes X0.here hx rfl (pc0 := 2) (pc' := 14) rfl (hb hby d4_2) rfl (tlt hc2).1 (by decide) (by decide) kt_) ?_
    show own_Go p e below s _ _ _ (s₁.setTop (mkF m 14 #[.val (.int p0), .val (.int p1), .val (.int p2)] []))
    refine own_go (fun t_ kt_ => XS.iconst X0.here hx rfl (hb hby d4_14) kt_) ?_
    show own_Go p e below s _ _ _ (s₁.setTop (mkF m 15 #[.val (.int p0), .val (.int p1), .val (.int p2)] [(.int (0 : Int32))]))
    refine own_ret X0 (v := some (.int (0 : Int32))) (fun h => by rw [hret] at h; cases h) hlk ?_ (by decide) (by decide) (fun fs hr => retN X0 hx (t := .boolean) hret (by simp) (hb hby d4_15) hr)
    show Q4 Z p0 p1 p2 h0 n0 (some (.int (0 : Int32))) s₁.heap _
    rw [e0]
    exact ⟨congrArg (fun z => some (Value.int z)) (by unfold own_io; first | rw [if_pos (by omega)] | rw [if_neg (by omega)]), N0, rfl⟩
  · skip
    have hi2 : ¬ p0.toInt < p1.toInt := fun q => hc2 (Int32.lt_iff_toInt_lt.mpr q)
    refine own_go (fun t_ kt_ => XS.icmpNo X0.here hx rfl (hb hby d4_2) rfl (flt hc2).1 kt_) ?_
    show own_Go p e below s _ _ _ (s₁.setTop (mkF m 5 #[.val (.int p0), .val (.int p1), .val (.int p2)] []))
    refine own_go (fun t_ kt_ => XS.iloadN X0.here hx rfl (hb hby d4_5) rfl kt_) ?_
    show own_Go p e below s _ _ _ (s₁.setTop (mkF m 6 #[.val (.int p0), .val (.int p1), .val (.int p2)] [(.int p0)]))
    refine own_go (fun t_ kt_ => XS.iloadN X0.here hx rfl (hb hby d4_6) rfl kt_) ?_
    show own_Go p e below s _ _ _ (s₁.setTop (mkF m 7 #[.val (.int p0), .val (.int p1), .val (.int p2)] [(.int p2), (.int p0)]))
    by_cases hc7 : p2 < p0
    · skip
      have hi7 : p2.toInt < p0.toInt := Int32.lt_iff_toInt_lt.mp hc7
      refine own_go (fun t_ kt_ => XS.icmpYes X0.here hx rfl (pc0 := 7) (pc' := 14) rfl (hb hby d4_7) rfl (tlt hc7).2.2.1 (by decide) (by decide) kt_) ?_
      show own_Go p e below s _ _ _ (s₁.setTop (mkF m 14 #[.val (.int p0), .val (.int p1), .val (.int p2)] []))
      refine own_go (fun t_ kt_ => XS.iconst X0.here hx rfl (hb hby d4_14) kt_) ?_
      show own_Go p e below s _ _ _ (s₁.setTop (mkF m 15 #[.val (.int p0), .val (.int p1), .val (.int p2)] [(.int (0 : Int32))]))
      refine own_ret X0 (v := some (.int (0 : Int32))) (fun h => by rw [hret] at h; cases h) hlk ?_ (by decide) (by decide) (fun fs hr => retN X0 hx (t := .boolean) hret (by simp) (hb hby d4_15) hr)
      show Q4 Z p0 p1 p2 h0 n0 (some (.int (0 : Int32))) s₁.heap _
      rw [e0]
      exact ⟨congrArg (fun z => some (Value.int z)) (by unfold own_io; first | rw [if_pos (by omega)] | rw [if_neg (by omega)]), N0, rfl⟩
    · skip
      have hi7 : ¬ p2.toInt < p0.toInt := fun q => hc7 (Int32.lt_iff_toInt_lt.mpr q)
      refine own_go (fun t_ kt_ => XS.icmpNo X0.here hx rfl (hb hby d4_7) rfl (flt hc7).2.2.1 kt_) ?_
      show own_Go p e below s _ _ _ (s₁.setTop (mkF m 10 #[.val (.int p0), .val (.int p1), .val (.int p2)] []))
      refine own_go (fun t_ kt_ => XS.iconst X0.here hx rfl (hb hby d4_10) kt_) ?_
      show own_Go p e below s _ _ _ (s₁.setTop (mkF m 11 #[.val (.int p0), .val (.int p1), .val (.int p2)] [(.int (1 : Int32))]))
      refine own_go (fun t_ kt_ => XS.goto X0.here hx rfl (pc0 := 11) (pc' := 15) rfl (hb hby d4_11) (by decide) (by decide) kt_) ?_
      show own_Go p e below s _ _ _ (s₁.setTop (mkF m 15 #[.val (.int p0), .val (.int p1), .val (.int p2)] [(.int (1 : Int32))]))
      refine own_ret X0 (v := some (.int (1 : Int32))) (fun h => by rw [hret] at h; cases h) hlk ?_ (by decide) (by decide) (fun fs hr => retN X0 hx (t := .boolean) hret (by simp) (hb hby d4_15) hr)
      show Q4 Z p0 p1 p2 h0 n0 (some (.int (1 : Int32))) s₁.heap _
      rw [e0]
      exact ⟨congrArg (fun z => some (Value.int z)) (by unfold own_io; first | rw [if_pos (by omega)] | rw [if_neg (by omega)]), N0, rfl⟩
theorem d3_60 : decode method_3_code 60 = .ok (.iconst 1, 1) := by decide +kernel
theorem d3_61 : decode method_3_code 61 = .ok (.goto 4, 3) := by decide +kernel
theorem d3_65 : decode method_3_code 65 = .ok (.ireturn, 1) := by decide +kernel
theorem d3_132 : decode method_3_code 132 = .ok (.iconst 1, 1) := by decide +kernel
theorem d3_133 : decode method_3_code 133 = .ok (.goto 4, 3) := by decide +kernel
theorem d3_137 : decode method_3_code 137 = .ok (.ireturn, 1) := by decide +kernel
theorem d3_230 : decode method_3_code 230 = .ok (.iconst 1, 1) := by decide +kernel
theorem d3_231 : decode method_3_code 231 = .ok (.goto 4, 3) := by decide +kernel
theorem d3_235 : decode method_3_code 235 = .ok (.ireturn, 1) := by decide +kernel
theorem d3_0 : decode method_3_code 0 = .ok (.iload_n 0, 1) := by decide +kernel
theorem d3_1 : decode method_3_code 1 = .ok (.bipush 45, 2) := by decide +kernel
theorem d3_3 : decode method_3_code 3 = .ok (.if_icmp .ge 5, 3) := by decide +kernel
theorem d3_6 : decode method_3_code 6 = .ok (.iconst 0, 1) := by decide +kernel
theorem d3_7 : decode method_3_code 7 = .ok (.ireturn, 1) := by decide +kernel
theorem d3_8 : decode method_3_code 8 = .ok (.iload_n 0, 1) := by decide +kernel
theorem d3_9 : decode method_3_code 9 = .ok (.sipush 128, 3) := by decide +kernel
theorem d3_12 : decode method_3_code 12 = .ok (.if_icmp .ge 54, 3) := by decide +kernel
theorem d3_15 : decode method_3_code 15 = .ok (.iload_n 0, 1) := by decide +kernel
theorem d3_16 : decode method_3_code 16 = .ok (.bipush 45, 2) := by decide +kernel
theorem d3_18 : decode method_3_code 18 = .ok (.if_icmp .eq 42, 3) := by decide +kernel
theorem d3_21 : decode method_3_code 21 = .ok (.iload_n 0, 1) := by decide +kernel
theorem d3_22 : decode method_3_code 22 = .ok (.bipush 48, 2) := by decide +kernel
theorem d3_24 : decode method_3_code 24 = .ok (.bipush 57, 2) := by decide +kernel
theorem d3_26 : decode method_3_code 26 = .ok (.invokestatic 7, 3) := by decide +kernel
theorem pd_1 : parseMethodDescriptor "(III)Z" = some ⟨[.int, .int, .int], some .boolean⟩ := by decide +kernel
theorem d3_29 : decode method_3_code 29 = .ok (.ifCond .ne 31, 3) := by decide +kernel
theorem d3_32 : decode method_3_code 32 = .ok (.iload_n 0, 1) := by decide +kernel
theorem d3_33 : decode method_3_code 33 = .ok (.bipush 65, 2) := by decide +kernel
theorem d3_35 : decode method_3_code 35 = .ok (.bipush 90, 2) := by decide +kernel
theorem d3_37 : decode method_3_code 37 = .ok (.invokestatic 7, 3) := by decide +kernel
theorem d3_40 : decode method_3_code 40 = .ok (.ifCond .ne 20, 3) := by decide +kernel
theorem d3_43 : decode method_3_code 43 = .ok (.iload_n 0, 1) := by decide +kernel
theorem d3_44 : decode method_3_code 44 = .ok (.bipush 95, 2) := by decide +kernel
theorem d3_46 : decode method_3_code 46 = .ok (.if_icmp .eq 14, 3) := by decide +kernel
theorem d3_49 : decode method_3_code 49 = .ok (.iload_n 0, 1) := by decide +kernel
theorem d3_50 : decode method_3_code 50 = .ok (.bipush 97, 2) := by decide +kernel
theorem d3_52 : decode method_3_code 52 = .ok (.bipush 122, 2) := by decide +kernel
theorem d3_54 : decode method_3_code 54 = .ok (.invokestatic 7, 3) := by decide +kernel
theorem d3_57 : decode method_3_code 57 = .ok (.ifCond .eq 7, 3) := by decide +kernel
theorem d3_64 : decode method_3_code 64 = .ok (.iconst 0, 1) := by decide +kernel
theorem d3_66 : decode method_3_code 66 = .ok (.iload_n 0, 1) := by decide +kernel
theorem d3_67 : decode method_3_code 67 = .ok (.sipush 8192, 3) := by decide +kernel
theorem d3_70 : decode method_3_code 70 = .ok (.if_icmp .ge 68, 3) := by decide +kernel
theorem d3_73 : decode method_3_code 73 = .ok (.iload_n 0, 1) := by decide +kernel
theorem d3_74 : decode method_3_code 74 = .ok (.sipush 183, 3) := by decide +kernel
theorem d3_77 : decode method_3_code 77 = .ok (.if_icmp .eq 55, 3) := by decide +kernel
theorem d3_80 : decode method_3_code 80 = .ok (.iload_n 0, 1) := by decide +kernel
theorem d3_81 : decode method_3_code 81 = .ok (.sipush 192, 3) := by decide +kernel
theorem d3_84 : decode method_3_code 84 = .ok (.sipush 214, 3) := by decide +kernel
theorem d3_87 : decode method_3_code 87 = .ok (.invokestatic 7, 3) := by decide +kernel
theorem d3_90 : decode method_3_code 90 = .ok (.ifCond .ne 42, 3) := by decide +kernel
theorem d3_93 : decode method_3_code 93 = .ok (.iload_n 0, 1) := by decide +kernel
theorem d3_94 : decode method_3_code 94 = .ok (.sipush 216, 3) := by decide +kernel
theorem d3_97 : decode method_3_code 97 = .ok (.sipush 246, 3) := by decide +kernel
theorem d3_100 : decode method_3_code 100 = .ok (.invokestatic 7, 3) := by decide +kernel
theorem d3_103 : decode method_3_code 103 = .ok (.ifCond .ne 29, 3) := by decide +kernel
theorem d3_106 : decode method_3_code 106 = .ok (.iload_n 0, 1) := by decide +kernel
theorem d3_107 : decode method_3_code 107 = .ok (.sipush 248, 3) := by decide +kernel
theorem d3_110 : decode method_3_code 110 = .ok (.sipush 893, 3) := by decide +kernel
theorem d3_113 : decode method_3_code 113 = .ok (.invokestatic 7, 3) := by decide +kernel
theorem d3_116 : decode method_3_code 116 = .ok (.ifCond .ne 16, 3) := by decide +kernel
theorem d3_119 : decode method_3_code 119 = .ok (.iload_n 0, 1) := by decide +kernel
theorem d3_120 : decode method_3_code 120 = .ok (.sipush 895, 3) := by decide +kernel
theorem d3_123 : decode method_3_code 123 = .ok (.sipush 8191, 3) := by decide +kernel
theorem d3_126 : decode method_3_code 126 = .ok (.invokestatic 7, 3) := by decide +kernel
theorem d3_129 : decode method_3_code 129 = .ok (.ifCond .eq 7, 3) := by decide +kernel
theorem d3_136 : decode method_3_code 136 = .ok (.iconst 0, 1) := by decide +kernel
theorem d3_138 : decode method_3_code 138 = .ok (.iload_n 0, 1) := by decide +kernel
theorem d3_139 : decode method_3_code 139 = .ok (.ldc 13, 2) := by decide +kernel
theorem d3_141 : decode method_3_code 141 = .ok (.if_icmp .ge 95, 3) := by decide +kernel
theorem d3_144 : decode method_3_code 144 = .ok (.iload_n 0, 1) := by decide +kernel
theorem d3_145 : decode method_3_code 145 = .ok (.sipush 8204, 3) := by decide +kernel
theorem d3_148 : decode method_3_code 148 = .ok (.sipush 8205, 3) := by decide +kernel
theorem d3_151 : decode method_3_code 151 = .ok (.invokestatic 7, 3) := by decide +kernel
theorem d3_154 : decode method_3_code 154 = .ok (.ifCond .ne 76, 3) := by decide +kernel
theorem d3_157 : decode method_3_code 157 = .ok (.iload_n 0, 1) := by decide +kernel
theorem d3_158 : decode method_3_code 158 = .ok (.sipush 8255, 3) := by decide +kernel
theorem d3_161 : decode method_3_code 161 = .ok (.sipush 8256, 3) := by decide +kernel
theorem d3_164 : decode method_3_code 164 = .ok (.invokestatic 7, 3) := by decide +kernel
theorem d3_167 : decode method_3_code 167 = .ok (.ifCond .ne 63, 3) := by decide +kernel
theorem d3_170 : decode method_3_code 170 = .ok (.iload_n 0, 1) := by decide +kernel
theorem d3_171 : decode method_3_code 171 = .ok (.sipush 8304, 3) := by decide +kernel
theorem d3_174 : decode method_3_code 174 = .ok (.sipush 8591, 3) := by decide +kernel
theorem d3_177 : decode method_3_code 177 = .ok (.invokestatic 7, 3) := by decide +kernel
theorem d3_180 : decode method_3_code 180 = .ok (.ifCond .ne 50, 3) := by decide +kernel
theorem d3_183 : decode method_3_code 183 = .ok (.iload_n 0, 1) := by decide +kernel
theorem d3_184 : decode method_3_code 184 = .ok (.sipush 11264, 3) := by decide +kernel
theorem d3_187 : decode method_3_code 187 = .ok (.sipush 12271, 3) := by decide +kernel
theorem d3_190 : decode method_3_code 190 = .ok (.invokestatic 7, 3) := by decide +kernel
theorem d3_193 : decode method_3_code 193 = .ok (.ifCond .ne 37, 3) := by decide +kernel
theorem d3_196 : decode method_3_code 196 = .ok (.iload_n 0, 1) := by decide +kernel
theorem d3_197 : decode method_3_code 197 = .ok (.sipush 12289, 3) := by decide +kernel
theorem d3_200 : decode method_3_code 200 = .ok (.ldc 14, 2) := by decide +kernel
theorem d3_202 : decode method_3_code 202 = .ok (.invokestatic 7, 3) := by decide +kernel
theorem d3_205 : decode method_3_code 205 = .ok (.ifCond .ne 25, 3) := by decide +kernel
theorem d3_208 : decode method_3_code 208 = .ok (.iload_n 0, 1) := by decide +kernel
theorem d3_209 : decode method_3_code 209 = .ok (.ldc 15, 2) := by decide +kernel
theorem d3_211 : decode method_3_code 211 = .ok (.ldc 16, 2) := by decide +kernel
theorem d3_213 : decode method_3_code 213 = .ok (.invokestatic 7, 3) := by decide +kernel
theorem d3_216 : decode method_3_code 216 = .ok (.ifCond .ne 14, 3) := by decide +kernel
theorem d3_219 : decode method_3_code 219 = .ok (.iload_n 0, 1) := by decide +kernel
theorem d3_220 : decode method_3_code 220 = .ok (.ldc 17, 2) := by decide +kernel
theorem d3_222 : decode method_3_code 222 = .ok (.ldc 18, 2) := by decide +kernel
theorem d3_224 : decode method_3_code 224 = .ok (.invokestatic 7, 3) := by decide +kernel
theorem d3_227 : decode method_3_code 227 = .ok (.ifCond .eq 7, 3) := by decide +kernel
theorem d3_234 : decode method_3_code 234 = .ok (.iconst 0, 1) := by decide +kernel
theorem d3_236 : decode method_3_code 236 = .ok (.iload_n 0, 1) := by decide +kernel
theorem d3_237 : decode method_3_code 237 = .ok (.ldc 19, 2) := by decide +kernel
theorem d3_239 : decode method_3_code 239 = .ok (.if_icmp .gt 7, 3) := by decide +kernel
theorem d3_246 : decode method_3_code 246 = .ok (.iconst 0, 1) := by decide +kernel
theorem d3_247 : decode method_3_code 247 = .ok (.ireturn, 1) := by decide +kernel
theorem d3_242 : decode method_3_code 242 = .ok (.iconst 1, 1) := by decide +kernel
theorem d3_243 : decode method_3_code 243 = .ok (.goto 4, 3) := by decide +kernel
theorem ef_3 (m : MethodId) (p0 : Int32) : entryFrame m #[(.int p0)] 1 = mkF m 0 #[.val (.int p0)] [] := by first | (simp [entryFrame, mkF, argsToLocals, Value.category]; done) | rfl
def Q3 (Z : State) (p0 : Int32) (h0 : Heap) (n0 : Nat) (v : Option Value) (h : Heap) (L : List Loc) : Prop := v = some (.int (own_nm p0.toInt)) ∧ Fr n0 L ∧ h = h0
set_option maxRecDepth 65536 in
set_option maxHeartbeats 40000000 in
theorem rm3 (l : Launch) (Z : State) (a0 : Array Value) (hw : ∀ d ∈ tables_1, d.before a0 Z = true) (ws : List Jvm.Cond) (p0 : Int32) (h0 : Heap) (n0 : Nat) (Z0 : n0 ≤ h0.size) :
    MetFree l (⟨"com/example/provfold/provfold/QualifiedNameIsNameCharacterPinLaw", "ref", "(I)Z"⟩ : MethodName) (head1 (Jvm.Cond.code (⟨"com/example/provfold/provfold/QualifiedNameIsNameCharacterPinLaw", "ref", "(I)Z"⟩ : MethodName) method_3_code 1 (some .boolean) :: ws) ({ frames := 1, cells := 0, slots := 0, locals := 14 } : Room)) (fun a U => a = #[(.int p0)] ∧ Z.Warmed39 U.vm ∧ U.heap = h0) (fun _ _ _ _ _ => True) (fun _ U o U' => ∃ v L, o = .returned v ∧ Q3 Z p0 h0 n0 v U'.heap L ∧ FrameEnd U o U' L (({ frames := 1, cells := 0, slots := 0, locals := 14 } : Room)).cells (({ frames := 1, cells := 0, slots := 0, locals := 14 } : Room)).slots) := by
  refine MetFree.of_bodySF (plainFor_of_name pn_1) hisR ?_
  intro p e s m args below meth c s₁ Bd hml0 hP hK
  obtain ⟨rfl, hZ, hh⟩ := hP
  have hx := Bd.exec
  have hby := Bd.bytes
  have hml : c.maxLocals = 1 := hml0
  have hown : s.vm.findClass "com/example/provfold/provfold/QualifiedNameIsNameCharacterPinLaw" = some m.cls := findClass_of_methodNamed Bd.named
  have hnm := (name_of_methodNamed Bd.named Bd.method).1
  have hlk : meth.locks = false := Bd.notSynchronized
  have X0 : Stand p l e ({ frames := 1, cells := 0, slots := 0, locals := 14 } : Room) s m #[(.int p0)] below meth c s₁ [] 0 0 := Stand.of_body Bd
  have e0 : s₁.heap = h0 := by rw [← hh, Bd.state]; rfl
  have N0 := Fr.nil n0
  have hret := Bd.returns
  show own_Go p e below s (Q3 Z p0 h0 n0) _ _ (s₁.setTop (entryFrame m #[(.int p0)] 1))
  refine own_go (fun t k => castTop (ef_3 m p0) k) ?_
  show own_Go p e below s _ _ _ (s₁.setTop (mkF m 0 #[.val (.int p0)] []))
  have J60 : ∀ (T1 : State) (locs1 : List Loc) (X1 : Stand p l e ({ frames := 1, cells := 0, slots := 0, locals := 14 } : Room) s m #[(.int p0)] below meth c T1 locs1 0 0) (e1 : T1.heap = h0) (N1 : Fr n0 locs1) (hq : own_nm p0.toInt = 1), own_Go p e below s (Q3 Z p0 h0 n0) (({ frames := 1, cells := 0, slots := 0, locals := 14 } : Room)).cells (({ frames := 1, cells := 0, slots := 0, locals := 14 } : Room)).slots (T1.setTop (mkF m 60 #[.val (.int p0)] [])) := by
    intro T1 locs1 X1 e1 N1 hq
    refine own_go (fun t_ kt_ => XS.iconst X1.here hx rfl (hb hby d3_60) kt_) ?_
    show own_Go p e below s _ _ _ (T1.setTop (mkF m 61 #[.val (.int p0)] [(.int (1 : Int32))]))
    refine own_go (fun t_ kt_ => XS.goto X1.here hx rfl (pc0 := 61) (pc' := 65) rfl (hb hby d3_61) (by decide) (by decide) kt_) ?_
    show own_Go p e below s _ _ _ (T1.setTop (mkF m 65 #[.val (.int p0)] [(.int (1 : Int32))]))
    refine own_ret X1 (v := some (.int (1 : Int32))) (fun h => by rw [hret] at h; cases h) hlk ?_ (by decide) (by decide) (fun fs hr => retN X1 hx (t := .boolean) hret (by simp) (hb hby d3_65) hr)
    show Q3 Z p0 h0 n0 (some (.int (1 : Int32))) T1.heap _
    rw [e1]
    exact ⟨congrArg (fun z => some (Value.int z)) (by first | exact hq.symm | (unfold own_nm; first | rw [if_pos (by omega)] | rw [if_neg (by omega)])), N1, rfl⟩
  have J132 : ∀ (T2 : State) (locs2 : List Loc) (X2 : Stand p l e ({ frames := 1, cells := 0, slots := 0, locals := 14 } : Room) s m #[(.int p0)] below meth c T2 locs2 0 0) (e2 : T2.heap = h0) (N2 : Fr n0 locs2) (hq : own_nm p0.toInt = 1), own_Go p e below s (Q3 Z p0 h0 n0) (({ frames := 1, cells := 0, slots := 0, locals := 14 } : Room)).cells (({ frames := 1, cells := 0, slots := 0, locals := 14 } : Room)).slots (T2.setTop (mkF m 132 #[.val (.int p0)] [])) := by
    intro T2 locs2 X2 e2 N2 hq
    refine own_go (fun t_ kt_ => XS.iconst X2.here hx rfl (hb hby d3_132) kt_) ?_
    show own_Go p e below s _ _ _ (T2.setTop (mkF m 133 #[.val (.int p0)] [(.int (1 : Int32))]))
    refine own_go (fun t_ kt_ => XS.goto X2.here hx rfl (pc0 := 133) (pc' := 137) rfl (hb hby d3_133) (by decide) (by decide) kt_) ?_
    show own_Go p e below s _ _ _ (T2.setTop (mkF m 137 #[.val (.int p0)] [(.int (1 : Int32))]))
    refine own_ret X2 (v := some (.int (1 : Int32))) (fun h => by rw [hret] at h; cases h) hlk ?_ (by decide) (by decide) (fun fs hr => retN X2 hx (t := .boolean) hret (by simp) (hb hby d3_137) hr)
    show Q3 Z p0 h0 n0 (some (.int (1 : Int32))) T2.heap _
    rw [e2]
    exact ⟨congrArg (fun z => some (Value.int z)) (by first | exact hq.symm | (unfold own_nm; first | rw [if_pos (by omega)] | rw [if_neg (by omega)])), N2, rfl⟩
  have J230 : ∀ (T3 : State) (locs3 : List Loc) (X3 : Stand p l e ({ frames := 1, cells := 0, slots := 0, locals := 14 } : Room) s m #[(.int p0)] below meth c T3 locs3 0 0) (e3 : T3.heap = h0) (N3 : Fr n0 locs3) (hq : own_nm p0.toInt = 1), own_Go p e below s (Q3 Z p0 h0 n0) (({ frames := 1, cells := 0, slots := 0, locals := 14 } : Room)).cells (({ frames := 1, cells := 0, slots := 0, locals := 14 } : Room)).slots (T3.setTop (mkF m 230 #[.val (.int p0)] [])) := by
    intro T3 locs3 X3 e3 N3 hq
    refine own_go (fun t_ kt_ => XS.iconst X3.here hx rfl (hb hby d3_230) kt_) ?_
    show own_Go p e below s _ _ _ (T3.setTop (mkF m 231 #[.val (.int p0)] [(.int (1 : Int32))]))
    refine own_go (fun t_ kt_ => XS.goto X3.here hx rfl (pc0 := 231) (pc' := 235) rfl (hb hby d3_231) (by decide) (by decide) kt_) ?_
    show own_Go p e below s _ _ _ (T3.setTop (mkF m 235 #[.val (.int p0)] [(.int (1 : Int32))]))
    refine own_ret X3 (v := some (.int (1 : Int32))) (fun h => by rw [hret] at h; cases h) hlk ?_ (by decide) (by decide) (fun fs hr => retN X3 hx (t := .boolean) hret (by simp) (hb hby d3_235) hr)
    show Q3 Z p0 h0 n0 (some (.int (1 : Int32))) T3.heap _
    rw [e3]
    exact ⟨congrArg (fun z => some (Value.int z)) (by first | exact hq.symm | (unfold own_nm; first | rw [if_pos (by omega)] | rw [if_neg (by omega)])), N3, rfl⟩
  refine own_go (fun t_ kt_ => XS.iloadN X0.here hx rfl (hb hby d3_0) rfl kt_) ?_
  show own_Go p e below s _ _ _ (s₁.setTop (mkF m 1 #[.val (.int p0)] [(.int p0)]))
  refine own_go (fun t_ kt_ => XS.bipush X0.here hx rfl (hb hby d3_1) kt_) ?_
  show own_Go p e below s _ _ _ (s₁.setTop (mkF m 3 #[.val (.int p0)] [(.int (45 : Int32)), (.int p0)]))
  by_cases hc3 : p0 < (45 : Int32)
  · skip
    have hi3 : p0.toInt < 45 := Int32.lt_iff_toInt_lt.mp hc3
    refine own_go (fun t_ kt_ => XS.icmpNo X0.here hx rfl (hb hby d3_3) rfl (tlt hc3).2.1 kt_) ?_
    show own_Go p e below s _ _ _ (s₁.setTop (mkF m 6 #[.val (.int p0)] []))
    refine own_go (fun t_ kt_ => XS.iconst X0.here hx rfl (hb hby d3_6) kt_) ?_
    show own_Go p e below s _ _ _ (s₁.setTop (mkF m 7 #[.val (.int p0)] [(.int (0 : Int32))]))
    refine own_ret X0 (v := some (.int (0 : Int32))) (fun h => by rw [hret] at h; cases h) hlk ?_ (by decide) (by decide) (fun fs hr => retN X0 hx (t := .boolean) hret (by simp) (hb hby d3_7) hr)
    show Q3 Z p0 h0 n0 (some (.int (0 : Int32))) s₁.heap _
    rw [e0]
    exact ⟨congrArg (fun z => some (Value.int z)) (by first | exact hq.symm | (unfold own_nm; first | rw [if_pos (by omega)] | rw [if_neg (by omega)])), N0, rfl⟩
  · skip
    have hi3 : ¬ p0.toInt < 45 := fun q => hc3 (Int32.lt_iff_toInt_lt.mpr q)
    refine own_go (fun t_ kt_ => XS.icmpYes X0.here hx rfl (pc0 := 3) (pc' := 8) rfl (hb hby d3_3) rfl (flt hc3).2.1 (by decide) (by decide) kt_) ?_
    show own_Go p e below s _ _ _ (s₁.setTop (mkF m 8 #[.val (.int p0)] []))
    refine own_go (fun t_ kt_ => XS.iloadN X0.here hx rfl (hb hby d3_8) rfl kt_) ?_
    show own_Go p e below s _ _ _ (s₁.setTop (mkF m 9 #[.val (.int p0)] [(.int p0)]))
    refine own_go (fun t_ kt_ => XS.sipush X0.here hx rfl (hb hby d3_9) kt_) ?_
    show own_Go p e below s _ _ _ (s₁.setTop (mkF m 12 #[.val (.int p0)] [(.int (128 : Int32)), (.int p0)]))
    by_cases hc12 : p0 < (128 : Int32)
    · skip
      have hi12 : p0.toInt < 128 := Int32.lt_iff_toInt_lt.mp hc12
      refine own_go (fun t_ kt_ => XS.icmpNo X0.here hx rfl (hb hby d3_12) rfl (tlt hc12).2.1 kt_) ?_
      show own_Go p e below s _ _ _ (s₁.setTop (mkF m 15 #[.val (.int p0)] []))
      refine own_go (fun t_ kt_ => XS.iloadN X0.here hx rfl (hb hby d3_15) rfl kt_) ?_
      show own_Go p e below s _ _ _ (s₁.setTop (mkF m 16 #[.val (.int p0)] [(.int p0)]))
      refine own_go (fun t_ kt_ => XS.bipush X0.here hx rfl (hb hby d3_16) kt_) ?_
      show own_Go p e below s _ _ _ (s₁.setTop (mkF m 18 #[.val (.int p0)] [(.int (45 : Int32)), (.int p0)]))
      by_cases hc18 : p0 = (45 : Int32)
      · skip
        have hi18 : p0.toInt = 45 := congrArg Int32.toInt hc18
        refine own_go (fun t_ kt_ => XS.icmpYes X0.here hx rfl (pc0 := 18) (pc' := 60) rfl (hb hby d3_18) rfl (teq hc18).1 (by decide) (by decide) kt_) ?_
        show own_Go p e below s _ _ _ (s₁.setTop (mkF m 60 #[.val (.int p0)] []))
        exact J60 s₁ _ X0 e0 N0   (by unfold own_nm; rw [if_pos (by omega)])
      · skip
        have hi18 : ¬ p0.toInt = 45 := fun q => hc18 (Int32.toInt_inj.mp q)
        refine own_go (fun t_ kt_ => XS.icmpNo X0.here hx rfl (hb hby d3_18) rfl (feq hc18).1 kt_) ?_
        show own_Go p e below s _ _ _ (s₁.setTop (mkF m 21 #[.val (.int p0)] []))
        refine own_go (fun t_ kt_ => XS.iloadN X0.here hx rfl (hb hby d3_21) rfl kt_) ?_
        show own_Go p e below s _ _ _ (s₁.setTop (mkF m 22 #[.val (.int p0)] [(.int p0)]))
        refine own_go (fun t_ kt_ => XS.bipush X0.here hx rfl (hb hby d3_22) kt_) ?_
        show own_Go p e below s _ _ _ (s₁.setTop (mkF m 24 #[.val (.int p0)] [(.int (48 : Int32)), (.int p0)]))
        refine own_go (fun t_ kt_ => XS.bipush X0.here hx rfl (hb hby d3_24) kt_) ?_
        show own_Go p e below s _ _ _ (s₁.setTop (mkF m 26 #[.val (.int p0)] [(.int (57 : Int32)), (.int (48 : Int32)), (.int p0)]))
        obtain ⟨_, _, ⟨T4, L4, k4, n4⟩, -, X4, ⟨Lc4, hQ4, l4, y4, z4⟩, st4⟩ := Jvm.LawKit.callS X0 hx (y := (⟨"com/example/provfold/provfold/QualifiedNameIsNameCharacterPinLaw", "in", "(III)Z"⟩ : MethodName)) hown (mvT hZ (hw _ (List.mem_of_getElem? (i := 23) rfl))) (mvT hZ (hw _ (List.mem_of_getElem? (i := 24) rfl))) (mvT hZ (hw _ (List.mem_of_getElem? (i := 21) rfl))) (mvT hZ (hw _ (List.mem_of_getElem? (i := 25) rfl))) (by decide) (backOf (W := 0) (rm4 l Z a0 hw [] (p0) ((48 : Int32)) ((57 : Int32)) h0 n0 Z0 ) hZ (hw _ (List.mem_of_getElem? (i := 25) rfl)) (hw _ (List.mem_of_getElem? (i := 21) rfl)) (by decide) (by decide)) (g := (mkF m 26 #[.val (.int p0)] [(.int (57 : Int32)), (.int (48 : Int32)), (.int p0)])) rfl (by rw [hml]; rfl) (argsL := [(.int p0), (.int (48 : Int32)), (.int (57 : Int32))]) (rest := []) (lenOf pd_1 rfl) rfl (by show 2 * 0 + _ ≤ _; exact Nat.le_of_eq rfl) (hb hby d3_26) (fun _ _ => ⟨rfl, e0, (by decide : 0 + 0 ≤ _), (by decide : 0 + 0 ≤ _)⟩)
        dsimp only [Pt.U, Pt.locs, Pt.cells, Pt.slots] at X4 l4 y4 z4 st4 hQ4
        subst l4 y4 z4
        obtain ⟨rfl, Nq4, eh4⟩ := hQ4
        have N4 := Fr.app N0 Nq4
        refine own_go (fun t_ kt_ => st4 _ kt_) ?_
        obtain ⟨lo4, X4g, N4g⟩ : ∃ lo, Stand p l e ({ frames := 1, cells := 0, slots := 0, locals := 14 } : Room) s m #[(.int p0)] below meth c T4 lo 0 0 ∧ Fr n0 lo := ⟨_, X4, N4⟩
        have e4 : T4.heap = h0 := eh4
        show own_Go p e below s _ _ _ (T4.setTop (mkF m 29 #[.val (.int p0)] [(.int (own_io p0 (48 : Int32) (57 : Int32)))]))
        by_cases hc29 : (own_io p0 (48 : Int32) (57 : Int32)) = (0 : Int32)
        · skip
          have hi29 : ((own_io p0 (48 : Int32) (57 : Int32))).toInt = 0 := congrArg Int32.toInt hc29
          refine own_go (fun t_ kt_ => XS.ifNo X4g.here hx rfl (hb hby d3_29) rfl ((if0 _ _).trans (teq hc29).2) kt_) ?_
          show own_Go p e below s _ _ _ (T4.setTop (mkF m 32 #[.val (.int p0)] []))
          have hj29 : ¬ (48 ≤ p0.toInt ∧ p0.toInt ≤ 57) := own_io0 hc29
          refine own_go (fun t_ kt_ => XS.iloadN X4g.here hx rfl (hb hby d3_32) rfl kt_) ?_
          show own_Go p e below s _ _ _ (T4.setTop (mkF m 33 #[.val (.int p0)] [(.int p0)]))
          refine own_go (fun t_ kt_ => XS.bipush X4g.here hx rfl (hb hby d3_33) kt_) ?_
          show own_Go p e below s _ _ _ (T4.setTop (mkF m 35 #[.val (.int p0)] [(.int (65 : Int32)), (.int p0)]))
          refine own_go (fun t_ kt_ => XS.bipush X4g.here hx rfl (hb hby d3_35) kt_) ?_
          show own_Go p e below s _ _ _ (T4.setTop (mkF m 37 #[.val (.int p0)] [(.int (90 : Int32)), (.int (65 : Int32)), (.int p0)]))
          obtain ⟨_, _, ⟨T5, L5, k5, n5⟩, -, X5, ⟨Lc5, hQ5, l5, y5, z5⟩, st5⟩ := Jvm.LawKit.callS X4g hx (y := (⟨"com/example/provfold/provfold/QualifiedNameIsNameCharacterPinLaw", "in", "(III)Z"⟩ : MethodName)) hown (mvT hZ (hw _ (List.mem_of_getElem? (i := 23) rfl))) (mvT hZ (hw _ (List.mem_of_getElem? (i := 24) rfl))) (mvT hZ (hw _ (List.mem_of_getElem? (i := 21) rfl))) (mvT hZ (hw _ (List.mem_of_getElem? (i := 25) rfl))) (by decide) (backOf (W := 0) (rm4 l Z a0 hw [] (p0) ((65 : Int32)) ((90 : Int32)) h0 n0 Z0 ) hZ (hw _ (List.mem_of_getElem? (i := 25) rfl)) (hw _ (List.mem_of_getElem? (i := 21) rfl)) (by decide) (by decide)) (g := (mkF m 37 #[.val (.int p0)] [(.int (90 : Int32)), (.int (65 : Int32)), (.int p0)])) rfl (by rw [hml]; rfl) (argsL := [(.int p0), (.int (65 : Int32)), (.int (90 : Int32))]) (rest := []) (lenOf pd_1 rfl) rfl (by show 2 * 0 + _ ≤ _; exact Nat.le_of_eq rfl) (hb hby d3_37) (fun _ _ => ⟨rfl, e4, (by decide : 0 + 0 ≤ _), (by decide : 0 + 0 ≤ _)⟩)
          dsimp only [Pt.U, Pt.locs, Pt.cells, Pt.slots] at X5 l5 y5 z5 st5 hQ5
          subst l5 y5 z5
          obtain ⟨rfl, Nq5, eh5⟩ := hQ5
          have N5 := Fr.app N4g Nq5
          refine own_go (fun t_ kt_ => st5 _ kt_) ?_
          obtain ⟨lo5, X5g, N5g⟩ : ∃ lo, Stand p l e ({ frames := 1, cells := 0, slots := 0, locals := 14 } : Room) s m #[(.int p0)] below meth c T5 lo 0 0 ∧ Fr n0 lo := ⟨_, X5, N5⟩
          have e5 : T5.heap = h0 := eh5
          show own_Go p e below s _ _ _ (T5.setTop (mkF m 40 #[.val (.int p0)] [(.int (own_io p0 (65 : Int32) (90 : Int32)))]))
          by_cases hc40 : (own_io p0 (65 : Int32) (90 : Int32)) = (0 : Int32)
          · skip
            have hi40 : ((own_io p0 (65 : Int32) (90 : Int32))).toInt = 0 := congrArg Int32.toInt hc40
            refine own_go (fun t_ kt_ => XS.ifNo X5g.here hx rfl (hb hby d3_40) rfl ((if0 _ _).trans (teq hc40).2) kt_) ?_
            show own_Go p e below s _ _ _ (T5.setTop (mkF m 43 #[.val (.int p0)] []))
            have hj40 : ¬ (65 ≤ p0.toInt ∧ p0.toInt ≤ 90) := own_io0 hc40
            refine own_go (fun t_ kt_ => XS.iloadN X5g.here hx rfl (hb hby d3_43) rfl kt_) ?_
            show own_Go p e below s _ _ _ (T5.setTop (mkF m 44 #[.val (.int p0)] [(.int p0)]))
            refine own_go (fun t_ kt_ => XS.bipush X5g.here hx rfl (hb hby d3_44) kt_) ?_
            show own_Go p e below s _ _ _ (T5.setTop (mkF m 46 #[.val (.int p0)] [(.int (95 : Int32)), (.int p0)]))
            by_cases hc46 : p0 = (95 : Int32)
            · skip
              have hi46 : p0.toInt = 95 := congrArg Int32.toInt hc46
              refine own_go (fun t_ kt_ => XS.icmpYes X5g.here hx rfl (pc0 := 46) (pc' := 60) rfl (hb hby d3_46) rfl (teq hc46).1 (by decide) (by decide) kt_) ?_
              show own_Go p e below s _ _ _ (T5.setTop (mkF m 60 #[.val (.int p0)] []))
              exact J60 T5 _ X5g e5 N5g   (by unfold own_nm; rw [if_pos (by omega)])
            · skip
              have hi46 : ¬ p0.toInt = 95 := fun q => hc46 (Int32.toInt_inj.mp q)
              refine own_go (fun t_ kt_ => XS.icmpNo X5g.here hx rfl (hb hby d3_46) rfl (feq hc46).1 kt_) ?_
              show own_Go p e below s _ _ _ (T5.setTop (mkF m 49 #[.val (.int p0)] []))
              refine own_go (fun t_ kt_ => XS.iloadN X5g.here hx rfl (hb hby d3_49) rfl kt_) ?_
              show own_Go p e below s _ _ _ (T5.setTop (mkF m 50 #[.val (.int p0)] [(.int p0)]))
              refine own_go (fun t_ kt_ => XS.bipush X5g.here hx rfl (hb hby d3_50) kt_) ?_
              show own_Go p e below s _ _ _ (T5.setTop (mkF m 52 #[.val (.int p0)] [(.int (97 : Int32)), (.int p0)]))
              refine own_go (fun t_ kt_ => XS.bipush X5g.here hx rfl (hb hby d3_52) kt_) ?_
              show own_Go p e below s _ _ _ (T5.setTop (mkF m 54 #[.val (.int p0)] [(.int (122 : Int32)), (.int (97 : Int32)), (.int p0)]))
              obtain ⟨_, _, ⟨T6, L6, k6, n6⟩, -, X6, ⟨Lc6, hQ6, l6, y6, z6⟩, st6⟩ := Jvm.LawKit.callS X5g hx (y := (⟨"com/example/provfold/provfold/QualifiedNameIsNameCharacterPinLaw", "in", "(III)Z"⟩ : MethodName)) hown (mvT hZ (hw _ (List.mem_of_getElem? (i := 23) rfl))) (mvT hZ (hw _ (List.mem_of_getElem? (i := 24) rfl))) (mvT hZ (hw _ (List.mem_of_getElem? (i := 21) rfl))) (mvT hZ (hw _ (List.mem_of_getElem? (i := 25) rfl))) (by decide) (backOf (W := 0) (rm4 l Z a0 hw [] (p0) ((97 : Int32)) ((122 : Int32)) h0 n0 Z0 ) hZ (hw _ (List.mem_of_getElem? (i := 25) rfl)) (hw _ (List.mem_of_getElem? (i := 21) rfl)) (by decide) (by decide)) (g := (mkF m 54 #[.val (.int p0)] [(.int (122 : Int32)), (.int (97 : Int32)), (.int p0)])) rfl (by rw [hml]; rfl) (argsL := [(.int p0), (.int (97 : Int32)), (.int (122 : Int32))]) (rest := []) (lenOf pd_1 rfl) rfl (by show 2 * 0 + _ ≤ _; exact Nat.le_of_eq rfl) (hb hby d3_54) (fun _ _ => ⟨rfl, e5, (by decide : 0 + 0 ≤ _), (by decide : 0 + 0 ≤ _)⟩)
              dsimp only [Pt.U, Pt.locs, Pt.cells, Pt.slots] at X6 l6 y6 z6 st6 hQ6
              subst l6 y6 z6
              obtain ⟨rfl, Nq6, eh6⟩ := hQ6
              have N6 := Fr.app N5g Nq6
              refine own_go (fun t_ kt_ => st6 _ kt_) ?_
              obtain ⟨lo6, X6g, N6g⟩ : ∃ lo, Stand p l e ({ frames := 1, cells := 0, slots := 0, locals := 14 } : Room) s m #[(.int p0)] below meth c T6 lo 0 0 ∧ Fr n0 lo := ⟨_, X6, N6⟩
              have e6 : T6.heap = h0 := eh6
              show own_Go p e below s _ _ _ (T6.setTop (mkF m 57 #[.val (.int p0)] [(.int (own_io p0 (97 : Int32) (122 : Int32)))]))
              by_cases hc57 : (own_io p0 (97 : Int32) (122 : Int32)) = (0 : Int32)
              · skip
                have hi57 : ((own_io p0 (97 : Int32) (122 : Int32))).toInt = 0 := congrArg Int32.toInt hc57
                refine own_go (fun t_ kt_ => XS.ifYes X6g.here hx rfl (pc0 := 57) (pc' := 64) rfl (hb hby d3_57) rfl ((if0 _ _).trans (teq hc57).1) (by decide) (by decide) kt_) ?_
                show own_Go p e below s _ _ _ (T6.setTop (mkF m 64 #[.val (.int p0)] []))
                have hj57 : ¬ (97 ≤ p0.toInt ∧ p0.toInt ≤ 122) := own_io0 hc57
                refine own_go (fun t_ kt_ => XS.iconst X6g.here hx rfl (hb hby d3_64) kt_) ?_
                show own_Go p e below s _ _ _ (T6.setTop (mkF m 65 #[.val (.int p0)] [(.int (0 : Int32))]))
                refine own_ret X6g (v := some (.int (0 : Int32))) (fun h => by rw [hret] at h; cases h) hlk ?_ (by decide) (by decide) (fun fs hr => retN X6g hx (t := .boolean) hret (by simp) (hb hby d3_65) hr)
                show Q3 Z p0 h0 n0 (some (.int (0 : Int32))) T6.heap _
                rw [e6]
                exact ⟨congrArg (fun z => some (Value.int z)) (by first | exact hq.symm | (unfold own_nm; first | rw [if_pos (by omega)] | rw [if_neg (by omega)])), N6g, rfl⟩
              · skip
                have hi57 : ¬ ((own_io p0 (97 : Int32) (122 : Int32))).toInt = 0 := fun q => hc57 (Int32.toInt_inj.mp q)
                refine own_go (fun t_ kt_ => XS.ifNo X6g.here hx rfl (hb hby d3_57) rfl ((if0 _ _).trans (feq hc57).1) kt_) ?_
                show own_Go p e below s _ _ _ (T6.setTop (mkF m 60 #[.val (.int p0)] []))
                have hj57 : (97 ≤ p0.toInt ∧ p0.toInt ≤ 122) := own_io1 hc57
                exact J60 T6 _ X6g e6 N6g   (by unfold own_nm; rw [if_pos (by omega)])
          · skip
            have hi40 : ¬ ((own_io p0 (65 : Int32) (90 : Int32))).toInt = 0 := fun q => hc40 (Int32.toInt_inj.mp q)
            refine own_go (fun t_ kt_ => XS.ifYes X5g.here hx rfl (pc0 := 40) (pc' := 60) rfl (hb hby d3_40) rfl ((if0 _ _).trans (feq hc40).2) (by decide) (by decide) kt_) ?_
            show own_Go p e below s _ _ _ (T5.setTop (mkF m 60 #[.val (.int p0)] []))
            have hj40 : (65 ≤ p0.toInt ∧ p0.toInt ≤ 90) := own_io1 hc40
            exact J60 T5 _ X5g e5 N5g   (by unfold own_nm; rw [if_pos (by omega)])
        · skip
          have hi29 : ¬ ((own_io p0 (48 : Int32) (57 : Int32))).toInt = 0 := fun q => hc29 (Int32.toInt_inj.mp q)
          refine own_go (fun t_ kt_ => XS.ifYes X4g.here hx rfl (pc0 := 29) (pc' := 60) rfl (hb hby d3_29) rfl ((if0 _ _).trans (feq hc29).2) (by decide) (by decide) kt_) ?_
          show own_Go p e below s _ _ _ (T4.setTop (mkF m 60 #[.val (.int p0)] []))
          have hj29 : (48 ≤ p0.toInt ∧ p0.toInt ≤ 57) := own_io1 hc29
          exact J60 T4 _ X4g e4 N4g   (by unfold own_nm; rw [if_pos (by omega)])
    · skip
      have hi12 : ¬ p0.toInt < 128 := fun q => hc12 (Int32.lt_iff_toInt_lt.mpr q)
      refine own_go (fun t_ kt_ => XS.icmpYes X0.here hx rfl (pc0 := 12) (pc' := 66) rfl (hb hby d3_12) rfl (flt hc12).2.1 (by decide) (by decide) kt_) ?_
      show own_Go p e below s _ _ _ (s₁.setTop (mkF m 66 #[.val (.int p0)] []))
      refine own_go (fun t_ kt_ => XS.iloadN X0.here hx rfl (hb hby d3_66) rfl kt_) ?_
      show own_Go p e below s _ _ _ (s₁.setTop (mkF m 67 #[.val (.int p0)] [(.int p0)]))
      refine own_go (fun t_ kt_ => XS.sipush X0.here hx rfl (hb hby d3_67) kt_) ?_
      show own_Go p e below s _ _ _ (s₁.setTop (mkF m 70 #[.val (.int p0)] [(.int (8192 : Int32)), (.int p0)]))
      by_cases hc70 : p0 < (8192 : Int32)
      · skip
        have hi70 : p0.toInt < 8192 := Int32.lt_iff_toInt_lt.mp hc70
        refine own_go (fun t_ kt_ => XS.icmpNo X0.here hx rfl (hb hby d3_70) rfl (tlt hc70).2.1 kt_) ?_
        show own_Go p e below s _ _ _ (s₁.setTop (mkF m 73 #[.val (.int p0)] []))
        refine own_go (fun t_ kt_ => XS.iloadN X0.here hx rfl (hb hby d3_73) rfl kt_) ?_
        show own_Go p e below s _ _ _ (s₁.setTop (mkF m 74 #[.val (.int p0)] [(.int p0)]))
        refine own_go (fun t_ kt_ => XS.sipush X0.here hx rfl (hb hby d3_74) kt_) ?_
        show own_Go p e below s _ _ _ (s₁.setTop (mkF m 77 #[.val (.int p0)] [(.int (183 : Int32)), (.int p0)]))
        by_cases hc77 : p0 = (183 : Int32)
        · skip
          have hi77 : p0.toInt = 183 := congrArg Int32.toInt hc77
          refine own_go (fun t_ kt_ => XS.icmpYes X0.here hx rfl (pc0 := 77) (pc' := 132) rfl (hb hby d3_77) rfl (teq hc77).1 (by decide) (by decide) kt_) ?_
          show own_Go p e below s _ _ _ (s₁.setTop (mkF m 132 #[.val (.int p0)] []))
          exact J132 s₁ _ X0 e0 N0   (by unfold own_nm; rw [if_pos (by omega)])
        · skip
          have hi77 : ¬ p0.toInt = 183 := fun q => hc77 (Int32.toInt_inj.mp q)
          refine own_go (fun t_ kt_ => XS.icmpNo X0.here hx rfl (hb hby d3_77) rfl (feq hc77).1 kt_) ?_
          show own_Go p e below s _ _ _ (s₁.setTop (mkF m 80 #[.val (.int p0)] []))
          refine own_go (fun t_ kt_ => XS.iloadN X0.here hx rfl (hb hby d3_80) rfl kt_) ?_
          show own_Go p e below s _ _ _ (s₁.setTop (mkF m 81 #[.val (.int p0)] [(.int p0)]))
          refine own_go (fun t_ kt_ => XS.sipush X0.here hx rfl (hb hby d3_81) kt_) ?_
          show own_Go p e below s _ _ _ (s₁.setTop (mkF m 84 #[.val (.int p0)] [(.int (192 : Int32)), (.int p0)]))
          refine own_go (fun t_ kt_ => XS.sipush X0.here hx rfl (hb hby d3_84) kt_) ?_
          show own_Go p e below s _ _ _ (s₁.setTop (mkF m 87 #[.val (.int p0)] [(.int (214 : Int32)), (.int (192 : Int32)), (.int p0)]))
          obtain ⟨_, _, ⟨T7, L7, k7, n7⟩, -, X7, ⟨Lc7, hQ7, l7, y7, z7⟩, st7⟩ := Jvm.LawKit.callS X0 hx (y := (⟨"com/example/provfold/provfold/QualifiedNameIsNameCharacterPinLaw", "in", "(III)Z"⟩ : MethodName)) hown (mvT hZ (hw _ (List.mem_of_getElem? (i := 23) rfl))) (mvT hZ (hw _ (List.mem_of_getElem? (i := 24) rfl))) (mvT hZ (hw _ (List.mem_of_getElem? (i := 21) rfl))) (mvT hZ (hw _ (List.mem_of_getElem? (i := 25) rfl))) (by decide) (backOf (W := 0) (rm4 l Z a0 hw [] (p0) ((192 : Int32)) ((214 : Int32)) h0 n0 Z0 ) hZ (hw _ (List.mem_of_getElem? (i := 25) rfl)) (hw _ (List.mem_of_getElem? (i := 21) rfl)) (by decide) (by decide)) (g := (mkF m 87 #[.val (.int p0)] [(.int (214 : Int32)), (.int (192 : Int32)), (.int p0)])) rfl (by rw [hml]; rfl) (argsL := [(.int p0), (.int (192 : Int32)), (.int (214 : Int32))]) (rest := []) (lenOf pd_1 rfl) rfl (by show 2 * 0 + _ ≤ _; exact Nat.le_of_eq rfl) (hb hby d3_87) (fun _ _ => ⟨rfl, e0, (by decide : 0 + 0 ≤ _), (by decide : 0 + 0 ≤ _)⟩)
          dsimp only [Pt.U, Pt.locs, Pt.cells, Pt.slots] at X7 l7 y7 z7 st7 hQ7
          subst l7 y7 z7
          obtain ⟨rfl, Nq7, eh7⟩ := hQ7
          have N7 := Fr.app N0 Nq7
          refine own_go (fun t_ kt_ => st7 _ kt_) ?_
          obtain ⟨lo7, X7g, N7g⟩ : ∃ lo, Stand p l e ({ frames := 1, cells := 0, slots := 0, locals := 14 } : Room) s m #[(.int p0)] below meth c T7 lo 0 0 ∧ Fr n0 lo := ⟨_, X7, N7⟩
          have e7 : T7.heap = h0 := eh7
          show own_Go p e below s _ _ _ (T7.setTop (mkF m 90 #[.val (.int p0)] [(.int (own_io p0 (192 : Int32) (214 : Int32)))]))
          by_cases hc90 : (own_io p0 (192 : Int32) (214 : Int32)) = (0 : Int32)
          · skip
            have hi90 : ((own_io p0 (192 : Int32) (214 : Int32))).toInt = 0 := congrArg Int32.toInt hc90
            refine own_go (fun t_ kt_ => XS.ifNo X7g.here hx rfl (hb hby d3_90) rfl ((if0 _ _).trans (teq hc90).2) kt_) ?_
            show own_Go p e below s _ _ _ (T7.setTop (mkF m 93 #[.val (.int p0)] []))
            have hj90 : ¬ (192 ≤ p0.toInt ∧ p0.toInt ≤ 214) := own_io0 hc90
            refine own_go (fun t_ kt_ => XS.iloadN X7g.here hx rfl (hb hby d3_93) rfl kt_) ?_
            show own_Go p e below s _ _ _ (T7.setTop (mkF m 94 #[.val (.int p0)] [(.int p0)]))
            refine own_go (fun t_ kt_ => XS.sipush X7g.here hx rfl (hb hby d3_94) kt_) ?_
            show own_Go p e below s _ _ _ (T7.setTop (mkF m 97 #[.val (.int p0)] [(.int (216 : Int32)), (.int p0)]))
            refine own_go (fun t_ kt_ => XS.sipush X7g.here hx rfl (hb hby d3_97) kt_) ?_
            show own_Go p e below s _ _ _ (T7.setTop (mkF m 100 #[.val (.int p0)] [(.int (246 : Int32)), (.int (216 : Int32)), (.int p0)]))
            obtain ⟨_, _, ⟨T8, L8, k8, n8⟩, -, X8, ⟨Lc8, hQ8, l8, y8, z8⟩, st8⟩ := Jvm.LawKit.callS X7g hx (y := (⟨"com/example/provfold/provfold/QualifiedNameIsNameCharacterPinLaw", "in", "(III)Z"⟩ : MethodName)) hown (mvT hZ (hw _ (List.mem_of_getElem? (i := 23) rfl))) (mvT hZ (hw _ (List.mem_of_getElem? (i := 24) rfl))) (mvT hZ (hw _ (List.mem_of_getElem? (i := 21) rfl))) (mvT hZ (hw _ (List.mem_of_getElem? (i := 25) rfl))) (by decide) (backOf (W := 0) (rm4 l Z a0 hw [] (p0) ((216 : Int32)) ((246 : Int32)) h0 n0 Z0 ) hZ (hw _ (List.mem_of_getElem? (i := 25) rfl)) (hw _ (List.mem_of_getElem? (i := 21) rfl)) (by decide) (by decide)) (g := (mkF m 100 #[.val (.int p0)] [(.int (246 : Int32)), (.int (216 : Int32)), (.int p0)])) rfl (by rw [hml]; rfl) (argsL := [(.int p0), (.int (216 : Int32)), (.int (246 : Int32))]) (rest := []) (lenOf pd_1 rfl) rfl (by show 2 * 0 + _ ≤ _; exact Nat.le_of_eq rfl) (hb hby d3_100) (fun _ _ => ⟨rfl, e7, (by decide : 0 + 0 ≤ _), (by decide : 0 + 0 ≤ _)⟩)
            dsimp only [Pt.U, Pt.locs, Pt.cells, Pt.slots] at X8 l8 y8 z8 st8 hQ8
            subst l8 y8 z8
            obtain ⟨rfl, Nq8, eh8⟩ := hQ8
            have N8 := Fr.app N7g Nq8
            refine own_go (fun t_ kt_ => st8 _ kt_) ?_
            obtain ⟨lo8, X8g, N8g⟩ : ∃ lo, Stand p l e ({ frames := 1, cells := 0, slots := 0, locals := 14 } : Room) s m #[(.int p0)] below meth c T8 lo 0 0 ∧ Fr n0 lo := ⟨_, X8, N8⟩
            have e8 : T8.heap = h0 := eh8
            show own_Go p e below s _ _ _ (T8.setTop (mkF m 103 #[.val (.int p0)] [(.int (own_io p0 (216 : Int32) (246 : Int32)))]))
            by_cases hc103 : (own_io p0 (216 : Int32) (246 : Int32)) = (0 : Int32)
            · skip
              have hi103 : ((own_io p0 (216 : Int32) (246 : Int32))).toInt = 0 := congrArg Int32.toInt hc103
              refine own_go (fun t_ kt_ => XS.ifNo X8g.here hx rfl (hb hby d3_103) rfl ((if0 _ _).trans (teq hc103).2) kt_) ?_
              show own_Go p e below s _ _ _ (T8.setTop (mkF m 106 #[.val (.int p0)] []))
              have hj103 : ¬ (216 ≤ p0.toInt ∧ p0.toInt ≤ 246) := own_io0 hc103
              refine own_go (fun t_ kt_ => XS.iloadN X8g.here hx rfl (hb hby d3_106) rfl kt_) ?_
              show own_Go p e below s _ _ _ (T8.setTop (mkF m 107 #[.val (.int p0)] [(.int p0)]))
              refine own_go (fun t_ kt_ => XS.sipush X8g.here hx rfl (hb hby d3_107) kt_) ?_
              show own_Go p e below s _ _ _ (T8.setTop (mkF m 110 #[.val (.int p0)] [(.int (248 : Int32)), (.int p0)]))
              refine own_go (fun t_ kt_ => XS.sipush X8g.here hx rfl (hb hby d3_110) kt_) ?_
              show own_Go p e below s _ _ _ (T8.setTop (mkF m 113 #[.val (.int p0)] [(.int (893 : Int32)), (.int (248 : Int32)), (.int p0)]))
              obtain ⟨_, _, ⟨T9, L9, k9, n9⟩, -, X9, ⟨Lc9, hQ9, l9, y9, z9⟩, st9⟩ := Jvm.LawKit.callS X8g hx (y := (⟨"com/example/provfold/provfold/QualifiedNameIsNameCharacterPinLaw", "in", "(III)Z"⟩ : MethodName)) hown (mvT hZ (hw _ (List.mem_of_getElem? (i := 23) rfl))) (mvT hZ (hw _ (List.mem_of_getElem? (i := 24) rfl))) (mvT hZ (hw _ (List.mem_of_getElem? (i := 21) rfl))) (mvT hZ (hw _ (List.mem_of_getElem? (i := 25) rfl))) (by decide) (backOf (W := 0) (rm4 l Z a0 hw [] (p0) ((248 : Int32)) ((893 : Int32)) h0 n0 Z0 ) hZ (hw _ (List.mem_of_getElem? (i := 25) rfl)) (hw _ (List.mem_of_getElem? (i := 21) rfl)) (by decide) (by decide)) (g := (mkF m 113 #[.val (.int p0)] [(.int (893 : Int32)), (.int (248 : Int32)), (.int p0)])) rfl (by rw [hml]; rfl) (argsL := [(.int p0), (.int (248 : Int32)), (.int (893 : Int32))]) (rest := []) (lenOf pd_1 rfl) rfl (by show 2 * 0 + _ ≤ _; exact Nat.le_of_eq rfl) (hb hby d3_113) (fun _ _ => ⟨rfl, e8, (by decide : 0 + 0 ≤ _), (by decide : 0 + 0 ≤ _)⟩)
              dsimp only [Pt.U, Pt.locs, Pt.cells, Pt.slots] at X9 l9 y9 z9 st9 hQ9
              subst l9 y9 z9
              obtain ⟨rfl, Nq9, eh9⟩ := hQ9
              have N9 := Fr.app N8g Nq9
              refine own_go (fun t_ kt_ => st9 _ kt_) ?_
              obtain ⟨lo9, X9g, N9g⟩ : ∃ lo, Stand p l e ({ frames := 1, cells := 0, slots := 0, locals := 14 } : Room) s m #[(.int p0)] below meth c T9 lo 0 0 ∧ Fr n0 lo := ⟨_, X9, N9⟩
              have e9 : T9.heap = h0 := eh9
              show own_Go p e below s _ _ _ (T9.setTop (mkF m 116 #[.val (.int p0)] [(.int (own_io p0 (248 : Int32) (893 : Int32)))]))
              by_cases hc116 : (own_io p0 (248 : Int32) (893 : Int32)) = (0 : Int32)
              · skip
                have hi116 : ((own_io p0 (248 : Int32) (893 : Int32))).toInt = 0 := congrArg Int32.toInt hc116
                refine own_go (fun t_ kt_ => XS.ifNo X9g.here hx rfl (hb hby d3_116) rfl ((if0 _ _).trans (teq hc116).2) kt_) ?_
                show own_Go p e below s _ _ _ (T9.setTop (mkF m 119 #[.val (.int p0)] []))
                have hj116 : ¬ (248 ≤ p0.toInt ∧ p0.toInt ≤ 893) := own_io0 hc116
                refine own_go (fun t_ kt_ => XS.iloadN X9g.here hx rfl (hb hby d3_119) rfl kt_) ?_
                show own_Go p e below s _ _ _ (T9.setTop (mkF m 120 #[.val (.int p0)] [(.int p0)]))
                refine own_go (fun t_ kt_ => XS.sipush X9g.here hx rfl (hb hby d3_120) kt_) ?_
                show own_Go p e below s _ _ _ (T9.setTop (mkF m 123 #[.val (.int p0)] [(.int (895 : Int32)), (.int p0)]))
                refine own_go (fun t_ kt_ => XS.sipush X9g.here hx rfl (hb hby d3_123) kt_) ?_
                show own_Go p e below s _ _ _ (T9.setTop (mkF m 126 #[.val (.int p0)] [(.int (8191 : Int32)), (.int (895 : Int32)), (.int p0)]))
                obtain ⟨_, _, ⟨T10, L10, k10, n10⟩, -, X10, ⟨Lc10, hQ10, l10, y10, z10⟩, st10⟩ := Jvm.LawKit.callS X9g hx (y := (⟨"com/example/provfold/provfold/QualifiedNameIsNameCharacterPinLaw", "in", "(III)Z"⟩ : MethodName)) hown (mvT hZ (hw _ (List.mem_of_getElem? (i := 23) rfl))) (mvT hZ (hw _ (List.mem_of_getElem? (i := 24) rfl))) (mvT hZ (hw _ (List.mem_of_getElem? (i := 21) rfl))) (mvT hZ (hw _ (List.mem_of_getElem? (i := 25) rfl))) (by decide) (backOf (W := 0) (rm4 l Z a0 hw [] (p0) ((895 : Int32)) ((8191 : Int32)) h0 n0 Z0 ) hZ (hw _ (List.mem_of_getElem? (i := 25) rfl)) (hw _ (List.mem_of_getElem? (i := 21) rfl)) (by decide) (by decide)) (g := (mkF m 126 #[.val (.int p0)] [(.int (8191 : Int32)), (.int (895 : Int32)), (.int p0)])) rfl (by rw [hml]; rfl) (argsL := [(.int p0), (.int (895 : Int32)), (.int (8191 : Int32))]) (rest := []) (lenOf pd_1 rfl) rfl (by show 2 * 0 + _ ≤ _; exact Nat.le_of_eq rfl) (hb hby d3_126) (fun _ _ => ⟨rfl, e9, (by decide : 0 + 0 ≤ _), (by decide : 0 + 0 ≤ _)⟩)
                dsimp only [Pt.U, Pt.locs, Pt.cells, Pt.slots] at X10 l10 y10 z10 st10 hQ10
                subst l10 y10 z10
                obtain ⟨rfl, Nq10, eh10⟩ := hQ10
                have N10 := Fr.app N9g Nq10
                refine own_go (fun t_ kt_ => st10 _ kt_) ?_
                obtain ⟨lo10, X10g, N10g⟩ : ∃ lo, Stand p l e ({ frames := 1, cells := 0, slots := 0, locals := 14 } : Room) s m #[(.int p0)] below meth c T10 lo 0 0 ∧ Fr n0 lo := ⟨_, X10, N10⟩
                have e10 : T10.heap = h0 := eh10
                show own_Go p e below s _ _ _ (T10.setTop (mkF m 129 #[.val (.int p0)] [(.int (own_io p0 (895 : Int32) (8191 : Int32)))]))
                by_cases hc129 : (own_io p0 (895 : Int32) (8191 : Int32)) = (0 : Int32)
                · skip
                  have hi129 : ((own_io p0 (895 : Int32) (8191 : Int32))).toInt = 0 := congrArg Int32.toInt hc129
                  refine own_go (fun t_ kt_ => XS.ifYes X10g.here hx rfl (pc0 := 129) (pc' := 136) rfl (hb hby d3_129) rfl ((if0 _ _).trans (teq hc129).1) (by decide) (by decide) kt_) ?_
                  show own_Go p e below s _ _ _ (T10.setTop (mkF m 136 #[.val (.int p0)] []))
                  have hj129 : ¬ (895 ≤ p0.toInt ∧ p0.toInt ≤ 8191) := own_io0 hc129
                  refine own_go (fun t_ kt_ => XS.iconst X10g.here hx rfl (hb hby d3_136) kt_) ?_
                  show own_Go p e below s _ _ _ (T10.setTop (mkF m 137 #[.val (.int p0)] [(.int (0 : Int32))]))
                  refine own_ret X10g (v := some (.int (0 : Int32))) (fun h => by rw [hret] at h; cases h) hlk ?_ (by decide) (by decide) (fun fs hr => retN X10g hx (t := .boolean) hret (by simp) (hb hby d3_137) hr)
                  show Q3 Z p0 h0 n0 (some (.int (0 : Int32))) T10.heap _
                  rw [e10]
                  exact ⟨congrArg (fun z => some (Value.int z)) (by first | exact hq.symm | (unfold own_nm; first | rw [if_pos (by omega)] | rw [if_neg (by omega)])), N10g, rfl⟩
                · skip
                  have hi129 : ¬ ((own_io p0 (895 : Int32) (8191 : Int32))).toInt = 0 := fun q => hc129 (Int32.toInt_inj.mp q)
                  refine own_go (fun t_ kt_ => XS.ifNo X10g.here hx rfl (hb hby d3_129) rfl ((if0 _ _).trans (feq hc129).1) kt_) ?_
                  show own_Go p e below s _ _ _ (T10.setTop (mkF m 132 #[.val (.int p0)] []))
                  have hj129 : (895 ≤ p0.toInt ∧ p0.toInt ≤ 8191) := own_io1 hc129
                  exact J132 T10 _ X10g e10 N10g   (by unfold own_nm; rw [if_pos (by omega)])
              · skip
                have hi116 : ¬ ((own_io p0 (248 : Int32) (893 : Int32))).toInt = 0 := fun q => hc116 (Int32.toInt_inj.mp q)
                refine own_go (fun t_ kt_ => XS.ifYes X9g.here hx rfl (pc0 := 116) (pc' := 132) rfl (hb hby d3_116) rfl ((if0 _ _).trans (feq hc116).2) (by decide) (by decide) kt_) ?_
                show own_Go p e below s _ _ _ (T9.setTop (mkF m 132 #[.val (.int p0)] []))
                have hj116 : (248 ≤ p0.toInt ∧ p0.toInt ≤ 893) := own_io1 hc116
                exact J132 T9 _ X9g e9 N9g   (by unfold own_nm; rw [if_pos (by omega)])
            · skip
              have hi103 : ¬ ((own_io p0 (216 : Int32) (246 : Int32))).toInt = 0 := fun q => hc103 (Int32.toInt_inj.mp q)
              refine own_go (fun t_ kt_ => XS.ifYes X8g.here hx rfl (pc0 := 103) (pc' := 132) rfl (hb hby d3_103) rfl ((if0 _ _).trans (feq hc103).2) (by decide) (by decide) kt_) ?_
              show own_Go p e below s _ _ _ (T8.setTop (mkF m 132 #[.val (.int p0)] []))
              have hj103 : (216 ≤ p0.toInt ∧ p0.toInt ≤ 246) := own_io1 hc103
              exact J132 T8 _ X8g e8 N8g   (by unfold own_nm; rw [if_pos (by omega)])
          · skip
            have hi90 : ¬ ((own_io p0 (192 : Int32) (214 : Int32))).toInt = 0 := fun q => hc90 (Int32.toInt_inj.mp q)
            refine own_go (fun t_ kt_ => XS.ifYes X7g.here hx rfl (pc0 := 90) (pc' := 132) rfl (hb hby d3_90) rfl ((if0 _ _).trans (feq hc90).2) (by decide) (by decide) kt_) ?_
            show own_Go p e below s _ _ _ (T7.setTop (mkF m 132 #[.val (.int p0)] []))
            have hj90 : (192 ≤ p0.toInt ∧ p0.toInt ≤ 214) := own_io1 hc90
            exact J132 T7 _ X7g e7 N7g   (by unfold own_nm; rw [if_pos (by omega)])
      · skip
        have hi70 : ¬ p0.toInt < 8192 := fun q => hc70 (Int32.lt_iff_toInt_lt.mpr q)
        refine own_go (fun t_ kt_ => XS.icmpYes X0.here hx rfl (pc0 := 70) (pc' := 138) rfl (hb hby d3_70) rfl (flt hc70).2.1 (by decide) (by decide) kt_) ?_
        show own_Go p e below s _ _ _ (s₁.setTop (mkF m 138 #[.val (.int p0)] []))
        refine own_go (fun t_ kt_ => XS.iloadN X0.here hx rfl (hb hby d3_138) rfl kt_) ?_
        show own_Go p e below s _ _ _ (s₁.setTop (mkF m 139 #[.val (.int p0)] [(.int p0)]))
        refine own_go (fun t_ kt_ => X0.ldcInt hx hown (mvT hZ (hw _ (List.mem_of_getElem? (i := 6) rfl))) (g := (mkF m 139 #[.val (.int p0)] [(.int p0)])) rfl (hb hby d3_139) _ kt_) ?_
        show own_Go p e below s _ _ _ (s₁.setTop (mkF m 141 #[.val (.int p0)] [(.int (65536 : Int32)), (.int p0)]))
        by_cases hc141 : p0 < (65536 : Int32)
        · skip
          have hi141 : p0.toInt < 65536 := Int32.lt_iff_toInt_lt.mp hc141
          refine own_go (fun t_ kt_ => XS.icmpNo X0.here hx rfl (hb hby d3_141) rfl (tlt hc141).2.1 kt_) ?_
          show own_Go p e below s _ _ _ (s₁.setTop (mkF m 144 #[.val (.int p0)] []))
          refine own_go (fun t_ kt_ => XS.iloadN X0.here hx rfl (hb hby d3_144) rfl kt_) ?_
          show own_Go p e below s _ _ _ (s₁.setTop (mkF m 145 #[.val (.int p0)] [(.int p0)]))
          refine own_go (fun t_ kt_ => XS.sipush X0.here hx rfl (hb hby d3_145) kt_) ?_
          show own_Go p e below s _ _ _ (s₁.setTop (mkF m 148 #[.val (.int p0)] [(.int (8204 : Int32)), (.int p0)]))
          refine own_go (fun t_ kt_ => XS.sipush X0.here hx rfl (hb hby d3_148) kt_) ?_
          show own_Go p e below s _ _ _ (s₁.setTop (mkF m 151 #[.val (.int p0)] [(.int (8205 : Int32)), (.int (8204 : Int32)), (.int p0)]))
          obtain ⟨_, _, ⟨T11, L11, k11, n11⟩, -, X11, ⟨Lc11, hQ11, l11, y11, z11⟩, st11⟩ := Jvm.LawKit.callS X0 hx (y := (⟨"com/example/provfold/provfold/QualifiedNameIsNameCharacterPinLaw", "in", "(III)Z"⟩ : MethodName)) hown (mvT hZ (hw _ (List.mem_of_getElem? (i := 23) rfl))) (mvT hZ (hw _ (List.mem_of_getElem? (i := 24) rfl))) (mvT hZ (hw _ (List.mem_of_getElem? (i := 21) rfl))) (mvT hZ (hw _ (List.mem_of_getElem? (i := 25) rfl))) (by decide) (backOf (W := 0) (rm4 l Z a0 hw [] (p0) ((8204 : Int32)) ((8205 : Int32)) h0 n0 Z0 ) hZ (hw _ (List.mem_of_getElem? (i := 25) rfl)) (hw _ (List.mem_of_getElem? (i := 21) rfl)) (by decide) (by decide)) (g := (mkF m 151 #[.val (.int p0)] [(.int (8205 : Int32)), (.int (8204 : Int32)), (.int p0)])) rfl (by rw [hml]; rfl) (argsL := [(.int p0), (.int (8204 : Int32)), (.int (8205 : Int32))]) (rest := []) (lenOf pd_1 rfl) rfl (by show 2 * 0 + _ ≤ _; exact Nat.le_of_eq rfl) (hb hby d3_151) (fun _ _ => ⟨rfl, e0, (by decide : 0 + 0 ≤ _), (by decide : 0 + 0 ≤ _)⟩)
          dsimp only [Pt.U, Pt.locs, Pt.cells, Pt.slots] at X11 l11 y11 z11 st11 hQ11
          subst l11 y11 z11
          obtain ⟨rfl, Nq11, eh11⟩ := hQ11
          have N11 := Fr.app N0 Nq11
          refine own_go (fun t_ kt_ => st11 _ kt_) ?_
          obtain ⟨lo11, X11g, N11g⟩ : ∃ lo, Stand p l e ({ frames := 1, cells := 0, slots := 0, locals := 14 } : Room) s m #[(.int p0)] below meth c T11 lo 0 0 ∧ Fr n0 lo := ⟨_, X11, N11⟩
          have e11 : T11.heap = h0 := eh11
          show own_Go p e below s _ _ _ (T11.setTop (mkF m 154 #[.val (.int p0)] [(.int (own_io p0 (8204 : Int32) (8205 : Int32)))]))
          by_cases hc154 : (own_io p0 (8204 : Int32) (8205 : Int32)) = (0 : Int32)
          · skip
            have hi154 : ((own_io p0 (8204 : Int32) (8205 : Int32))).toInt = 0 := congrArg Int32.toInt hc154
            refine own_go (fun t_ kt_ => XS.ifNo X11g.here hx rfl (hb hby d3_154) rfl ((if0 _ _).trans (teq hc154).2) kt_) ?_
            show own_Go p e below s _ _ _ (T11.setTop (mkF m 157 #[.val (.int p0)] []))
            have hj154 : ¬ (8204 ≤ p0.toInt ∧ p0.toInt ≤ 8205) := own_io0 hc154
            refine own_go (fun t_ kt_ => XS.iloadN X11g.here hx rfl (hb hby d3_157) rfl kt_) ?_
            show own_Go p e below s _ _ _ (T11.setTop (mkF m 158 #[.val (.int p0)] [(.int p0)]))
            refine own_go (fun t_ kt_ => XS.sipush X11g.here hx rfl (hb hby d3_158) kt_) ?_
            show own_Go p e below s _ _ _ (T11.setTop (mkF m 161 #[.val (.int p0)] [(.int (8255 : Int32)), (.int p0)]))
            refine own_go (fun t_ kt_ => XS.sipush X11g.here hx rfl (hb hby d3_161) kt_) ?_
            show own_Go p e below s _ _ _ (T11.setTop (mkF m 164 #[.val (.int p0)] [(.int (8256 : Int32)), (.int (8255 : Int32)), (.int p0)]))
            obtain ⟨_, _, ⟨T12, L12, k12, n12⟩, -, X12, ⟨Lc12, hQ12, l12, y12, z12⟩, st12⟩ := Jvm.LawKit.callS X11g hx (y := (⟨"com/example/provfold/provfold/QualifiedNameIsNameCharacterPinLaw", "in", "(III)Z"⟩ : MethodName)) hown (mvT hZ (hw _ (List.mem_of_getElem? (i := 23) rfl))) (mvT hZ (hw _ (List.mem_of_getElem? (i := 24) rfl))) (mvT hZ (hw _ (List.mem_of_getElem? (i := 21) rfl))) (mvT hZ (hw _ (List.mem_of_getElem? (i := 25) rfl))) (by decide) (backOf (W := 0) (rm4 l Z a0 hw [] (p0) ((8255 : Int32)) ((8256 : Int32)) h0 n0 Z0 ) hZ (hw _ (List.mem_of_getElem? (i := 25) rfl)) (hw _ (List.mem_of_getElem? (i := 21) rfl)) (by decide) (by decide)) (g := (mkF m 164 #[.val (.int p0)] [(.int (8256 : Int32)), (.int (8255 : Int32)), (.int p0)])) rfl (by rw [hml]; rfl) (argsL := [(.int p0), (.int (8255 : Int32)), (.int (8256 : Int32))]) (rest := []) (lenOf pd_1 rfl) rfl (by show 2 * 0 + _ ≤ _; exact Nat.le_of_eq rfl) (hb hby d3_164) (fun _ _ => ⟨rfl, e11, (by decide : 0 + 0 ≤ _), (by decide : 0 + 0 ≤ _)⟩)
            dsimp only [Pt.U, Pt.locs, Pt.cells, Pt.slots] at X12 l12 y12 z12 st12 hQ12
            subst l12 y12 z12
            obtain ⟨rfl, Nq12, eh12⟩ := hQ12
            have N12 := Fr.app N11g Nq12
            refine own_go (fun t_ kt_ => st12 _ kt_) ?_
            obtain ⟨lo12, X12g, N12g⟩ : ∃ lo, Stand p l e ({ frames := 1, cells := 0, slots := 0, locals := 14 } : Room) s m #[(.int p0)] below meth c T12 lo 0 0 ∧ Fr n0 lo := ⟨_, X12, N12⟩
            have e12 : T12.heap = h0 := eh12
            show own_Go p e below s _ _ _ (T12.setTop (mkF m 167 #[.val (.int p0)] [(.int (own_io p0 (8255 : Int32) (8256 : Int32)))]))
            by_cases hc167 : (own_io p0 (8255 : Int32) (8256 : Int32)) = (0 : Int32)
            · skip
              have hi167 : ((own_io p0 (8255 : Int32) (8256 : Int32))).toInt = 0 := congrArg Int32.toInt hc167
              refine own_go (fun t_ kt_ => XS.ifNo X12g.here hx rfl (hb hby d3_167) rfl ((if0 _ _).trans (teq hc167).2) kt_) ?_
              show own_Go p e below s _ _ _ (T12.setTop (mkF m 170 #[.val (.int p0)] []))
              have hj167 : ¬ (8255 ≤ p0.toInt ∧ p0.toInt ≤ 8256) := own_io0 hc167
              refine own_go (fun t_ kt_ => XS.iloadN X12g.here hx rfl (hb hby d3_170) rfl kt_) ?_
              show own_Go p e below s _ _ _ (T12.setTop (mkF m 171 #[.val (.int p0)] [(.int p0)]))
              refine own_go (fun t_ kt_ => XS.sipush X12g.here hx rfl (hb hby d3_171) kt_) ?_
              show own_Go p e below s _ _ _ (T12.setTop (mkF m 174 #[.val (.int p0)] [(.int (8304 : Int32)), (.int p0)]))
              refine own_go (fun t_ kt_ => XS.sipush X12g.here hx rfl (hb hby d3_174) kt_) ?_
              show own_Go p e below s _ _ _ (T12.setTop (mkF m 177 #[.val (.int p0)] [(.int (8591 : Int32)), (.int (8304 : Int32)), (.int p0)]))
              obtain ⟨_, _, ⟨T13, L13, k13, n13⟩, -, X13, ⟨Lc13, hQ13, l13, y13, z13⟩, st13⟩ := Jvm.LawKit.callS X12g hx (y := (⟨"com/example/provfold/provfold/QualifiedNameIsNameCharacterPinLaw", "in", "(III)Z"⟩ : MethodName)) hown (mvT hZ (hw _ (List.mem_of_getElem? (i := 23) rfl))) (mvT hZ (hw _ (List.mem_of_getElem? (i := 24) rfl))) (mvT hZ (hw _ (List.mem_of_getElem? (i := 21) rfl))) (mvT hZ (hw _ (List.mem_of_getElem? (i := 25) rfl))) (by decide) (backOf (W := 0) (rm4 l Z a0 hw [] (p0) ((8304 : Int32)) ((8591 : Int32)) h0 n0 Z0 ) hZ (hw _ (List.mem_of_getElem? (i := 25) rfl)) (hw _ (List.mem_of_getElem? (i := 21) rfl)) (by decide) (by decide)) (g := (mkF m 177 #[.val (.int p0)] [(.int (8591 : Int32)), (.int (8304 : Int32)), (.int p0)])) rfl (by rw [hml]; rfl) (argsL := [(.int p0), (.int (8304 : Int32)), (.int (8591 : Int32))]) (rest := []) (lenOf pd_1 rfl) rfl (by show 2 * 0 + _ ≤ _; exact Nat.le_of_eq rfl) (hb hby d3_177) (fun _ _ => ⟨rfl, e12, (by decide : 0 + 0 ≤ _), (by decide : 0 + 0 ≤ _)⟩)
              dsimp only [Pt.U, Pt.locs, Pt.cells, Pt.slots] at X13 l13 y13 z13 st13 hQ13
              subst l13 y13 z13
              obtain ⟨rfl, Nq13, eh13⟩ := hQ13
              have N13 := Fr.app N12g Nq13
              refine own_go (fun t_ kt_ => st13 _ kt_) ?_
              obtain ⟨lo13, X13g, N13g⟩ : ∃ lo, Stand p l e ({ frames := 1, cells := 0, slots := 0, locals := 14 } : Room) s m #[(.int p0)] below meth c T13 lo 0 0 ∧ Fr n0 lo := ⟨_, X13, N13⟩
              have e13 : T13.heap = h0 := eh13
              show own_Go p e below s _ _ _ (T13.setTop (mkF m 180 #[.val (.int p0)] [(.int (own_io p0 (8304 : Int32) (8591 : Int32)))]))
              by_cases hc180 : (own_io p0 (8304 : Int32) (8591 : Int32)) = (0 : Int32)
              · skip
                have hi180 : ((own_io p0 (8304 : Int32) (8591 : Int32))).toInt = 0 := congrArg Int32.toInt hc180
                refine own_go (fun t_ kt_ => XS.ifNo X13g.here hx rfl (hb hby d3_180) rfl ((if0 _ _).trans (teq hc180).2) kt_) ?_
                show own_Go p e below s _ _ _ (T13.setTop (mkF m 183 #[.val (.int p0)] []))
                have hj180 : ¬ (8304 ≤ p0.toInt ∧ p0.toInt ≤ 8591) := own_io0 hc180
                refine own_go (fun t_ kt_ => XS.iloadN X13g.here hx rfl (hb hby d3_183) rfl kt_) ?_
                show own_Go p e below s _ _ _ (T13.setTop (mkF m 184 #[.val (.int p0)] [(.int p0)]))
                refine own_go (fun t_ kt_ => XS.sipush X13g.here hx rfl (hb hby d3_184) kt_) ?_
                show own_Go p e below s _ _ _ (T13.setTop (mkF m 187 #[.val (.int p0)] [(.int (11264 : Int32)), (.int p0)]))
                refine own_go (fun t_ kt_ => XS.sipush X13g.here hx rfl (hb hby d3_187) kt_) ?_
                show own_Go p e below s _ _ _ (T13.setTop (mkF m 190 #[.val (.int p0)] [(.int (12271 : Int32)), (.int (11264 : Int32)), (.int p0)]))
                obtain ⟨_, _, ⟨T14, L14, k14, n14⟩, -, X14, ⟨Lc14, hQ14, l14, y14, z14⟩, st14⟩ := Jvm.LawKit.callS X13g hx (y := (⟨"com/example/provfold/provfold/QualifiedNameIsNameCharacterPinLaw", "in", "(III)Z"⟩ : MethodName)) hown (mvT hZ (hw _ (List.mem_of_getElem? (i := 23) rfl))) (mvT hZ (hw _ (List.mem_of_getElem? (i := 24) rfl))) (mvT hZ (hw _ (List.mem_of_getElem? (i := 21) rfl))) (mvT hZ (hw _ (List.mem_of_getElem? (i := 25) rfl))) (by decide) (backOf (W := 0) (rm4 l Z a0 hw [] (p0) ((11264 : Int32)) ((12271 : Int32)) h0 n0 Z0 ) hZ (hw _ (List.mem_of_getElem? (i := 25) rfl)) (hw _ (List.mem_of_getElem? (i := 21) rfl)) (by decide) (by decide)) (g := (mkF m 190 #[.val (.int p0)] [(.int (12271 : Int32)), (.int (11264 : Int32)), (.int p0)])) rfl (by rw [hml]; rfl) (argsL := [(.int p0), (.int (11264 : Int32)), (.int (12271 : Int32))]) (rest := []) (lenOf pd_1 rfl) rfl (by show 2 * 0 + _ ≤ _; exact Nat.le_of_eq rfl) (hb hby d3_190) (fun _ _ => ⟨rfl, e13, (by decide : 0 + 0 ≤ _), (by decide : 0 + 0 ≤ _)⟩)
                dsimp only [Pt.U, Pt.locs, Pt.cells, Pt.slots] at X14 l14 y14 z14 st14 hQ14
                subst l14 y14 z14
                obtain ⟨rfl, Nq14, eh14⟩ := hQ14
                have N14 := Fr.app N13g Nq14
                refine own_go (fun t_ kt_ => st14 _ kt_) ?_
                obtain ⟨lo14, X14g, N14g⟩ : ∃ lo, Stand p l e ({ frames := 1, cells := 0, slots := 0, locals := 14 } : Room) s m #[(.int p0)] below meth c T14 lo 0 0 ∧ Fr n0 lo := ⟨_, X14, N14⟩
                have e14 : T14.heap = h0 := eh14
                show own_Go p e below s _ _ _ (T14.setTop (mkF m 193 #[.val (.int p0)] [(.int (own_io p0 (11264 : Int32) (12271 : Int32)))]))
                by_cases hc193 : (own_io p0 (11264 : Int32) (12271 : Int32)) = (0 : Int32)
                · skip
                  have hi193 : ((own_io p0 (11264 : Int32) (12271 : Int32))).toInt = 0 := congrArg Int32.toInt hc193
                  refine own_go (fun t_ kt_ => XS.ifNo X14g.here hx rfl (hb hby d3_193) rfl ((if0 _ _).trans (teq hc193).2) kt_) ?_
                  show own_Go p e below s _ _ _ (T14.setTop (mkF m 196 #[.val (.int p0)] []))
                  have hj193 : ¬ (11264 ≤ p0.toInt ∧ p0.toInt ≤ 12271) := own_io0 hc193
                  refine own_go (fun t_ kt_ => XS.iloadN X14g.here hx rfl (hb hby d3_196) rfl kt_) ?_
                  show own_Go p e below s _ _ _ (T14.setTop (mkF m 197 #[.val (.int p0)] [(.int p0)]))
                  refine own_go (fun t_ kt_ => XS.sipush X14g.here hx rfl (hb hby d3_197) kt_) ?_
                  show own_Go p e below s _ _ _ (T14.setTop (mkF m 200 #[.val (.int p0)] [(.int (12289 : Int32)), (.int p0)]))
                  refine own_go (fun t_ kt_ => X14g.ldcInt hx hown (mvT hZ (hw _ (List.mem_of_getElem? (i := 1) rfl))) (g := (mkF m 200 #[.val (.int p0)] [(.int (12289 : Int32)), (.int p0)])) rfl (hb hby d3_200) _ kt_) ?_
                  show own_Go p e below s _ _ _ (T14.setTop (mkF m 202 #[.val (.int p0)] [(.int (55295 : Int32)), (.int (12289 : Int32)), (.int p0)]))
                  obtain ⟨_, _, ⟨T15, L15, k15, n15⟩, -, X15, ⟨Lc15, hQ15, l15, y15, z15⟩, st15⟩ := Jvm.LawKit.callS X14g hx (y := (⟨"com/example/provfold/provfold/QualifiedNameIsNameCharacterPinLaw", "in", "(III)Z"⟩ : MethodName)) hown (mvT hZ (hw _ (List.mem_of_getElem? (i := 23) rfl))) (mvT hZ (hw _ (List.mem_of_getElem? (i := 24) rfl))) (mvT hZ (hw _ (List.mem_of_getElem? (i := 21) rfl))) (mvT hZ (hw _ (List.mem_of_getElem? (i := 25) rfl))) (by decide) (backOf (W := 0) (rm4 l Z a0 hw [] (p0) ((12289 : Int32)) ((55295 : Int32)) h0 n0 Z0 ) hZ (hw _ (List.mem_of_getElem? (i := 25) rfl)) (hw _ (List.mem_of_getElem? (i := 21) rfl)) (by decide) (by decide)) (g := (mkF m 202 #[.val (.int p0)] [(.int (55295 : Int32)), (.int (12289 : Int32)), (.int p0)])) rfl (by rw [hml]; rfl) (argsL := [(.int p0), (.int (12289 : Int32)), (.int (55295 : Int32))]) (rest := []) (lenOf pd_1 rfl) rfl (by show 2 * 0 + _ ≤ _; exact Nat.le_of_eq rfl) (hb hby d3_202) (fun _ _ => ⟨rfl, e14, (by decide : 0 + 0 ≤ _), (by decide : 0 + 0 ≤ _)⟩)
                  dsimp only [Pt.U, Pt.locs, Pt.cells, Pt.slots] at X15 l15 y15 z15 st15 hQ15
                  subst l15 y15 z15
                  obtain ⟨rfl, Nq15, eh15⟩ := hQ15
                  have N15 := Fr.app N14g Nq15
                  refine own_go (fun t_ kt_ => st15 _ kt_) ?_
                  obtain ⟨lo15, X15g, N15g⟩ : ∃ lo, Stand p l e ({ frames := 1, cells := 0, slots := 0, locals := 14 } : Room) s m #[(.int p0)] below meth c T15 lo 0 0 ∧ Fr n0 lo := ⟨_, X15, N15⟩
                  have e15 : T15.heap = h0 := eh15
                  show own_Go p e below s _ _ _ (T15.setTop (mkF m 205 #[.val (.int p0)] [(.int (own_io p0 (12289 : Int32) (55295 : Int32)))]))
                  by_cases hc205 : (own_io p0 (12289 : Int32) (55295 : Int32)) = (0 : Int32)
                  · skip
                    have hi205 : ((own_io p0 (12289 : Int32) (55295 : Int32))).toInt = 0 := congrArg Int32.toInt hc205
                    refine own_go (fun t_ kt_ => XS.ifNo X15g.here hx rfl (hb hby d3_205) rfl ((if0 _ _).trans (teq hc205).2) kt_) ?_
                    show own_Go p e below s _ _ _ (T15.setTop (mkF m 208 #[.val (.int p0)] []))
                    have hj205 : ¬ (12289 ≤ p0.toInt ∧ p0.toInt ≤ 55295) := own_io0 hc205
                    refine own_go (fun t_ kt_ => XS.iloadN X15g.here hx rfl (hb hby d3_208) rfl kt_) ?_
                    show own_Go p e below s _ _ _ (T15.setTop (mkF m 209 #[.val (.int p0)] [(.int p0)]))
                    refine own_go (fun t_ kt_ => X15g.ldcInt hx hown (mvT hZ (hw _ (List.mem_of_getElem? (i := 2) rfl))) (g := (mkF m 209 #[.val (.int p0)] [(.int p0)])) rfl (hb hby d3_209) _ kt_) ?_
                    show own_Go p e below s _ _ _ (T15.setTop (mkF m 211 #[.val (.int p0)] [(.int (63744 : Int32)), (.int p0)]))
                    refine own_go (fun t_ kt_ => X15g.ldcInt hx hown (mvT hZ (hw _ (List.mem_of_getElem? (i := 3) rfl))) (g := (mkF m 211 #[.val (.int p0)] [(.int (63744 : Int32)), (.int p0)])) rfl (hb hby d3_211) _ kt_) ?_
                    show own_Go p e below s _ _ _ (T15.setTop (mkF m 213 #[.val (.int p0)] [(.int (64975 : Int32)), (.int (63744 : Int32)), (.int p0)]))
                    obtain ⟨_, _, ⟨T16, L16, k16, n16⟩, -, X16, ⟨Lc16, hQ16, l16, y16, z16⟩, st16⟩ := Jvm.LawKit.callS X15g hx (y := (⟨"com/example/provfold/provfold/QualifiedNameIsNameCharacterPinLaw", "in", "(III)Z"⟩ : MethodName)) hown (mvT hZ (hw _ (List.mem_of_getElem? (i := 23) rfl))) (mvT hZ (hw _ (List.mem_of_getElem? (i := 24) rfl))) (mvT hZ (hw _ (List.mem_of_getElem? (i := 21) rfl))) (mvT hZ (hw _ (List.mem_of_getElem? (i := 25) rfl))) (by decide) (backOf (W := 0) (rm4 l Z a0 hw [] (p0) ((63744 : Int32)) ((64975 : Int32)) h0 n0 Z0 ) hZ (hw _ (List.mem_of_getElem? (i := 25) rfl)) (hw _ (List.mem_of_getElem? (i := 21) rfl)) (by decide) (by decide)) (g := (mkF m 213 #[.val (.int p0)] [(.int (64975 : Int32)), (.int (63744 : Int32)), (.int p0)])) rfl (by rw [hml]; rfl) (argsL := [(.int p0), (.int (63744 : Int32)), (.int (64975 : Int32))]) (rest := []) (lenOf pd_1 rfl) rfl (by show 2 * 0 + _ ≤ _; exact Nat.le_of_eq rfl) (hb hby d3_213) (fun _ _ => ⟨rfl, e15, (by decide : 0 + 0 ≤ _), (by decide : 0 + 0 ≤ _)⟩)
                    dsimp only [Pt.U, Pt.locs, Pt.cells, Pt.slots] at X16 l16 y16 z16 st16 hQ16
                    subst l16 y16 z16
                    obtain ⟨rfl, Nq16, eh16⟩ := hQ16
                    have N16 := Fr.app N15g Nq16
                    refine own_go (fun t_ kt_ => st16 _ kt_) ?_
                    obtain ⟨lo16, X16g, N16g⟩ : ∃ lo, Stand p l e ({ frames := 1, cells := 0, slots := 0, locals := 14 } : Room) s m #[(.int p0)] below meth c T16 lo 0 0 ∧ Fr n0 lo := ⟨_, X16, N16⟩
                    have e16 : T16.heap = h0 := eh16
                    show own_Go p e below s _ _ _ (T16.setTop (mkF m 216 #[.val (.int p0)] [(.int (own_io p0 (63744 : Int32) (64975 : Int32)))]))
                    by_cases hc216 : (own_io p0 (63744 : Int32) (64975 : Int32)) = (0 : Int32)
                    · skip
                      have hi216 : ((own_io p0 (63744 : Int32) (64975 : Int32))).toInt = 0 := congrArg Int32.toInt hc216
                      refine own_go (fun t_ kt_ => XS.ifNo X16g.here hx rfl (hb hby d3_216) rfl ((if0 _ _).trans (teq hc216).2) kt_) ?_
                      show own_Go p e below s _ _ _ (T16.setTop (mkF m 219 #[.val (.int p0)] []))
                      have hj216 : ¬ (63744 ≤ p0.toInt ∧ p0.toInt ≤ 64975) := own_io0 hc216
                      refine own_go (fun t_ kt_ => XS.iloadN X16g.here hx rfl (hb hby d3_219) rfl kt_) ?_
                      show own_Go p e below s _ _ _ (T16.setTop (mkF m 220 #[.val (.int p0)] [(.int p0)]))
                      refine own_go (fun t_ kt_ => X16g.ldcInt hx hown (mvT hZ (hw _ (List.mem_of_getElem? (i := 4) rfl))) (g := (mkF m 220 #[.val (.int p0)] [(.int p0)])) rfl (hb hby d3_220) _ kt_) ?_
                      show own_Go p e below s _ _ _ (T16.setTop (mkF m 222 #[.val (.int p0)] [(.int (65008 : Int32)), (.int p0)]))
                      refine own_go (fun t_ kt_ => X16g.ldcInt hx hown (mvT hZ (hw _ (List.mem_of_getElem? (i := 5) rfl))) (g := (mkF m 222 #[.val (.int p0)] [(.int (65008 : Int32)), (.int p0)])) rfl (hb hby d3_222) _ kt_) ?_
                      show own_Go p e below s _ _ _ (T16.setTop (mkF m 224 #[.val (.int p0)] [(.int (65533 : Int32)), (.int (65008 : Int32)), (.int p0)]))
                      obtain ⟨_, _, ⟨T17, L17, k17, n17⟩, -, X17, ⟨Lc17, hQ17, l17, y17, z17⟩, st17⟩ := Jvm.LawKit.callS X16g hx (y := (⟨"com/example/provfold/provfold/QualifiedNameIsNameCharacterPinLaw", "in", "(III)Z"⟩ : MethodName)) hown (mvT hZ (hw _ (List.mem_of_getElem? (i := 23) rfl))) (mvT hZ (hw _ (List.mem_of_getElem? (i := 24) rfl))) (mvT hZ (hw _ (List.mem_of_getElem? (i := 21) rfl))) (mvT hZ (hw _ (List.mem_of_getElem? (i := 25) rfl))) (by decide) (backOf (W := 0) (rm4 l Z a0 hw [] (p0) ((65008 : Int32)) ((65533 : Int32)) h0 n0 Z0 ) hZ (hw _ (List.mem_of_getElem? (i := 25) rfl)) (hw _ (List.mem_of_getElem? (i := 21) rfl)) (by decide) (by decide)) (g := (mkF m 224 #[.val (.int p0)] [(.int (65533 : Int32)), (.int (65008 : Int32)), (.int p0)])) rfl (by rw [hml]; rfl) (argsL := [(.int p0), (.int (65008 : Int32)), (.int (65533 : Int32))]) (rest := []) (lenOf pd_1 rfl) rfl (by show 2 * 0 + _ ≤ _; exact Nat.le_of_eq rfl) (hb hby d3_224) (fun _ _ => ⟨rfl, e16, (by decide : 0 + 0 ≤ _), (by decide : 0 + 0 ≤ _)⟩)
                      dsimp only [Pt.U, Pt.locs, Pt.cells, Pt.slots] at X17 l17 y17 z17 st17 hQ17
                      subst l17 y17 z17
                      obtain ⟨rfl, Nq17, eh17⟩ := hQ17
                      have N17 := Fr.app N16g Nq17
                      refine own_go (fun t_ kt_ => st17 _ kt_) ?_
                      obtain ⟨lo17, X17g, N17g⟩ : ∃ lo, Stand p l e ({ frames := 1, cells := 0, slots := 0, locals := 14 } : Room) s m #[(.int p0)] below meth c T17 lo 0 0 ∧ Fr n0 lo := ⟨_, X17, N17⟩
                      have e17 : T17.heap = h0 := eh17
                      show own_Go p e below s _ _ _ (T17.setTop (mkF m 227 #[.val (.int p0)] [(.int (own_io p0 (65008 : Int32) (65533 : Int32)))]))
                      by_cases hc227 : (own_io p0 (65008 : Int32) (65533 : Int32)) = (0 : Int32)
                      · skip
                        have hi227 : ((own_io p0 (65008 : Int32) (65533 : Int32))).toInt = 0 := congrArg Int32.toInt hc227
                        refine own_go (fun t_ kt_ => XS.ifYes X17g.here hx rfl (pc0 := 227) (pc' := 234) rfl (hb hby d3_227) rfl ((if0 _ _).trans (teq hc227).1) (by decide) (by decide) kt_) ?_
                        show own_Go p e below s _ _ _ (T17.setTop (mkF m 234 #[.val (.int p0)] []))
                        have hj227 : ¬ (65008 ≤ p0.toInt ∧ p0.toInt ≤ 65533) := own_io0 hc227
                        refine own_go (fun t_ kt_ => XS.iconst X17g.here hx rfl (hb hby d3_234) kt_) ?_
                        show own_Go p e below s _ _ _ (T17.setTop (mkF m 235 #[.val (.int p0)] [(.int (0 : Int32))]))
                        refine own_ret X17g (v := some (.int (0 : Int32))) (fun h => by rw [hret] at h; cases h) hlk ?_ (by decide) (by decide) (fun fs hr => retN X17g hx (t := .boolean) hret (by simp) (hb hby d3_235) hr)
                        show Q3 Z p0 h0 n0 (some (.int (0 : Int32))) T17.heap _
                        rw [e17]
                        exact ⟨congrArg (fun z => some (Value.int z)) (by first | exact hq.symm | (unfold own_nm; first | rw [if_pos (by omega)] | rw [if_neg (by omega)])), N17g, rfl⟩
                      · skip
                        have hi227 : ¬ ((own_io p0 (65008 : Int32) (65533 : Int32))).toInt = 0 := fun q => hc227 (Int32.toInt_inj.mp q)
                        refine own_go (fun t_ kt_ => XS.ifNo X17g.here hx rfl (hb hby d3_227) rfl ((if0 _ _).trans (feq hc227).1) kt_) ?_
                        show own_Go p e below s _ _ _ (T17.setTop (mkF m 230 #[.val (.int p0)] []))
                        have hj227 : (65008 ≤ p0.toInt ∧ p0.toInt ≤ 65533) := own_io1 hc227
                        exact J230 T17 _ X17g e17 N17g   (by unfold own_nm; rw [if_pos (by omega)])
                    · skip
                      have hi216 : ¬ ((own_io p0 (63744 : Int32) (64975 : Int32))).toInt = 0 := fun q => hc216 (Int32.toInt_inj.mp q)
                      refine own_go (fun t_ kt_ => XS.ifYes X16g.here hx rfl (pc0 := 216) (pc' := 230) rfl (hb hby d3_216) rfl ((if0 _ _).trans (feq hc216).2) (by decide) (by decide) kt_) ?_
                      show own_Go p e below s _ _ _ (T16.setTop (mkF m 230 #[.val (.int p0)] []))
                      have hj216 : (63744 ≤ p0.toInt ∧ p0.toInt ≤ 64975) := own_io1 hc216
                      exact J230 T16 _ X16g e16 N16g   (by unfold own_nm; rw [if_pos (by omega)])
                  · skip
                    have hi205 : ¬ ((own_io p0 (12289 : Int32) (55295 : Int32))).toInt = 0 := fun q => hc205 (Int32.toInt_inj.mp q)
                    refine own_go (fun t_ kt_ => XS.ifYes X15g.here hx rfl (pc0 := 205) (pc' := 230) rfl (hb hby d3_205) rfl ((if0 _ _).trans (feq hc205).2) (by decide) (by decide) kt_) ?_
                    show own_Go p e below s _ _ _ (T15.setTop (mkF m 230 #[.val (.int p0)] []))
                    have hj205 : (12289 ≤ p0.toInt ∧ p0.toInt ≤ 55295) := own_io1 hc205
                    exact J230 T15 _ X15g e15 N15g   (by unfold own_nm; rw [if_pos (by omega)])
                · skip
                  have hi193 : ¬ ((own_io p0 (11264 : Int32) (12271 : Int32))).toInt = 0 := fun q => hc193 (Int32.toInt_inj.mp q)
                  refine own_go (fun t_ kt_ => XS.ifYes X14g.here hx rfl (pc0 := 193) (pc' := 230) rfl (hb hby d3_193) rfl ((if0 _ _).trans (feq hc193).2) (by decide) (by decide) kt_) ?_
                  show own_Go p e below s _ _ _ (T14.setTop (mkF m 230 #[.val (.int p0)] []))
                  have hj193 : (11264 ≤ p0.toInt ∧ p0.toInt ≤ 12271) := own_io1 hc193
                  exact J230 T14 _ X14g e14 N14g   (by unfold own_nm; rw [if_pos (by omega)])
              · skip
                have hi180 : ¬ ((own_io p0 (8304 : Int32) (8591 : Int32))).toInt = 0 := fun q => hc180 (Int32.toInt_inj.mp q)
                refine own_go (fun t_ kt_ => XS.ifYes X13g.here hx rfl (pc0 := 180) (pc' := 230) rfl (hb hby d3_180) rfl ((if0 _ _).trans (feq hc180).2) (by decide) (by decide) kt_) ?_
                show own_Go p e below s _ _ _ (T13.setTop (mkF m 230 #[.val (.int p0)] []))
                have hj180 : (8304 ≤ p0.toInt ∧ p0.toInt ≤ 8591) := own_io1 hc180
                exact J230 T13 _ X13g e13 N13g   (by unfold own_nm; rw [if_pos (by omega)])
            · skip
              have hi167 : ¬ ((own_io p0 (8255 : Int32) (8256 : Int32))).toInt = 0 := fun q => hc167 (Int32.toInt_inj.mp q)
              refine own_go (fun t_ kt_ => XS.ifYes X12g.here hx rfl (pc0 := 167) (pc' := 230) rfl (hb hby d3_167) rfl ((if0 _ _).trans (feq hc167).2) (by decide) (by decide) kt_) ?_
              show own_Go p e below s _ _ _ (T12.setTop (mkF m 230 #[.val (.int p0)] []))
              have hj167 : (8255 ≤ p0.toInt ∧ p0.toInt ≤ 8256) := own_io1 hc167
              exact J230 T12 _ X12g e12 N12g   (by unfold own_nm; rw [if_pos (by omega)])
          · skip
            have hi154 : ¬ ((own_io p0 (8204 : Int32) (8205 : Int32))).toInt = 0 := fun q => hc154 (Int32.toInt_inj.mp q)
            refine own_go (fun t_ kt_ => XS.ifYes X11g.here hx rfl (pc0 := 154) (pc' := 230) rfl (hb hby d3_154) rfl ((if0 _ _).trans (feq hc154).2) (by decide) (by decide) kt_) ?_
            show own_Go p e below s _ _ _ (T11.setTop (mkF m 230 #[.val (.int p0)] []))
            have hj154 : (8204 ≤ p0.toInt ∧ p0.toInt ≤ 8205) := own_io1 hc154
            exact J230 T11 _ X11g e11 N11g   (by unfold own_nm; rw [if_pos (by omega)])
        · skip
          have hi141 : ¬ p0.toInt < 65536 := fun q => hc141 (Int32.lt_iff_toInt_lt.mpr q)
          refine own_go (fun t_ kt_ => XS.icmpYes X0.here hx rfl (pc0 := 141) (pc' := 236) rfl (hb hby d3_141) rfl (flt hc141).2.1 (by decide) (by decide) kt_) ?_
          show own_Go p e below s _ _ _ (s₁.setTop (mkF m 236 #[.val (.int p0)] []))
          refine own_go (fun t_ kt_ => XS.iloadN X0.here hx rfl (hb hby d3_236) rfl kt_) ?_
          show own_Go p e below s _ _ _ (s₁.setTop (mkF m 237 #[.val (.int p0)] [(.int p0)]))
          refine own_go (fun t_ kt_ => X0.ldcInt hx hown (mvT hZ (hw _ (List.mem_of_getElem? (i := 7) rfl))) (g := (mkF m 237 #[.val (.int p0)] [(.int p0)])) rfl (hb hby d3_237) _ kt_) ?_
          show own_Go p e below s _ _ _ (s₁.setTop (mkF m 239 #[.val (.int p0)] [(.int (983039 : Int32)), (.int p0)]))
          by_cases hc239 : (983039 : Int32) < p0
          · skip
            have hi239 : 983039 < p0.toInt := Int32.lt_iff_toInt_lt.mp hc239
            refine own_go (fun t_ kt_ => XS.icmpYes X0.here hx rfl (pc0 := 239) (pc' := 246) rfl (hb hby d3_239) rfl (tlt hc239).2.2.1 (by decide) (by decide) kt_) ?_
            show own_Go p e below s _ _ _ (s₁.setTop (mkF m 246 #[.val (.int p0)] []))
            refine own_go (fun t_ kt_ => XS.iconst X0.here hx rfl (hb hby d3_246) kt_) ?_
            show own_Go p e below s _ _ _ (s₁.setTop (mkF m 247 #[.val (.int p0)] [(.int (0 : Int32))]))
            refine own_ret X0 (v := some (.int (0 : Int32))) (fun h => by rw [hret] at h; cases h) hlk ?_ (by decide) (by decide) (fun fs hr => retN X0 hx (t := .boolean) hret (by simp) (hb hby d3_247) hr)
            show Q3 Z p0 h0 n0 (some (.int (0 : Int32))) s₁.heap _
            rw [e0]
            exact ⟨congrArg (fun z => some (Value.int z)) (by first | exact hq.symm | (unfold own_nm; first | rw [if_pos (by omega)] | rw [if_neg (by omega)])), N0, rfl⟩
          · skip
            have hi239 : ¬ 983039 < p0.toInt := fun q => hc239 (Int32.lt_iff_toInt_lt.mpr q)
            refine own_go (fun t_ kt_ => XS.icmpNo X0.here hx rfl (hb hby d3_239) rfl (flt hc239).2.2.1 kt_) ?_
            show own_Go p e below s _ _ _ (s₁.setTop (mkF m 242 #[.val (.int p0)] []))
            refine own_go (fun t_ kt_ => XS.iconst X0.here hx rfl (hb hby d3_242) kt_) ?_
            show own_Go p e below s _ _ _ (s₁.setTop (mkF m 243 #[.val (.int p0)] [(.int (1 : Int32))]))
            refine own_go (fun t_ kt_ => XS.goto X0.here hx rfl (pc0 := 243) (pc' := 247) rfl (hb hby d3_243) (by decide) (by decide) kt_) ?_
            show own_Go p e below s _ _ _ (s₁.setTop (mkF m 247 #[.val (.int p0)] [(.int (1 : Int32))]))
            refine own_ret X0 (v := some (.int (1 : Int32))) (fun h => by rw [hret] at h; cases h) hlk ?_ (by decide) (by decide) (fun fs hr => retN X0 hx (t := .boolean) hret (by simp) (hb hby d3_247) hr)
            show Q3 Z p0 h0 n0 (some (.int (1 : Int32))) s₁.heap _
            rw [e0]
            exact ⟨congrArg (fun z => some (Value.int z)) (by first | exact hq.symm | (unfold own_nm; first | rw [if_pos (by omega)] | rw [if_neg (by omega)])), N0, rfl⟩
theorem own_kk (x : Int32) : ∃ kk : Nat, ((x &&& (2147483647 : Int32)) % (37 : Int32)).toInt = (kk : Int) ∧ kk < 37 := by
  have h1 := c_and x 2147483647 (by decide)
  have h2 := (c_irem (x &&& (2147483647 : Int32)) 37 37 (by decide)).1 h1.1
  refine ⟨((x &&& (2147483647 : Int32)).toInt % 37).toNat, ?_, ?_⟩
  · rw [h2]; omega
  · omega
theorem ef_0 (m : MethodId) (p0 : Int32) (p1 : Int32) (p2 : Int32) : entryFrame m #[(.int p0), (.int p1), (.int p2)] maxLocals = mkF m 0 #[.val (.int p0), .val (.int p1), .val (.int p2), .unset, .unset] [] := by first | (simp [entryFrame, mkF, argsToLocals, Value.category, maxLocals]; done) | rfl
def Q0 (Z : State) (p0 : Int32) (p1 : Int32) (p2 : Int32) (h0 : Heap) (n0 : Nat) (v : Option Value) (h : Heap) (L : List Loc) : Prop := v = some (.int 1) ∧ Fr n0 L
set_option maxRecDepth 65536 in
set_option maxHeartbeats 40000000 in
theorem rm0 (l : Launch) (Z : State) (a0 : Array Value) (hw : ∀ d ∈ tables_1, d.before a0 Z = true) (ws : List Jvm.Cond) (p0 : Int32) (p1 : Int32) (p2 : Int32) (h0 : Heap) (n0 : Nat) (Z0 : n0 ≤ h0.size) :
    MetFree l x (head1 (Jvm.Cond.code x code maxLocals ret :: ws) room_1) (fun a U => a = #[(.int p0), (.int p1), (.int p2)] ∧ Z.Warmed39 U.vm ∧ U.heap = h0) (fun _ _ _ _ _ => True) (fun _ U o U' => ∃ v L, o = .returned v ∧ Q0 Z p0 p1 p2 h0 n0 v U'.heap L ∧ FrameEnd U o U' L (room_1).cells (room_1).slots) := by
  refine MetFree.of_bodySF (plainFor_of_name pn_1) hisR ?_
  intro p e s m args below meth c s₁ Bd hml0 hP hK
  obtain ⟨rfl, hZ, hh⟩ := hP
  have hx := Bd.exec
  have hby := Bd.bytes
  have hml : c.maxLocals = 5 := hml0
  have hown : s.vm.findClass "com/example/provfold/provfold/QualifiedNameIsNameCharacterPinLaw" = some m.cls := findClass_of_methodNamed Bd.named
  have hnm := (name_of_methodNamed Bd.named Bd.method).1
  have hlk : meth.locks = false := Bd.notSynchronized
  have X0 : Stand p l e room_1 s m #[(.int p0), (.int p1), (.int p2)] below meth c s₁ [] 0 0 := Stand.of_body Bd
  have e0 : s₁.heap = h0 := by rw [← hh, Bd.state]; rfl
  have N0 := Fr.nil n0
  have hret := Bd.returns
  show own_Go p e below s (Q0 Z p0 p1 p2 h0 n0) _ _ (s₁.setTop (entryFrame m #[(.int p0), (.int p1), (.int p2)] maxLocals))
  refine own_go (fun t k => castTop (ef_0 m p0 p1 p2) k) ?_
  show own_Go p e below s _ _ _ (s₁.setTop (mkF m 0 #[.val (.int p0), .val (.int p1), .val (.int p2), .unset, .unset] []))
  refine own_go (fun t_ kt_ => XS.bipush X0.here hx rfl (hb hby at_0) kt_) ?_
  show own_Go p e below s _ _ _ (s₁.setTop (mkF m 2 #[.val (.int p0), .val (.int p1), .val (.int p2), .unset, .unset] [(.int (37 : Int32))]))
  obtain ⟨T1, h1, k1, X1, e1, E1, A1, st1⟩ := newP X0 hx hZ (hw _ (List.mem_of_getElem? (i := 0) rfl)) e0 (g := (mkF m 2 #[.val (.int p0), .val (.int p1), .val (.int p2), .unset, .unset] [(.int (37 : Int32))])) rfl (hb hby at_2) rfl (by decide) (cap := 37) (by decide) (by decide) (by decide) (by decide)
  obtain ⟨b1, g1⟩ : ∃ z, z = h0.size := ⟨_, rfl⟩
  rw [← g1] at A1 st1
  refine own_go (fun t_ kt_ => st1 _ kt_) ?_
  have gt_b1 : n0 ≤ b1 := Nat.le_trans Z0 (Nat.le_of_eq g1.symm)
  have ZZ_1 : n0 ≤ h1.size := Nat.le_trans Z0 E1.1
  have V_b1 : own_Ary Z h1 b1 .int 37 (fun _ => (.int (0 : Int32))) := own_Ary.new A1 (by decide)
  show own_Go p e below s _ _ _ (T1.setTop (mkF m 4 #[.val (.int p0), .val (.int p1), .val (.int p2), .unset, .unset] [(.ref b1)]))
  refine own_go (fun t_ kt_ => XS.dup X1.here hx rfl (hb hby at_4) rfl rfl kt_) ?_
  show own_Go p e below s _ _ _ (T1.setTop (mkF m 5 #[.val (.int p0), .val (.int p1), .val (.int p2), .unset, .unset] [(.ref b1), (.ref b1)]))
  refine own_go (fun t_ kt_ => XS.iconst X1.here hx rfl (hb hby at_5) kt_) ?_
  show own_Go p e below s _ _ _ (T1.setTop (mkF m 6 #[.val (.int p0), .val (.int p1), .val (.int p2), .unset, .unset] [(.int (0 : Int32)), (.ref b1), (.ref b1)]))
  refine own_go (fun t_ kt_ => XS.bipush X1.here hx rfl (hb hby at_6) kt_) ?_
  show own_Go p e below s _ _ _ (T1.setTop (mkF m 8 #[.val (.int p0), .val (.int p1), .val (.int p2), .unset, .unset] [(.int (45 : Int32)), (.int (0 : Int32)), (.ref b1), (.ref b1)]))
  obtain ⟨c2, Ar2, S2, G2⟩ := id V_b1
  obtain ⟨T2, h2, X2, e2, W2, st2⟩ := stI X1 hx hZ e1 Ar2 (j := (0 : Int32)) (own_in (i := 0) S2 (by decide) (by decide)) (g := (mkF m 8 #[.val (.int p0), .val (.int p1), .val (.int p2), .unset, .unset] [(.int (45 : Int32)), (.int (0 : Int32)), (.ref b1), (.ref b1)])) rfl rfl (hb hby at_8)
  rw [own_cl (j := (0 : Int32)) (i := 0) (by decide)] at W2 X2
  refine own_go (fun t_ kt_ => st2 _ kt_) ?_
  have N2 := Fr.snoc X2 N0 gt_b1
  obtain ⟨lo2, X2g, N2g⟩ : ∃ lo, Stand p l e room_1 s m #[(.int p0), (.int p1), (.int p2)] below meth c T2 lo 1 37 ∧ Fr n0 lo := ⟨_, X2, N2⟩
  have ZZ_2 : n0 ≤ h2.size := Nat.le_trans ZZ_1 (Nat.le_of_eq W2.size.symm)
  have V_b1_2 : own_Ary Z h2 b1 .int 37 (own_set (fun _ => (.int (0 : Int32))) 0 (.int (45 : Int32))) := own_Ary.set Ar2 S2 G2 W2
  show own_Go p e below s _ _ _ (T2.setTop (mkF m 9 #[.val (.int p0), .val (.int p1), .val (.int p2), .unset, .unset] [(.ref b1)]))
  refine own_go (fun t_ kt_ => XS.dup X2g.here hx rfl (hb hby at_9) rfl rfl kt_) ?_
  show own_Go p e below s _ _ _ (T2.setTop (mkF m 10 #[.val (.int p0), .val (.int p1), .val (.int p2), .unset, .unset] [(.ref b1), (.ref b1)]))
  refine own_go (fun t_ kt_ => XS.iconst X2g.here hx rfl (hb hby at_10) kt_) ?_
  show own_Go p e below s _ _ _ (T2.setTop (mkF m 11 #[.val (.int p0), .val (.int p1), .val (.int p2), .unset, .unset] [(.int (1 : Int32)), (.ref b1), (.ref b1)]))
  refine own_go (fun t_ kt_ => XS.bipush X2g.here hx rfl (hb hby at_11) kt_) ?_
  show own_Go p e below s _ _ _ (T2.setTop (mkF m 13 #[.val (.int p0), .val (.int p1), .val (.int p2), .unset, .unset] [(.int (48 : Int32)), (.int (1 : Int32)), (.ref b1), (.ref b1)]))
  obtain ⟨c3, Ar3, S3, G3⟩ := id V_b1_2
  obtain ⟨T3, h3, X3, e3, W3, st3⟩ := stI X2g hx hZ e2 Ar3 (j := (1 : Int32)) (own_in (i := 1) S3 (by decide) (by decide)) (g := (mkF m 13 #[.val (.int p0), .val (.int p1), .val (.int p2), .unset, .unset] [(.int (48 : Int32)), (.int (1 : Int32)), (.ref b1), (.ref b1)])) rfl rfl (hb hby at_13)
  rw [own_cl (j := (1 : Int32)) (i := 1) (by decide)] at W3 X3
  refine own_go (fun t_ kt_ => st3 _ kt_) ?_
  have N3 := Fr.snoc X3 N2g gt_b1
  obtain ⟨lo3, X3g, N3g⟩ : ∃ lo, Stand p l e room_1 s m #[(.int p0), (.int p1), (.int p2)] below meth c T3 lo 1 37 ∧ Fr n0 lo := ⟨_, X3, N3⟩
  have ZZ_3 : n0 ≤ h3.size := Nat.le_trans ZZ_2 (Nat.le_of_eq W3.size.symm)
  have V_b1_3 : own_Ary Z h3 b1 .int 37 (own_set (own_set (fun _ => (.int (0 : Int32))) 0 (.int (45 : Int32))) 1 (.int (48 : Int32))) := own_Ary.set Ar3 S3 G3 W3
  show own_Go p e below s _ _ _ (T3.setTop (mkF m 14 #[.val (.int p0), .val (.int p1), .val (.int p2), .unset, .unset] [(.ref b1)]))
  refine own_go (fun t_ kt_ => XS.dup X3g.here hx rfl (hb hby at_14) rfl rfl kt_) ?_
  show own_Go p e below s _ _ _ (T3.setTop (mkF m 15 #[.val (.int p0), .val (.int p1), .val (.int p2), .unset, .unset] [(.ref b1), (.ref b1)]))
  refine own_go (fun t_ kt_ => XS.iconst X3g.here hx rfl (hb hby at_15) kt_) ?_
  show own_Go p e below s _ _ _ (T3.setTop (mkF m 16 #[.val (.int p0), .val (.int p1), .val (.int p2), .unset, .unset] [(.int (2 : Int32)), (.ref b1), (.ref b1)]))
  refine own_go (fun t_ kt_ => XS.bipush X3g.here hx rfl (hb hby at_16) kt_) ?_
  show own_Go p e below s _ _ _ (T3.setTop (mkF m 18 #[.val (.int p0), .val (.int p1), .val (.int p2), .unset, .unset] [(.int (57 : Int32)), (.int (2 : Int32)), (.ref b1), (.ref b1)]))
  obtain ⟨c4, Ar4, S4, G4⟩ := id V_b1_3
  obtain ⟨T4, h4, X4, e4, W4, st4⟩ := stI X3g hx hZ e3 Ar4 (j := (2 : Int32)) (own_in (i := 2) S4 (by decide) (by decide)) (g := (mkF m 18 #[.val (.int p0), .val (.int p1), .val (.int p2), .unset, .unset] [(.int (57 : Int32)), (.int (2 : Int32)), (.ref b1), (.ref b1)])) rfl rfl (hb hby at_18)
  rw [own_cl (j := (2 : Int32)) (i := 2) (by decide)] at W4 X4
  refine own_go (fun t_ kt_ => st4 _ kt_) ?_
  have N4 := Fr.snoc X4 N3g gt_b1
  obtain ⟨lo4, X4g, N4g⟩ : ∃ lo, Stand p l e room_1 s m #[(.int p0), (.int p1), (.int p2)] below meth c T4 lo 1 37 ∧ Fr n0 lo := ⟨_, X4, N4⟩
  have ZZ_4 : n0 ≤ h4.size := Nat.le_trans ZZ_3 (Nat.le_of_eq W4.size.symm)
  have V_b1_4 : own_Ary Z h4 b1 .int 37 (own_set (own_set (own_set (fun _ => (.int (0 : Int32))) 0 (.int (45 : Int32))) 1 (.int (48 : Int32))) 2 (.int (57 : Int32))) := own_Ary.set Ar4 S4 G4 W4
  show own_Go p e below s _ _ _ (T4.setTop (mkF m 19 #[.val (.int p0), .val (.int p1), .val (.int p2), .unset, .unset] [(.ref b1)]))
  refine own_go (fun t_ kt_ => XS.dup X4g.here hx rfl (hb hby at_19) rfl rfl kt_) ?_
  show own_Go p e below s _ _ _ (T4.setTop (mkF m 20 #[.val (.int p0), .val (.int p1), .val (.int p2), .unset, .unset] [(.ref b1), (.ref b1)]))
  refine own_go (fun t_ kt_ => XS.iconst X4g.here hx rfl (hb hby at_20) kt_) ?_
  show own_Go p e below s _ _ _ (T4.setTop (mkF m 21 #[.val (.int p0), .val (.int p1), .val (.int p2), .unset, .unset] [(.int (3 : Int32)), (.ref b1), (.ref b1)]))
  refine own_go (fun t_ kt_ => XS.bipush X4g.here hx rfl (hb hby at_21) kt_) ?_
  show own_Go p e below s _ _ _ (T4.setTop (mkF m 23 #[.val (.int p0), .val (.int p1), .val (.int p2), .unset, .unset] [(.int (65 : Int32)), (.int (3 : Int32)), (.ref b1), (.ref b1)]))
  obtain ⟨c5, Ar5, S5, G5⟩ := id V_b1_4
  obtain ⟨T5, h5, X5, e5, W5, st5⟩ := stI X4g hx hZ e4 Ar5 (j := (3 : Int32)) (own_in (i := 3) S5 (by decide) (by decide)) (g := (mkF m 23 #[.val (.int p0), .val (.int p1), .val (.int p2), .unset, .unset] [(.int (65 : Int32)), (.int (3 : Int32)), (.ref b1), (.ref b1)])) rfl rfl (hb hby at_23)
  rw [own_cl (j := (3 : Int32)) (i := 3) (by decide)] at W5 X5
  refine own_go (fun t_ kt_ => st5 _ kt_) ?_
  have N5 := Fr.snoc X5 N4g gt_b1
  obtain ⟨lo5, X5g, N5g⟩ : ∃ lo, Stand p l e room_1 s m #[(.int p0), (.int p1), (.int p2)] below meth c T5 lo 1 37 ∧ Fr n0 lo := ⟨_, X5, N5⟩
  have ZZ_5 : n0 ≤ h5.size := Nat.le_trans ZZ_4 (Nat.le_of_eq W5.size.symm)
  have V_b1_5 : own_Ary Z h5 b1 .int 37 (own_set (own_set (own_set (own_set (fun _ => (.int (0 : Int32))) 0 (.int (45 : Int32))) 1 (.int (48 : Int32))) 2 (.int (57 : Int32))) 3 (.int (65 : Int32))) := own_Ary.set Ar5 S5 G5 W5
  show own_Go p e below s _ _ _ (T5.setTop (mkF m 24 #[.val (.int p0), .val (.int p1), .val (.int p2), .unset, .unset] [(.ref b1)]))
  refine own_go (fun t_ kt_ => XS.dup X5g.here hx rfl (hb hby at_24) rfl rfl kt_) ?_
  show own_Go p e below s _ _ _ (T5.setTop (mkF m 25 #[.val (.int p0), .val (.int p1), .val (.int p2), .unset, .unset] [(.ref b1), (.ref b1)]))
  refine own_go (fun t_ kt_ => XS.iconst X5g.here hx rfl (hb hby at_25) kt_) ?_
  show own_Go p e below s _ _ _ (T5.setTop (mkF m 26 #[.val (.int p0), .val (.int p1), .val (.int p2), .unset, .unset] [(.int (4 : Int32)), (.ref b1), (.ref b1)]))
  refine own_go (fun t_ kt_ => XS.bipush X5g.here hx rfl (hb hby at_26) kt_) ?_
  show own_Go p e below s _ _ _ (T5.setTop (mkF m 28 #[.val (.int p0), .val (.int p1), .val (.int p2), .unset, .unset] [(.int (90 : Int32)), (.int (4 : Int32)), (.ref b1), (.ref b1)]))
  obtain ⟨c6, Ar6, S6, G6⟩ := id V_b1_5
  obtain ⟨T6, h6, X6, e6, W6, st6⟩ := stI X5g hx hZ e5 Ar6 (j := (4 : Int32)) (own_in (i := 4) S6 (by decide) (by decide)) (g := (mkF m 28 #[.val (.int p0), .val (.int p1), .val (.int p2), .unset, .unset] [(.int (90 : Int32)), (.int (4 : Int32)), (.ref b1), (.ref b1)])) rfl rfl (hb hby at_28)
  rw [own_cl (j := (4 : Int32)) (i := 4) (by decide)] at W6 X6
  refine own_go (fun t_ kt_ => st6 _ kt_) ?_
  have N6 := Fr.snoc X6 N5g gt_b1
  obtain ⟨lo6, X6g, N6g⟩ : ∃ lo, Stand p l e room_1 s m #[(.int p0), (.int p1), (.int p2)] below meth c T6 lo 1 37 ∧ Fr n0 lo := ⟨_, X6, N6⟩
  have ZZ_6 : n0 ≤ h6.size := Nat.le_trans ZZ_5 (Nat.le_of_eq W6.size.symm)
  have V_b1_6 : own_Ary Z h6 b1 .int 37 (own_set (own_set (own_set (own_set (own_set (fun _ => (.int (0 : Int32))) 0 (.int (45 : Int32))) 1 (.int (48 : Int32))) 2 (.int (57 : Int32))) 3 (.int (65 : Int32))) 4 (.int (90 : Int32))) := own_Ary.set Ar6 S6 G6 W6
  show own_Go p e below s _ _ _ (T6.setTop (mkF m 29 #[.val (.int p0), .val (.int p1), .val (.int p2), .unset, .unset] [(.ref b1)]))
  refine own_go (fun t_ kt_ => XS.dup X6g.here hx rfl (hb hby at_29) rfl rfl kt_) ?_
  show own_Go p e below s _ _ _ (T6.setTop (mkF m 30 #[.val (.int p0), .val (.int p1), .val (.int p2), .unset, .unset] [(.ref b1), (.ref b1)]))
  refine own_go (fun t_ kt_ => XS.iconst X6g.here hx rfl (hb hby at_30) kt_) ?_
  show own_Go p e below s _ _ _ (T6.setTop (mkF m 31 #[.val (.int p0), .val (.int p1), .val (.int p2), .unset, .unset] [(.int (5 : Int32)), (.ref b1), (.ref b1)]))
  refine own_go (fun t_ kt_ => XS.bipush X6g.here hx rfl (hb hby at_31) kt_) ?_
  show own_Go p e below s _ _ _ (T6.setTop (mkF m 33 #[.val (.int p0), .val (.int p1), .val (.int p2), .unset, .unset] [(.int (95 : Int32)), (.int (5 : Int32)), (.ref b1), (.ref b1)]))
  obtain ⟨c7, Ar7, S7, G7⟩ := id V_b1_6
  obtain ⟨T7, h7, X7, e7, W7, st7⟩ := stI X6g hx hZ e6 Ar7 (j := (5 : Int32)) (own_in (i := 5) S7 (by decide) (by decide)) (g := (mkF m 33 #[.val (.int p0), .val (.int p1), .val (.int p2), .unset, .unset] [(.int (95 : Int32)), (.int (5 : Int32)), (.ref b1), (.ref b1)])) rfl rfl (hb hby at_33)
  rw [own_cl (j := (5 : Int32)) (i := 5) (by decide)] at W7 X7
  refine own_go (fun t_ kt_ => st7 _ kt_) ?_
  have N7 := Fr.snoc X7 N6g gt_b1
  obtain ⟨lo7, X7g, N7g⟩ : ∃ lo, Stand p l e room_1 s m #[(.int p0), (.int p1), (.int p2)] below meth c T7 lo 1 37 ∧ Fr n0 lo := ⟨_, X7, N7⟩
  have ZZ_7 : n0 ≤ h7.size := Nat.le_trans ZZ_6 (Nat.le_of_eq W7.size.symm)
  have V_b1_7 : own_Ary Z h7 b1 .int 37 (own_set (own_set (own_set (own_set (own_set (own_set (fun _ => (.int (0 : Int32))) 0 (.int (45 : Int32))) 1 (.int (48 : Int32))) 2 (.int (57 : Int32))) 3 (.int (65 : Int32))) 4 (.int (90 : Int32))) 5 (.int (95 : Int32))) := own_Ary.set Ar7 S7 G7 W7
  show own_Go p e below s _ _ _ (T7.setTop (mkF m 34 #[.val (.int p0), .val (.int p1), .val (.int p2), .unset, .unset] [(.ref b1)]))
  refine own_go (fun t_ kt_ => XS.dup X7g.here hx rfl (hb hby at_34) rfl rfl kt_) ?_
  show own_Go p e below s _ _ _ (T7.setTop (mkF m 35 #[.val (.int p0), .val (.int p1), .val (.int p2), .unset, .unset] [(.ref b1), (.ref b1)]))
  refine own_go (fun t_ kt_ => XS.bipush X7g.here hx rfl (hb hby at_35) kt_) ?_
  show own_Go p e below s _ _ _ (T7.setTop (mkF m 37 #[.val (.int p0), .val (.int p1), .val (.int p2), .unset, .unset] [(.int (6 : Int32)), (.ref b1), (.ref b1)]))
  refine own_go (fun t_ kt_ => XS.bipush X7g.here hx rfl (hb hby at_37) kt_) ?_
  show own_Go p e below s _ _ _ (T7.setTop (mkF m 39 #[.val (.int p0), .val (.int p1), .val (.int p2), .unset, .unset] [(.int (97 : Int32)), (.int (6 : Int32)), (.ref b1), (.ref b1)]))
  obtain ⟨c8, Ar8, S8, G8⟩ := id V_b1_7
  obtain ⟨T8, h8, X8, e8, W8, st8⟩ := stI X7g hx hZ e7 Ar8 (j := (6 : Int32)) (own_in (i := 6) S8 (by decide) (by decide)) (g := (mkF m 39 #[.val (.int p0), .val (.int p1), .val (.int p2), .unset, .unset] [(.int (97 : Int32)), (.int (6 : Int32)), (.ref b1), (.ref b1)])) rfl rfl (hb hby at_39)
  rw [own_cl (j := (6 : Int32)) (i := 6) (by decide)] at W8 X8
  refine own_go (fun t_ kt_ => st8 _ kt_) ?_
  have N8 := Fr.snoc X8 N7g gt_b1
  obtain ⟨lo8, X8g, N8g⟩ : ∃ lo, Stand p l e room_1 s m #[(.int p0), (.int p1), (.int p2)] below meth c T8 lo 1 37 ∧ Fr n0 lo := ⟨_, X8, N8⟩
  have ZZ_8 : n0 ≤ h8.size := Nat.le_trans ZZ_7 (Nat.le_of_eq W8.size.symm)
  have V_b1_8 : own_Ary Z h8 b1 .int 37 (own_set (own_set (own_set (own_set (own_set (own_set (own_set (fun _ => (.int (0 : Int32))) 0 (.int (45 : Int32))) 1 (.int (48 : Int32))) 2 (.int (57 : Int32))) 3 (.int (65 : Int32))) 4 (.int (90 : Int32))) 5 (.int (95 : Int32))) 6 (.int (97 : Int32))) := own_Ary.set Ar8 S8 G8 W8
  show own_Go p e below s _ _ _ (T8.setTop (mkF m 40 #[.val (.int p0), .val (.int p1), .val (.int p2), .unset, .unset] [(.ref b1)]))
  refine own_go (fun t_ kt_ => XS.dup X8g.here hx rfl (hb hby at_40) rfl rfl kt_) ?_
  show own_Go p e below s _ _ _ (T8.setTop (mkF m 41 #[.val (.int p0), .val (.int p1), .val (.int p2), .unset, .unset] [(.ref b1), (.ref b1)]))
  refine own_go (fun t_ kt_ => XS.bipush X8g.here hx rfl (hb hby at_41) kt_) ?_
  show own_Go p e below s _ _ _ (T8.setTop (mkF m 43 #[.val (.int p0), .val (.int p1), .val (.int p2), .unset, .unset] [(.int (7 : Int32)), (.ref b1), (.ref b1)]))
  refine own_go (fun t_ kt_ => XS.bipush X8g.here hx rfl (hb hby at_43) kt_) ?_
  show own_Go p e below s _ _ _ (T8.setTop (mkF m 45 #[.val (.int p0), .val (.int p1), .val (.int p2), .unset, .unset] [(.int (122 : Int32)), (.int (7 : Int32)), (.ref b1), (.ref b1)]))
  obtain ⟨c9, Ar9, S9, G9⟩ := id V_b1_8
  obtain ⟨T9, h9, X9, e9, W9, st9⟩ := stI X8g hx hZ e8 Ar9 (j := (7 : Int32)) (own_in (i := 7) S9 (by decide) (by decide)) (g := (mkF m 45 #[.val (.int p0), .val (.int p1), .val (.int p2), .unset, .unset] [(.int (122 : Int32)), (.int (7 : Int32)), (.ref b1), (.ref b1)])) rfl rfl (hb hby at_45)
  rw [own_cl (j := (7 : Int32)) (i := 7) (by decide)] at W9 X9
  refine own_go (fun t_ kt_ => st9 _ kt_) ?_
  have N9 := Fr.snoc X9 N8g gt_b1
  obtain ⟨lo9, X9g, N9g⟩ : ∃ lo, Stand p l e room_1 s m #[(.int p0), (.int p1), (.int p2)] below meth c T9 lo 1 37 ∧ Fr n0 lo := ⟨_, X9, N9⟩
  have ZZ_9 : n0 ≤ h9.size := Nat.le_trans ZZ_8 (Nat.le_of_eq W9.size.symm)
  have V_b1_9 : own_Ary Z h9 b1 .int 37 (own_set (own_set (own_set (own_set (own_set (own_set (own_set (own_set (fun _ => (.int (0 : Int32))) 0 (.int (45 : Int32))) 1 (.int (48 : Int32))) 2 (.int (57 : Int32))) 3 (.int (65 : Int32))) 4 (.int (90 : Int32))) 5 (.int (95 : Int32))) 6 (.int (97 : Int32))) 7 (.int (122 : Int32))) := own_Ary.set Ar9 S9 G9 W9
  show own_Go p e below s _ _ _ (T9.setTop (mkF m 46 #[.val (.int p0), .val (.int p1), .val (.int p2), .unset, .unset] [(.ref b1)]))
  refine own_go (fun t_ kt_ => XS.dup X9g.here hx rfl (hb hby at_46) rfl rfl kt_) ?_
  show own_Go p e below s _ _ _ (T9.setTop (mkF m 47 #[.val (.int p0), .val (.int p1), .val (.int p2), .unset, .unset] [(.ref b1), (.ref b1)]))
  refine own_go (fun t_ kt_ => XS.bipush X9g.here hx rfl (hb hby at_47) kt_) ?_
  show own_Go p e below s _ _ _ (T9.setTop (mkF m 49 #[.val (.int p0), .val (.int p1), .val (.int p2), .unset, .unset] [(.int (8 : Int32)), (.ref b1), (.ref b1)]))
  refine own_go (fun t_ kt_ => XS.sipush X9g.here hx rfl (hb hby at_49) kt_) ?_
  show own_Go p e below s _ _ _ (T9.setTop (mkF m 52 #[.val (.int p0), .val (.int p1), .val (.int p2), .unset, .unset] [(.int (183 : Int32)), (.int (8 : Int32)), (.ref b1), (.ref b1)]))
  obtain ⟨c10, Ar10, S10, G10⟩ := id V_b1_9
  obtain ⟨T10, h10, X10, e10, W10, st10⟩ := stI X9g hx hZ e9 Ar10 (j := (8 : Int32)) (own_in (i := 8) S10 (by decide) (by decide)) (g := (mkF m 52 #[.val (.int p0), .val (.int p1), .val (.int p2), .unset, .unset] [(.int (183 : Int32)), (.int (8 : Int32)), (.ref b1), (.ref b1)])) rfl rfl (hb hby at_52)
  rw [own_cl (j := (8 : Int32)) (i := 8) (by decide)] at W10 X10
  refine own_go (fun t_ kt_ => st10 _ kt_) ?_
  have N10 := Fr.snoc X10 N9g gt_b1
  obtain ⟨lo10, X10g, N10g⟩ : ∃ lo, Stand p l e room_1 s m #[(.int p0), (.int p1), (.int p2)] below meth c T10 lo 1 37 ∧ Fr n0 lo := ⟨_, X10, N10⟩
  have ZZ_10 : n0 ≤ h10.size := Nat.le_trans ZZ_9 (Nat.le_of_eq W10.size.symm)
  have V_b1_10 : own_Ary Z h10 b1 .int 37 (own_set (own_set (own_set (own_set (own_set (own_set (own_set (own_set (own_set (fun _ => (.int (0 : Int32))) 0 (.int (45 : Int32))) 1 (.int (48 : Int32))) 2 (.int (57 : Int32))) 3 (.int (65 : Int32))) 4 (.int (90 : Int32))) 5 (.int (95 : Int32))) 6 (.int (97 : Int32))) 7 (.int (122 : Int32))) 8 (.int (183 : Int32))) := own_Ary.set Ar10 S10 G10 W10
  show own_Go p e below s _ _ _ (T10.setTop (mkF m 53 #[.val (.int p0), .val (.int p1), .val (.int p2), .unset, .unset] [(.ref b1)]))
  refine own_go (fun t_ kt_ => XS.dup X10g.here hx rfl (hb hby at_53) rfl rfl kt_) ?_
  show own_Go p e below s _ _ _ (T10.setTop (mkF m 54 #[.val (.int p0), .val (.int p1), .val (.int p2), .unset, .unset] [(.ref b1), (.ref b1)]))
  refine own_go (fun t_ kt_ => XS.bipush X10g.here hx rfl (hb hby at_54) kt_) ?_
  show own_Go p e below s _ _ _ (T10.setTop (mkF m 56 #[.val (.int p0), .val (.int p1), .val (.int p2), .unset, .unset] [(.int (9 : Int32)), (.ref b1), (.ref b1)]))
  refine own_go (fun t_ kt_ => XS.sipush X10g.here hx rfl (hb hby at_56) kt_) ?_
  show own_Go p e below s _ _ _ (T10.setTop (mkF m 59 #[.val (.int p0), .val (.int p1), .val (.int p2), .unset, .unset] [(.int (192 : Int32)), (.int (9 : Int32)), (.ref b1), (.ref b1)]))
  obtain ⟨c11, Ar11, S11, G11⟩ := id V_b1_10
  obtain ⟨T11, h11, X11, e11, W11, st11⟩ := stI X10g hx hZ e10 Ar11 (j := (9 : Int32)) (own_in (i := 9) S11 (by decide) (by decide)) (g := (mkF m 59 #[.val (.int p0), .val (.int p1), .val (.int p2), .unset, .unset] [(.int (192 : Int32)), (.int (9 : Int32)), (.ref b1), (.ref b1)])) rfl rfl (hb hby at_59)
  rw [own_cl (j := (9 : Int32)) (i := 9) (by decide)] at W11 X11
  refine own_go (fun t_ kt_ => st11 _ kt_) ?_
  have N11 := Fr.snoc X11 N10g gt_b1
  obtain ⟨lo11, X11g, N11g⟩ : ∃ lo, Stand p l e room_1 s m #[(.int p0), (.int p1), (.int p2)] below meth c T11 lo 1 37 ∧ Fr n0 lo := ⟨_, X11, N11⟩
  have ZZ_11 : n0 ≤ h11.size := Nat.le_trans ZZ_10 (Nat.le_of_eq W11.size.symm)
  have V_b1_11 : own_Ary Z h11 b1 .int 37 (own_set (own_set (own_set (own_set (own_set (own_set (own_set (own_set (own_set (own_set (fun _ => (.int (0 : Int32))) 0 (.int (45 : Int32))) 1 (.int (48 : Int32))) 2 (.int (57 : Int32))) 3 (.int (65 : Int32))) 4 (.int (90 : Int32))) 5 (.int (95 : Int32))) 6 (.int (97 : Int32))) 7 (.int (122 : Int32))) 8 (.int (183 : Int32))) 9 (.int (192 : Int32))) := own_Ary.set Ar11 S11 G11 W11
  show own_Go p e below s _ _ _ (T11.setTop (mkF m 60 #[.val (.int p0), .val (.int p1), .val (.int p2), .unset, .unset] [(.ref b1)]))
  refine own_go (fun t_ kt_ => XS.dup X11g.here hx rfl (hb hby at_60) rfl rfl kt_) ?_
  show own_Go p e below s _ _ _ (T11.setTop (mkF m 61 #[.val (.int p0), .val (.int p1), .val (.int p2), .unset, .unset] [(.ref b1), (.ref b1)]))
  refine own_go (fun t_ kt_ => XS.bipush X11g.here hx rfl (hb hby at_61) kt_) ?_
  show own_Go p e below s _ _ _ (T11.setTop (mkF m 63 #[.val (.int p0), .val (.int p1), .val (.int p2), .unset, .unset] [(.int (10 : Int32)), (.ref b1), (.ref b1)]))
  refine own_go (fun t_ kt_ => XS.sipush X11g.here hx rfl (hb hby at_63) kt_) ?_
  show own_Go p e below s _ _ _ (T11.setTop (mkF m 66 #[.val (.int p0), .val (.int p1), .val (.int p2), .unset, .unset] [(.int (214 : Int32)), (.int (10 : Int32)), (.ref b1), (.ref b1)]))
  obtain ⟨c12, Ar12, S12, G12⟩ := id V_b1_11
  obtain ⟨T12, h12, X12, e12, W12, st12⟩ := stI X11g hx hZ e11 Ar12 (j := (10 : Int32)) (own_in (i := 10) S12 (by decide) (by decide)) (g := (mkF m 66 #[.val (.int p0), .val (.int p1), .val (.int p2), .unset, .unset] [(.int (214 : Int32)), (.int (10 : Int32)), (.ref b1), (.ref b1)])) rfl rfl (hb hby at_66)
  rw [own_cl (j := (10 : Int32)) (i := 10) (by decide)] at W12 X12
  refine own_go (fun t_ kt_ => st12 _ kt_) ?_
  have N12 := Fr.snoc X12 N11g gt_b1
  obtain ⟨lo12, X12g, N12g⟩ : ∃ lo, Stand p l e room_1 s m #[(.int p0), (.int p1), (.int p2)] below meth c T12 lo 1 37 ∧ Fr n0 lo := ⟨_, X12, N12⟩
  have ZZ_12 : n0 ≤ h12.size := Nat.le_trans ZZ_11 (Nat.le_of_eq W12.size.symm)
  have V_b1_12 : own_Ary Z h12 b1 .int 37 (own_set (own_set (own_set (own_set (own_set (own_set (own_set (own_set (own_set (own_set (own_set (fun _ => (.int (0 : Int32))) 0 (.int (45 : Int32))) 1 (.int (48 : Int32))) 2 (.int (57 : Int32))) 3 (.int (65 : Int32))) 4 (.int (90 : Int32))) 5 (.int (95 : Int32))) 6 (.int (97 : Int32))) 7 (.int (122 : Int32))) 8 (.int (183 : Int32))) 9 (.int (192 : Int32))) 10 (.int (214 : Int32))) := own_Ary.set Ar12 S12 G12 W12
  show own_Go p e below s _ _ _ (T12.setTop (mkF m 67 #[.val (.int p0), .val (.int p1), .val (.int p2), .unset, .unset] [(.ref b1)]))
  refine own_go (fun t_ kt_ => XS.dup X12g.here hx rfl (hb hby at_67) rfl rfl kt_) ?_
  show own_Go p e below s _ _ _ (T12.setTop (mkF m 68 #[.val (.int p0), .val (.int p1), .val (.int p2), .unset, .unset] [(.ref b1), (.ref b1)]))
  refine own_go (fun t_ kt_ => XS.bipush X12g.here hx rfl (hb hby at_68) kt_) ?_
  show own_Go p e below s _ _ _ (T12.setTop (mkF m 70 #[.val (.int p0), .val (.int p1), .val (.int p2), .unset, .unset] [(.int (11 : Int32)), (.ref b1), (.ref b1)]))
  refine own_go (fun t_ kt_ => XS.sipush X12g.here hx rfl (hb hby at_70) kt_) ?_
  show own_Go p e below s _ _ _ (T12.setTop (mkF m 73 #[.val (.int p0), .val (.int p1), .val (.int p2), .unset, .unset] [(.int (216 : Int32)), (.int (11 : Int32)), (.ref b1), (.ref b1)]))
  obtain ⟨c13, Ar13, S13, G13⟩ := id V_b1_12
  obtain ⟨T13, h13, X13, e13, W13, st13⟩ := stI X12g hx hZ e12 Ar13 (j := (11 : Int32)) (own_in (i := 11) S13 (by decide) (by decide)) (g := (mkF m 73 #[.val (.int p0), .val (.int p1), .val (.int p2), .unset, .unset] [(.int (216 : Int32)), (.int (11 : Int32)), (.ref b1), (.ref b1)])) rfl rfl (hb hby at_73)
  rw [own_cl (j := (11 : Int32)) (i := 11) (by decide)] at W13 X13
  refine own_go (fun t_ kt_ => st13 _ kt_) ?_
  have N13 := Fr.snoc X13 N12g gt_b1
  obtain ⟨lo13, X13g, N13g⟩ : ∃ lo, Stand p l e room_1 s m #[(.int p0), (.int p1), (.int p2)] below meth c T13 lo 1 37 ∧ Fr n0 lo := ⟨_, X13, N13⟩
  have ZZ_13 : n0 ≤ h13.size := Nat.le_trans ZZ_12 (Nat.le_of_eq W13.size.symm)
  have V_b1_13 : own_Ary Z h13 b1 .int 37 (own_set (own_set (own_set (own_set (own_set (own_set (own_set (own_set (own_set (own_set (own_set (own_set (fun _ => (.int (0 : Int32))) 0 (.int (45 : Int32))) 1 (.int (48 : Int32))) 2 (.int (57 : Int32))) 3 (.int (65 : Int32))) 4 (.int (90 : Int32))) 5 (.int (95 : Int32))) 6 (.int (97 : Int32))) 7 (.int (122 : Int32))) 8 (.int (183 : Int32))) 9 (.int (192 : Int32))) 10 (.int (214 : Int32))) 11 (.int (216 : Int32))) := own_Ary.set Ar13 S13 G13 W13
  show own_Go p e below s _ _ _ (T13.setTop (mkF m 74 #[.val (.int p0), .val (.int p1), .val (.int p2), .unset, .unset] [(.ref b1)]))
  refine own_go (fun t_ kt_ => XS.dup X13g.here hx rfl (hb hby at_74) rfl rfl kt_) ?_
  show own_Go p e below s _ _ _ (T13.setTop (mkF m 75 #[.val (.int p0), .val (.int p1), .val (.int p2), .unset, .unset] [(.ref b1), (.ref b1)]))
  refine own_go (fun t_ kt_ => XS.bipush X13g.here hx rfl (hb hby at_75) kt_) ?_
  show own_Go p e below s _ _ _ (T13.setTop (mkF m 77 #[.val (.int p0), .val (.int p1), .val (.int p2), .unset, .unset] [(.int (12 : Int32)), (.ref b1), (.ref b1)]))
  refine own_go (fun t_ kt_ => XS.sipush X13g.here hx rfl (hb hby at_77) kt_) ?_
  show own_Go p e below s _ _ _ (T13.setTop (mkF m 80 #[.val (.int p0), .val (.int p1), .val (.int p2), .unset, .unset] [(.int (246 : Int32)), (.int (12 : Int32)), (.ref b1), (.ref b1)]))
  obtain ⟨c14, Ar14, S14, G14⟩ := id V_b1_13
  obtain ⟨T14, h14, X14, e14, W14, st14⟩ := stI X13g hx hZ e13 Ar14 (j := (12 : Int32)) (own_in (i := 12) S14 (by decide) (by decide)) (g := (mkF m 80 #[.val (.int p0), .val (.int p1), .val (.int p2), .unset, .unset] [(.int (246 : Int32)), (.int (12 : Int32)), (.ref b1), (.ref b1)])) rfl rfl (hb hby at_80)
  rw [own_cl (j := (12 : Int32)) (i := 12) (by decide)] at W14 X14
  refine own_go (fun t_ kt_ => st14 _ kt_) ?_
  have N14 := Fr.snoc X14 N13g gt_b1
  obtain ⟨lo14, X14g, N14g⟩ : ∃ lo, Stand p l e room_1 s m #[(.int p0), (.int p1), (.int p2)] below meth c T14 lo 1 37 ∧ Fr n0 lo := ⟨_, X14, N14⟩
  have ZZ_14 : n0 ≤ h14.size := Nat.le_trans ZZ_13 (Nat.le_of_eq W14.size.symm)
  have V_b1_14 : own_Ary Z h14 b1 .int 37 (own_set (own_set (own_set (own_set (own_set (own_set (own_set (own_set (own_set (own_set (own_set (own_set (own_set (fun _ => (.int (0 : Int32))) 0 (.int (45 : Int32))) 1 (.int (48 : Int32))) 2 (.int (57 : Int32))) 3 (.int (65 : Int32))) 4 (.int (90 : Int32))) 5 (.int (95 : Int32))) 6 (.int (97 : Int32))) 7 (.int (122 : Int32))) 8 (.int (183 : Int32))) 9 (.int (192 : Int32))) 10 (.int (214 : Int32))) 11 (.int (216 : Int32))) 12 (.int (246 : Int32))) := own_Ary.set Ar14 S14 G14 W14
  show own_Go p e below s _ _ _ (T14.setTop (mkF m 81 #[.val (.int p0), .val (.int p1), .val (.int p2), .unset, .unset] [(.ref b1)]))
  refine own_go (fun t_ kt_ => XS.dup X14g.here hx rfl (hb hby at_81) rfl rfl kt_) ?_
  show own_Go p e below s _ _ _ (T14.setTop (mkF m 82 #[.val (.int p0), .val (.int p1), .val (.int p2), .unset, .unset] [(.ref b1), (.ref b1)]))
  refine own_go (fun t_ kt_ => XS.bipush X14g.here hx rfl (hb hby at_82) kt_) ?_
  show own_Go p e below s _ _ _ (T14.setTop (mkF m 84 #[.val (.int p0), .val (.int p1), .val (.int p2), .unset, .unset] [(.int (13 : Int32)), (.ref b1), (.ref b1)]))
  refine own_go (fun t_ kt_ => XS.sipush X14g.here hx rfl (hb hby at_84) kt_) ?_
  show own_Go p e below s _ _ _ (T14.setTop (mkF m 87 #[.val (.int p0), .val (.int p1), .val (.int p2), .unset, .unset] [(.int (248 : Int32)), (.int (13 : Int32)), (.ref b1), (.ref b1)]))
  obtain ⟨c15, Ar15, S15, G15⟩ := id V_b1_14
  obtain ⟨T15, h15, X15, e15, W15, st15⟩ := stI X14g hx hZ e14 Ar15 (j := (13 : Int32)) (own_in (i := 13) S15 (by decide) (by decide)) (g := (mkF m 87 #[.val (.int p0), .val (.int p1), .val (.int p2), .unset, .unset] [(.int (248 : Int32)), (.int (13 : Int32)), (.ref b1), (.ref b1)])) rfl rfl (hb hby at_87)
  rw [own_cl (j := (13 : Int32)) (i := 13) (by decide)] at W15 X15
  refine own_go (fun t_ kt_ => st15 _ kt_) ?_
  have N15 := Fr.snoc X15 N14g gt_b1
  obtain ⟨lo15, X15g, N15g⟩ : ∃ lo, Stand p l e room_1 s m #[(.int p0), (.int p1), (.int p2)] below meth c T15 lo 1 37 ∧ Fr n0 lo := ⟨_, X15, N15⟩
  have ZZ_15 : n0 ≤ h15.size := Nat.le_trans ZZ_14 (Nat.le_of_eq W15.size.symm)
  have V_b1_15 : own_Ary Z h15 b1 .int 37 (own_set (own_set (own_set (own_set (own_set (own_set (own_set (own_set (own_set (own_set (own_set (own_set (own_set (own_set (fun _ => (.int (0 : Int32))) 0 (.int (45 : Int32))) 1 (.int (48 : Int32))) 2 (.int (57 : Int32))) 3 (.int (65 : Int32))) 4 (.int (90 : Int32))) 5 (.int (95 : Int32))) 6 (.int (97 : Int32))) 7 (.int (122 : Int32))) 8 (.int (183 : Int32))) 9 (.int (192 : Int32))) 10 (.int (214 : Int32))) 11 (.int (216 : Int32))) 12 (.int (246 : Int32))) 13 (.int (248 : Int32))) := own_Ary.set Ar15 S15 G15 W15
  show own_Go p e below s _ _ _ (T15.setTop (mkF m 88 #[.val (.int p0), .val (.int p1), .val (.int p2), .unset, .unset] [(.ref b1)]))
  refine own_go (fun t_ kt_ => XS.dup X15g.here hx rfl (hb hby at_88) rfl rfl kt_) ?_
  show own_Go p e below s _ _ _ (T15.setTop (mkF m 89 #[.val (.int p0), .val (.int p1), .val (.int p2), .unset, .unset] [(.ref b1), (.ref b1)]))
  refine own_go (fun t_ kt_ => XS.bipush X15g.here hx rfl (hb hby at_89) kt_) ?_
  show own_Go p e below s _ _ _ (T15.setTop (mkF m 91 #[.val (.int p0), .val (.int p1), .val (.int p2), .unset, .unset] [(.int (14 : Int32)), (.ref b1), (.ref b1)]))
  refine own_go (fun t_ kt_ => XS.sipush X15g.here hx rfl (hb hby at_91) kt_) ?_
  show own_Go p e below s _ _ _ (T15.setTop (mkF m 94 #[.val (.int p0), .val (.int p1), .val (.int p2), .unset, .unset] [(.int (767 : Int32)), (.int (14 : Int32)), (.ref b1), (.ref b1)]))
  obtain ⟨c16, Ar16, S16, G16⟩ := id V_b1_15
  obtain ⟨T16, h16, X16, e16, W16, st16⟩ := stI X15g hx hZ e15 Ar16 (j := (14 : Int32)) (own_in (i := 14) S16 (by decide) (by decide)) (g := (mkF m 94 #[.val (.int p0), .val (.int p1), .val (.int p2), .unset, .unset] [(.int (767 : Int32)), (.int (14 : Int32)), (.ref b1), (.ref b1)])) rfl rfl (hb hby at_94)
  rw [own_cl (j := (14 : Int32)) (i := 14) (by decide)] at W16 X16
  refine own_go (fun t_ kt_ => st16 _ kt_) ?_
  have N16 := Fr.snoc X16 N15g gt_b1
  obtain ⟨lo16, X16g, N16g⟩ : ∃ lo, Stand p l e room_1 s m #[(.int p0), (.int p1), (.int p2)] below meth c T16 lo 1 37 ∧ Fr n0 lo := ⟨_, X16, N16⟩
  have ZZ_16 : n0 ≤ h16.size := Nat.le_trans ZZ_15 (Nat.le_of_eq W16.size.symm)
  have V_b1_16 : own_Ary Z h16 b1 .int 37 (own_set (own_set (own_set (own_set (own_set (own_set (own_set (own_set (own_set (own_set (own_set (own_set (own_set (own_set (own_set (fun _ => (.int (0 : Int32))) 0 (.int (45 : Int32))) 1 (.int (48 : Int32))) 2 (.int (57 : Int32))) 3 (.int (65 : Int32))) 4 (.int (90 : Int32))) 5 (.int (95 : Int32))) 6 (.int (97 : Int32))) 7 (.int (122 : Int32))) 8 (.int (183 : Int32))) 9 (.int (192 : Int32))) 10 (.int (214 : Int32))) 11 (.int (216 : Int32))) 12 (.int (246 : Int32))) 13 (.int (248 : Int32))) 14 (.int (767 : Int32))) := own_Ary.set Ar16 S16 G16 W16
  show own_Go p e below s _ _ _ (T16.setTop (mkF m 95 #[.val (.int p0), .val (.int p1), .val (.int p2), .unset, .unset] [(.ref b1)]))
  refine own_go (fun t_ kt_ => XS.dup X16g.here hx rfl (hb hby at_95) rfl rfl kt_) ?_
  show own_Go p e below s _ _ _ (T16.setTop (mkF m 96 #[.val (.int p0), .val (.int p1), .val (.int p2), .unset, .unset] [(.ref b1), (.ref b1)]))
  refine own_go (fun t_ kt_ => XS.bipush X16g.here hx rfl (hb hby at_96) kt_) ?_
  show own_Go p e below s _ _ _ (T16.setTop (mkF m 98 #[.val (.int p0), .val (.int p1), .val (.int p2), .unset, .unset] [(.int (15 : Int32)), (.ref b1), (.ref b1)]))
  refine own_go (fun t_ kt_ => XS.sipush X16g.here hx rfl (hb hby at_98) kt_) ?_
  show own_Go p e below s _ _ _ (T16.setTop (mkF m 101 #[.val (.int p0), .val (.int p1), .val (.int p2), .unset, .unset] [(.int (768 : Int32)), (.int (15 : Int32)), (.ref b1), (.ref b1)]))
  obtain ⟨c17, Ar17, S17, G17⟩ := id V_b1_16
  obtain ⟨T17, h17, X17, e17, W17, st17⟩ := stI X16g hx hZ e16 Ar17 (j := (15 : Int32)) (own_in (i := 15) S17 (by decide) (by decide)) (g := (mkF m 101 #[.val (.int p0), .val (.int p1), .val (.int p2), .unset, .unset] [(.int (768 : Int32)), (.int (15 : Int32)), (.ref b1), (.ref b1)])) rfl rfl (hb hby at_101)
  rw [own_cl (j := (15 : Int32)) (i := 15) (by decide)] at W17 X17
  refine own_go (fun t_ kt_ => st17 _ kt_) ?_
  have N17 := Fr.snoc X17 N16g gt_b1
  obtain ⟨lo17, X17g, N17g⟩ : ∃ lo, Stand p l e room_1 s m #[(.int p0), (.int p1), (.int p2)] below meth c T17 lo 1 37 ∧ Fr n0 lo := ⟨_, X17, N17⟩
  have ZZ_17 : n0 ≤ h17.size := Nat.le_trans ZZ_16 (Nat.le_of_eq W17.size.symm)
  have V_b1_17 : own_Ary Z h17 b1 .int 37 (own_set (own_set (own_set (own_set (own_set (own_set (own_set (own_set (own_set (own_set (own_set (own_set (own_set (own_set (own_set (own_set (fun _ => (.int (0 : Int32))) 0 (.int (45 : Int32))) 1 (.int (48 : Int32))) 2 (.int (57 : Int32))) 3 (.int (65 : Int32))) 4 (.int (90 : Int32))) 5 (.int (95 : Int32))) 6 (.int (97 : Int32))) 7 (.int (122 : Int32))) 8 (.int (183 : Int32))) 9 (.int (192 : Int32))) 10 (.int (214 : Int32))) 11 (.int (216 : Int32))) 12 (.int (246 : Int32))) 13 (.int (248 : Int32))) 14 (.int (767 : Int32))) 15 (.int (768 : Int32))) := own_Ary.set Ar17 S17 G17 W17
  show own_Go p e below s _ _ _ (T17.setTop (mkF m 102 #[.val (.int p0), .val (.int p1), .val (.int p2), .unset, .unset] [(.ref b1)]))
  refine own_go (fun t_ kt_ => XS.dup X17g.here hx rfl (hb hby at_102) rfl rfl kt_) ?_
  show own_Go p e below s _ _ _ (T17.setTop (mkF m 103 #[.val (.int p0), .val (.int p1), .val (.int p2), .unset, .unset] [(.ref b1), (.ref b1)]))
  refine own_go (fun t_ kt_ => XS.bipush X17g.here hx rfl (hb hby at_103) kt_) ?_
  show own_Go p e below s _ _ _ (T17.setTop (mkF m 105 #[.val (.int p0), .val (.int p1), .val (.int p2), .unset, .unset] [(.int (16 : Int32)), (.ref b1), (.ref b1)]))
  refine own_go (fun t_ kt_ => XS.sipush X17g.here hx rfl (hb hby at_105) kt_) ?_
  show own_Go p e below s _ _ _ (T17.setTop (mkF m 108 #[.val (.int p0), .val (.int p1), .val (.int p2), .unset, .unset] [(.int (879 : Int32)), (.int (16 : Int32)), (.ref b1), (.ref b1)]))
  obtain ⟨c18, Ar18, S18, G18⟩ := id V_b1_17
  obtain ⟨T18, h18, X18, e18, W18, st18⟩ := stI X17g hx hZ e17 Ar18 (j := (16 : Int32)) (own_in (i := 16) S18 (by decide) (by decide)) (g := (mkF m 108 #[.val (.int p0), .val (.int p1), .val (.int p2), .unset, .unset] [(.int (879 : Int32)), (.int (16 : Int32)), (.ref b1), (.ref b1)])) rfl rfl (hb hby at_108)
  rw [own_cl (j := (16 : Int32)) (i := 16) (by decide)] at W18 X18
  refine own_go (fun t_ kt_ => st18 _ kt_) ?_
  have N18 := Fr.snoc X18 N17g gt_b1
  obtain ⟨lo18, X18g, N18g⟩ : ∃ lo, Stand p l e room_1 s m #[(.int p0), (.int p1), (.int p2)] below meth c T18 lo 1 37 ∧ Fr n0 lo := ⟨_, X18, N18⟩
  have ZZ_18 : n0 ≤ h18.size := Nat.le_trans ZZ_17 (Nat.le_of_eq W18.size.symm)
  have V_b1_18 : own_Ary Z h18 b1 .int 37 (own_set (own_set (own_set (own_set (own_set (own_set (own_set (own_set (own_set (own_set (own_set (own_set (own_set (own_set (own_set (own_set (own_set (fun _ => (.int (0 : Int32))) 0 (.int (45 : Int32))) 1 (.int (48 : Int32))) 2 (.int (57 : Int32))) 3 (.int (65 : Int32))) 4 (.int (90 : Int32))) 5 (.int (95 : Int32))) 6 (.int (97 : Int32))) 7 (.int (122 : Int32))) 8 (.int (183 : Int32))) 9 (.int (192 : Int32))) 10 (.int (214 : Int32))) 11 (.int (216 : Int32))) 12 (.int (246 : Int32))) 13 (.int (248 : Int32))) 14 (.int (767 : Int32))) 15 (.int (768 : Int32))) 16 (.int (879 : Int32))) := own_Ary.set Ar18 S18 G18 W18
  show own_Go p e below s _ _ _ (T18.setTop (mkF m 109 #[.val (.int p0), .val (.int p1), .val (.int p2), .unset, .unset] [(.ref b1)]))
  refine own_go (fun t_ kt_ => XS.dup X18g.here hx rfl (hb hby at_109) rfl rfl kt_) ?_
  show own_Go p e below s _ _ _ (T18.setTop (mkF m 110 #[.val (.int p0), .val (.int p1), .val (.int p2), .unset, .unset] [(.ref b1), (.ref b1)]))
  refine own_go (fun t_ kt_ => XS.bipush X18g.here hx rfl (hb hby at_110) kt_) ?_
  show own_Go p e below s _ _ _ (T18.setTop (mkF m 112 #[.val (.int p0), .val (.int p1), .val (.int p2), .unset, .unset] [(.int (17 : Int32)), (.ref b1), (.ref b1)]))
  refine own_go (fun t_ kt_ => XS.sipush X18g.here hx rfl (hb hby at_112) kt_) ?_
  show own_Go p e below s _ _ _ (T18.setTop (mkF m 115 #[.val (.int p0), .val (.int p1), .val (.int p2), .unset, .unset] [(.int (880 : Int32)), (.int (17 : Int32)), (.ref b1), (.ref b1)]))
  obtain ⟨c19, Ar19, S19, G19⟩ := id V_b1_18
  obtain ⟨T19, h19, X19, e19, W19, st19⟩ := stI X18g hx hZ e18 Ar19 (j := (17 : Int32)) (own_in (i := 17) S19 (by decide) (by decide)) (g := (mkF m 115 #[.val (.int p0), .val (.int p1), .val (.int p2), .unset, .unset] [(.int (880 : Int32)), (.int (17 : Int32)), (.ref b1), (.ref b1)])) rfl rfl (hb hby at_115)
  rw [own_cl (j := (17 : Int32)) (i := 17) (by decide)] at W19 X19
  refine own_go (fun t_ kt_ => st19 _ kt_) ?_
  have N19 := Fr.snoc X19 N18g gt_b1
  obtain ⟨lo19, X19g, N19g⟩ : ∃ lo, Stand p l e room_1 s m #[(.int p0), (.int p1), (.int p2)] below meth c T19 lo 1 37 ∧ Fr n0 lo := ⟨_, X19, N19⟩
  have ZZ_19 : n0 ≤ h19.size := Nat.le_trans ZZ_18 (Nat.le_of_eq W19.size.symm)
  have V_b1_19 : own_Ary Z h19 b1 .int 37 (own_set (own_set (own_set (own_set (own_set (own_set (own_set (own_set (own_set (own_set (own_set (own_set (own_set (own_set (own_set (own_set (own_set (own_set (fun _ => (.int (0 : Int32))) 0 (.int (45 : Int32))) 1 (.int (48 : Int32))) 2 (.int (57 : Int32))) 3 (.int (65 : Int32))) 4 (.int (90 : Int32))) 5 (.int (95 : Int32))) 6 (.int (97 : Int32))) 7 (.int (122 : Int32))) 8 (.int (183 : Int32))) 9 (.int (192 : Int32))) 10 (.int (214 : Int32))) 11 (.int (216 : Int32))) 12 (.int (246 : Int32))) 13 (.int (248 : Int32))) 14 (.int (767 : Int32))) 15 (.int (768 : Int32))) 16 (.int (879 : Int32))) 17 (.int (880 : Int32))) := own_Ary.set Ar19 S19 G19 W19
  show own_Go p e below s _ _ _ (T19.setTop (mkF m 116 #[.val (.int p0), .val (.int p1), .val (.int p2), .unset, .unset] [(.ref b1)]))
  refine own_go (fun t_ kt_ => XS.dup X19g.here hx rfl (hb hby at_116) rfl rfl kt_) ?_
  show own_Go p e below s _ _ _ (T19.setTop (mkF m 117 #[.val (.int p0), .val (.int p1), .val (.int p2), .unset, .unset] [(.ref b1), (.ref b1)]))
  refine own_go (fun t_ kt_ => XS.bipush X19g.here hx rfl (hb hby at_117) kt_) ?_
  show own_Go p e below s _ _ _ (T19.setTop (mkF m 119 #[.val (.int p0), .val (.int p1), .val (.int p2), .unset, .unset] [(.int (18 : Int32)), (.ref b1), (.ref b1)]))
  refine own_go (fun t_ kt_ => XS.sipush X19g.here hx rfl (hb hby at_119) kt_) ?_
  show own_Go p e below s _ _ _ (T19.setTop (mkF m 122 #[.val (.int p0), .val (.int p1), .val (.int p2), .unset, .unset] [(.int (893 : Int32)), (.int (18 : Int32)), (.ref b1), (.ref b1)]))
  obtain ⟨c20, Ar20, S20, G20⟩ := id V_b1_19
  obtain ⟨T20, h20, X20, e20, W20, st20⟩ := stI X19g hx hZ e19 Ar20 (j := (18 : Int32)) (own_in (i := 18) S20 (by decide) (by decide)) (g := (mkF m 122 #[.val (.int p0), .val (.int p1), .val (.int p2), .unset, .unset] [(.int (893 : Int32)), (.int (18 : Int32)), (.ref b1), (.ref b1)])) rfl rfl (hb hby at_122)
  rw [own_cl (j := (18 : Int32)) (i := 18) (by decide)] at W20 X20
  refine own_go (fun t_ kt_ => st20 _ kt_) ?_
  have N20 := Fr.snoc X20 N19g gt_b1
  obtain ⟨lo20, X20g, N20g⟩ : ∃ lo, Stand p l e room_1 s m #[(.int p0), (.int p1), (.int p2)] below meth c T20 lo 1 37 ∧ Fr n0 lo := ⟨_, X20, N20⟩
  have ZZ_20 : n0 ≤ h20.size := Nat.le_trans ZZ_19 (Nat.le_of_eq W20.size.symm)
  have V_b1_20 : own_Ary Z h20 b1 .int 37 (own_set (own_set (own_set (own_set (own_set (own_set (own_set (own_set (own_set (own_set (own_set (own_set (own_set (own_set (own_set (own_set (own_set (own_set (own_set (fun _ => (.int (0 : Int32))) 0 (.int (45 : Int32))) 1 (.int (48 : Int32))) 2 (.int (57 : Int32))) 3 (.int (65 : Int32))) 4 (.int (90 : Int32))) 5 (.int (95 : Int32))) 6 (.int (97 : Int32))) 7 (.int (122 : Int32))) 8 (.int (183 : Int32))) 9 (.int (192 : Int32))) 10 (.int (214 : Int32))) 11 (.int (216 : Int32))) 12 (.int (246 : Int32))) 13 (.int (248 : Int32))) 14 (.int (767 : Int32))) 15 (.int (768 : Int32))) 16 (.int (879 : Int32))) 17 (.int (880 : Int32))) 18 (.int (893 : Int32))) := own_Ary.set Ar20 S20 G20 W20
  show own_Go p e below s _ _ _ (T20.setTop (mkF m 123 #[.val (.int p0), .val (.int p1), .val (.int p2), .unset, .unset] [(.ref b1)]))
  refine own_go (fun t_ kt_ => XS.dup X20g.here hx rfl (hb hby at_123) rfl rfl kt_) ?_
  show own_Go p e below s _ _ _ (T20.setTop (mkF m 124 #[.val (.int p0), .val (.int p1), .val (.int p2), .unset, .unset] [(.ref b1), (.ref b1)]))
  refine own_go (fun t_ kt_ => XS.bipush X20g.here hx rfl (hb hby at_124) kt_) ?_
  show own_Go p e below s _ _ _ (T20.setTop (mkF m 126 #[.val (.int p0), .val (.int p1), .val (.int p2), .unset, .unset] [(.int (19 : Int32)), (.ref b1), (.ref b1)]))
  refine own_go (fun t_ kt_ => XS.sipush X20g.here hx rfl (hb hby at_126) kt_) ?_
  show own_Go p e below s _ _ _ (T20.setTop (mkF m 129 #[.val (.int p0), .val (.int p1), .val (.int p2), .unset, .unset] [(.int (895 : Int32)), (.int (19 : Int32)), (.ref b1), (.ref b1)]))
  obtain ⟨c21, Ar21, S21, G21⟩ := id V_b1_20
  obtain ⟨T21, h21, X21, e21, W21, st21⟩ := stI X20g hx hZ e20 Ar21 (j := (19 : Int32)) (own_in (i := 19) S21 (by decide) (by decide)) (g := (mkF m 129 #[.val (.int p0), .val (.int p1), .val (.int p2), .unset, .unset] [(.int (895 : Int32)), (.int (19 : Int32)), (.ref b1), (.ref b1)])) rfl rfl (hb hby at_129)
  rw [own_cl (j := (19 : Int32)) (i := 19) (by decide)] at W21 X21
  refine own_go (fun t_ kt_ => st21 _ kt_) ?_
  have N21 := Fr.snoc X21 N20g gt_b1
  obtain ⟨lo21, X21g, N21g⟩ : ∃ lo, Stand p l e room_1 s m #[(.int p0), (.int p1), (.int p2)] below meth c T21 lo 1 37 ∧ Fr n0 lo := ⟨_, X21, N21⟩
  have ZZ_21 : n0 ≤ h21.size := Nat.le_trans ZZ_20 (Nat.le_of_eq W21.size.symm)
  have V_b1_21 : own_Ary Z h21 b1 .int 37 (own_set (own_set (own_set (own_set (own_set (own_set (own_set (own_set (own_set (own_set (own_set (own_set (own_set (own_set (own_set (own_set (own_set (own_set (own_set (own_set (fun _ => (.int (0 : Int32))) 0 (.int (45 : Int32))) 1 (.int (48 : Int32))) 2 (.int (57 : Int32))) 3 (.int (65 : Int32))) 4 (.int (90 : Int32))) 5 (.int (95 : Int32))) 6 (.int (97 : Int32))) 7 (.int (122 : Int32))) 8 (.int (183 : Int32))) 9 (.int (192 : Int32))) 10 (.int (214 : Int32))) 11 (.int (216 : Int32))) 12 (.int (246 : Int32))) 13 (.int (248 : Int32))) 14 (.int (767 : Int32))) 15 (.int (768 : Int32))) 16 (.int (879 : Int32))) 17 (.int (880 : Int32))) 18 (.int (893 : Int32))) 19 (.int (895 : Int32))) := own_Ary.set Ar21 S21 G21 W21
  show own_Go p e below s _ _ _ (T21.setTop (mkF m 130 #[.val (.int p0), .val (.int p1), .val (.int p2), .unset, .unset] [(.ref b1)]))
  refine own_go (fun t_ kt_ => XS.dup X21g.here hx rfl (hb hby at_130) rfl rfl kt_) ?_
  show own_Go p e below s _ _ _ (T21.setTop (mkF m 131 #[.val (.int p0), .val (.int p1), .val (.int p2), .unset, .unset] [(.ref b1), (.ref b1)]))
  refine own_go (fun t_ kt_ => XS.bipush X21g.here hx rfl (hb hby at_131) kt_) ?_
  show own_Go p e below s _ _ _ (T21.setTop (mkF m 133 #[.val (.int p0), .val (.int p1), .val (.int p2), .unset, .unset] [(.int (20 : Int32)), (.ref b1), (.ref b1)]))
  refine own_go (fun t_ kt_ => XS.sipush X21g.here hx rfl (hb hby at_133) kt_) ?_
  show own_Go p e below s _ _ _ (T21.setTop (mkF m 136 #[.val (.int p0), .val (.int p1), .val (.int p2), .unset, .unset] [(.int (8191 : Int32)), (.int (20 : Int32)), (.ref b1), (.ref b1)]))
  obtain ⟨c22, Ar22, S22, G22⟩ := id V_b1_21
  obtain ⟨T22, h22, X22, e22, W22, st22⟩ := stI X21g hx hZ e21 Ar22 (j := (20 : Int32)) (own_in (i := 20) S22 (by decide) (by decide)) (g := (mkF m 136 #[.val (.int p0), .val (.int p1), .val (.int p2), .unset, .unset] [(.int (8191 : Int32)), (.int (20 : Int32)), (.ref b1), (.ref b1)])) rfl rfl (hb hby at_136)
  rw [own_cl (j := (20 : Int32)) (i := 20) (by decide)] at W22 X22
  refine own_go (fun t_ kt_ => st22 _ kt_) ?_
  have N22 := Fr.snoc X22 N21g gt_b1
  obtain ⟨lo22, X22g, N22g⟩ : ∃ lo, Stand p l e room_1 s m #[(.int p0), (.int p1), (.int p2)] below meth c T22 lo 1 37 ∧ Fr n0 lo := ⟨_, X22, N22⟩
  have ZZ_22 : n0 ≤ h22.size := Nat.le_trans ZZ_21 (Nat.le_of_eq W22.size.symm)
  have V_b1_22 : own_Ary Z h22 b1 .int 37 (own_set (own_set (own_set (own_set (own_set (own_set (own_set (own_set (own_set (own_set (own_set (own_set (own_set (own_set (own_set (own_set (own_set (own_set (own_set (own_set (own_set (fun _ => (.int (0 : Int32))) 0 (.int (45 : Int32))) 1 (.int (48 : Int32))) 2 (.int (57 : Int32))) 3 (.int (65 : Int32))) 4 (.int (90 : Int32))) 5 (.int (95 : Int32))) 6 (.int (97 : Int32))) 7 (.int (122 : Int32))) 8 (.int (183 : Int32))) 9 (.int (192 : Int32))) 10 (.int (214 : Int32))) 11 (.int (216 : Int32))) 12 (.int (246 : Int32))) 13 (.int (248 : Int32))) 14 (.int (767 : Int32))) 15 (.int (768 : Int32))) 16 (.int (879 : Int32))) 17 (.int (880 : Int32))) 18 (.int (893 : Int32))) 19 (.int (895 : Int32))) 20 (.int (8191 : Int32))) := own_Ary.set Ar22 S22 G22 W22
  show own_Go p e below s _ _ _ (T22.setTop (mkF m 137 #[.val (.int p0), .val (.int p1), .val (.int p2), .unset, .unset] [(.ref b1)]))
  refine own_go (fun t_ kt_ => XS.dup X22g.here hx rfl (hb hby at_137) rfl rfl kt_) ?_
  show own_Go p e below s _ _ _ (T22.setTop (mkF m 138 #[.val (.int p0), .val (.int p1), .val (.int p2), .unset, .unset] [(.ref b1), (.ref b1)]))
  refine own_go (fun t_ kt_ => XS.bipush X22g.here hx rfl (hb hby at_138) kt_) ?_
  show own_Go p e below s _ _ _ (T22.setTop (mkF m 140 #[.val (.int p0), .val (.int p1), .val (.int p2), .unset, .unset] [(.int (21 : Int32)), (.ref b1), (.ref b1)]))
  refine own_go (fun t_ kt_ => XS.sipush X22g.here hx rfl (hb hby at_140) kt_) ?_
  show own_Go p e below s _ _ _ (T22.setTop (mkF m 143 #[.val (.int p0), .val (.int p1), .val (.int p2), .unset, .unset] [(.int (8204 : Int32)), (.int (21 : Int32)), (.ref b1), (.ref b1)]))
  obtain ⟨c23, Ar23, S23, G23⟩ := id V_b1_22
  obtain ⟨T23, h23, X23, e23, W23, st23⟩ := stI X22g hx hZ e22 Ar23 (j := (21 : Int32)) (own_in (i := 21) S23 (by decide) (by decide)) (g := (mkF m 143 #[.val (.int p0), .val (.int p1), .val (.int p2), .unset, .unset] [(.int (8204 : Int32)), (.int (21 : Int32)), (.ref b1), (.ref b1)])) rfl rfl (hb hby at_143)
  rw [own_cl (j := (21 : Int32)) (i := 21) (by decide)] at W23 X23
  refine own_go (fun t_ kt_ => st23 _ kt_) ?_
  have N23 := Fr.snoc X23 N22g gt_b1
  obtain ⟨lo23, X23g, N23g⟩ : ∃ lo, Stand p l e room_1 s m #[(.int p0), (.int p1), (.int p2)] below meth c T23 lo 1 37 ∧ Fr n0 lo := ⟨_, X23, N23⟩
  have ZZ_23 : n0 ≤ h23.size := Nat.le_trans ZZ_22 (Nat.le_of_eq W23.size.symm)
  have V_b1_23 : own_Ary Z h23 b1 .int 37 (own_set (own_set (own_set (own_set (own_set (own_set (own_set (own_set (own_set (own_set (own_set (own_set (own_set (own_set (own_set (own_set (own_set (own_set (own_set (own_set (own_set (own_set (fun _ => (.int (0 : Int32))) 0 (.int (45 : Int32))) 1 (.int (48 : Int32))) 2 (.int (57 : Int32))) 3 (.int (65 : Int32))) 4 (.int (90 : Int32))) 5 (.int (95 : Int32))) 6 (.int (97 : Int32))) 7 (.int (122 : Int32))) 8 (.int (183 : Int32))) 9 (.int (192 : Int32))) 10 (.int (214 : Int32))) 11 (.int (216 : Int32))) 12 (.int (246 : Int32))) 13 (.int (248 : Int32))) 14 (.int (767 : Int32))) 15 (.int (768 : Int32))) 16 (.int (879 : Int32))) 17 (.int (880 : Int32))) 18 (.int (893 : Int32))) 19 (.int (895 : Int32))) 20 (.int (8191 : Int32))) 21 (.int (8204 : Int32))) := own_Ary.set Ar23 S23 G23 W23
  show own_Go p e below s _ _ _ (T23.setTop (mkF m 144 #[.val (.int p0), .val (.int p1), .val (.int p2), .unset, .unset] [(.ref b1)]))
  refine own_go (fun t_ kt_ => XS.dup X23g.here hx rfl (hb hby at_144) rfl rfl kt_) ?_
  show own_Go p e below s _ _ _ (T23.setTop (mkF m 145 #[.val (.int p0), .val (.int p1), .val (.int p2), .unset, .unset] [(.ref b1), (.ref b1)]))
  refine own_go (fun t_ kt_ => XS.bipush X23g.here hx rfl (hb hby at_145) kt_) ?_
  show own_Go p e below s _ _ _ (T23.setTop (mkF m 147 #[.val (.int p0), .val (.int p1), .val (.int p2), .unset, .unset] [(.int (22 : Int32)), (.ref b1), (.ref b1)]))
  refine own_go (fun t_ kt_ => XS.sipush X23g.here hx rfl (hb hby at_147) kt_) ?_
  show own_Go p e below s _ _ _ (T23.setTop (mkF m 150 #[.val (.int p0), .val (.int p1), .val (.int p2), .unset, .unset] [(.int (8205 : Int32)), (.int (22 : Int32)), (.ref b1), (.ref b1)]))
  obtain ⟨c24, Ar24, S24, G24⟩ := id V_b1_23
  obtain ⟨T24, h24, X24, e24, W24, st24⟩ := stI X23g hx hZ e23 Ar24 (j := (22 : Int32)) (own_in (i := 22) S24 (by decide) (by decide)) (g := (mkF m 150 #[.val (.int p0), .val (.int p1), .val (.int p2), .unset, .unset] [(.int (8205 : Int32)), (.int (22 : Int32)), (.ref b1), (.ref b1)])) rfl rfl (hb hby at_150)
  rw [own_cl (j := (22 : Int32)) (i := 22) (by decide)] at W24 X24
  refine own_go (fun t_ kt_ => st24 _ kt_) ?_
  have N24 := Fr.snoc X24 N23g gt_b1
  obtain ⟨lo24, X24g, N24g⟩ : ∃ lo, Stand p l e room_1 s m #[(.int p0), (.int p1), (.int p2)] below meth c T24 lo 1 37 ∧ Fr n0 lo := ⟨_, X24, N24⟩
  have ZZ_24 : n0 ≤ h24.size := Nat.le_trans ZZ_23 (Nat.le_of_eq W24.size.symm)
  have V_b1_24 : own_Ary Z h24 b1 .int 37 (own_set (own_set (own_set (own_set (own_set (own_set (own_set (own_set (own_set (own_set (own_set (own_set (own_set (own_set (own_set (own_set (own_set (own_set (own_set (own_set (own_set (own_set (own_set (fun _ => (.int (0 : Int32))) 0 (.int (45 : Int32))) 1 (.int (48 : Int32))) 2 (.int (57 : Int32))) 3 (.int (65 : Int32))) 4 (.int (90 : Int32))) 5 (.int (95 : Int32))) 6 (.int (97 : Int32))) 7 (.int (122 : Int32))) 8 (.int (183 : Int32))) 9 (.int (192 : Int32))) 10 (.int (214 : Int32))) 11 (.int (216 : Int32))) 12 (.int (246 : Int32))) 13 (.int (248 : Int32))) 14 (.int (767 : Int32))) 15 (.int (768 : Int32))) 16 (.int (879 : Int32))) 17 (.int (880 : Int32))) 18 (.int (893 : Int32))) 19 (.int (895 : Int32))) 20 (.int (8191 : Int32))) 21 (.int (8204 : Int32))) 22 (.int (8205 : Int32))) := own_Ary.set Ar24 S24 G24 W24
  show own_Go p e below s _ _ _ (T24.setTop (mkF m 151 #[.val (.int p0), .val (.int p1), .val (.int p2), .unset, .unset] [(.ref b1)]))
  refine own_go (fun t_ kt_ => XS.dup X24g.here hx rfl (hb hby at_151) rfl rfl kt_) ?_
  show own_Go p e below s _ _ _ (T24.setTop (mkF m 152 #[.val (.int p0), .val (.int p1), .val (.int p2), .unset, .unset] [(.ref b1), (.ref b1)]))
  refine own_go (fun t_ kt_ => XS.bipush X24g.here hx rfl (hb hby at_152) kt_) ?_
  show own_Go p e below s _ _ _ (T24.setTop (mkF m 154 #[.val (.int p0), .val (.int p1), .val (.int p2), .unset, .unset] [(.int (23 : Int32)), (.ref b1), (.ref b1)]))
  refine own_go (fun t_ kt_ => XS.sipush X24g.here hx rfl (hb hby at_154) kt_) ?_
  show own_Go p e below s _ _ _ (T24.setTop (mkF m 157 #[.val (.int p0), .val (.int p1), .val (.int p2), .unset, .unset] [(.int (8255 : Int32)), (.int (23 : Int32)), (.ref b1), (.ref b1)]))
  obtain ⟨c25, Ar25, S25, G25⟩ := id V_b1_24
  obtain ⟨T25, h25, X25, e25, W25, st25⟩ := stI X24g hx hZ e24 Ar25 (j := (23 : Int32)) (own_in (i := 23) S25 (by decide) (by decide)) (g := (mkF m 157 #[.val (.int p0), .val (.int p1), .val (.int p2), .unset, .unset] [(.int (8255 : Int32)), (.int (23 : Int32)), (.ref b1), (.ref b1)])) rfl rfl (hb hby at_157)
  rw [own_cl (j := (23 : Int32)) (i := 23) (by decide)] at W25 X25
  refine own_go (fun t_ kt_ => st25 _ kt_) ?_
  have N25 := Fr.snoc X25 N24g gt_b1
  obtain ⟨lo25, X25g, N25g⟩ : ∃ lo, Stand p l e room_1 s m #[(.int p0), (.int p1), (.int p2)] below meth c T25 lo 1 37 ∧ Fr n0 lo := ⟨_, X25, N25⟩
  have ZZ_25 : n0 ≤ h25.size := Nat.le_trans ZZ_24 (Nat.le_of_eq W25.size.symm)
  have V_b1_25 : own_Ary Z h25 b1 .int 37 (own_set (own_set (own_set (own_set (own_set (own_set (own_set (own_set (own_set (own_set (own_set (own_set (own_set (own_set (own_set (own_set (own_set (own_set (own_set (own_set (own_set (own_set (own_set (own_set (fun _ => (.int (0 : Int32))) 0 (.int (45 : Int32))) 1 (.int (48 : Int32))) 2 (.int (57 : Int32))) 3 (.int (65 : Int32))) 4 (.int (90 : Int32))) 5 (.int (95 : Int32))) 6 (.int (97 : Int32))) 7 (.int (122 : Int32))) 8 (.int (183 : Int32))) 9 (.int (192 : Int32))) 10 (.int (214 : Int32))) 11 (.int (216 : Int32))) 12 (.int (246 : Int32))) 13 (.int (248 : Int32))) 14 (.int (767 : Int32))) 15 (.int (768 : Int32))) 16 (.int (879 : Int32))) 17 (.int (880 : Int32))) 18 (.int (893 : Int32))) 19 (.int (895 : Int32))) 20 (.int (8191 : Int32))) 21 (.int (8204 : Int32))) 22 (.int (8205 : Int32))) 23 (.int (8255 : Int32))) := own_Ary.set Ar25 S25 G25 W25
  show own_Go p e below s _ _ _ (T25.setTop (mkF m 158 #[.val (.int p0), .val (.int p1), .val (.int p2), .unset, .unset] [(.ref b1)]))
  refine own_go (fun t_ kt_ => XS.dup X25g.here hx rfl (hb hby at_158) rfl rfl kt_) ?_
  show own_Go p e below s _ _ _ (T25.setTop (mkF m 159 #[.val (.int p0), .val (.int p1), .val (.int p2), .unset, .unset] [(.ref b1), (.ref b1)]))
  refine own_go (fun t_ kt_ => XS.bipush X25g.here hx rfl (hb hby at_159) kt_) ?_
  show own_Go p e below s _ _ _ (T25.setTop (mkF m 161 #[.val (.int p0), .val (.int p1), .val (.int p2), .unset, .unset] [(.int (24 : Int32)), (.ref b1), (.ref b1)]))
  refine own_go (fun t_ kt_ => XS.sipush X25g.here hx rfl (hb hby at_161) kt_) ?_
  show own_Go p e below s _ _ _ (T25.setTop (mkF m 164 #[.val (.int p0), .val (.int p1), .val (.int p2), .unset, .unset] [(.int (8256 : Int32)), (.int (24 : Int32)), (.ref b1), (.ref b1)]))
  obtain ⟨c26, Ar26, S26, G26⟩ := id V_b1_25
  obtain ⟨T26, h26, X26, e26, W26, st26⟩ := stI X25g hx hZ e25 Ar26 (j := (24 : Int32)) (own_in (i := 24) S26 (by decide) (by decide)) (g := (mkF m 164 #[.val (.int p0), .val (.int p1), .val (.int p2), .unset, .unset] [(.int (8256 : Int32)), (.int (24 : Int32)), (.ref b1), (.ref b1)])) rfl rfl (hb hby at_164)
  rw [own_cl (j := (24 : Int32)) (i := 24) (by decide)] at W26 X26
  refine own_go (fun t_ kt_ => st26 _ kt_) ?_
  have N26 := Fr.snoc X26 N25g gt_b1
  obtain ⟨lo26, X26g, N26g⟩ : ∃ lo, Stand p l e room_1 s m #[(.int p0), (.int p1), (.int p2)] below meth c T26 lo 1 37 ∧ Fr n0 lo := ⟨_, X26, N26⟩
  have ZZ_26 : n0 ≤ h26.size := Nat.le_trans ZZ_25 (Nat.le_of_eq W26.size.symm)
  have V_b1_26 : own_Ary Z h26 b1 .int 37 (own_set (own_set (own_set (own_set (own_set (own_set (own_set (own_set (own_set (own_set (own_set (own_set (own_set (own_set (own_set (own_set (own_set (own_set (own_set (own_set (own_set (own_set (own_set (own_set (own_set (fun _ => (.int (0 : Int32))) 0 (.int (45 : Int32))) 1 (.int (48 : Int32))) 2 (.int (57 : Int32))) 3 (.int (65 : Int32))) 4 (.int (90 : Int32))) 5 (.int (95 : Int32))) 6 (.int (97 : Int32))) 7 (.int (122 : Int32))) 8 (.int (183 : Int32))) 9 (.int (192 : Int32))) 10 (.int (214 : Int32))) 11 (.int (216 : Int32))) 12 (.int (246 : Int32))) 13 (.int (248 : Int32))) 14 (.int (767 : Int32))) 15 (.int (768 : Int32))) 16 (.int (879 : Int32))) 17 (.int (880 : Int32))) 18 (.int (893 : Int32))) 19 (.int (895 : Int32))) 20 (.int (8191 : Int32))) 21 (.int (8204 : Int32))) 22 (.int (8205 : Int32))) 23 (.int (8255 : Int32))) 24 (.int (8256 : Int32))) := own_Ary.set Ar26 S26 G26 W26
  show own_Go p e below s _ _ _ (T26.setTop (mkF m 165 #[.val (.int p0), .val (.int p1), .val (.int p2), .unset, .unset] [(.ref b1)]))
  refine own_go (fun t_ kt_ => XS.dup X26g.here hx rfl (hb hby at_165) rfl rfl kt_) ?_
  show own_Go p e below s _ _ _ (T26.setTop (mkF m 166 #[.val (.int p0), .val (.int p1), .val (.int p2), .unset, .unset] [(.ref b1), (.ref b1)]))
  refine own_go (fun t_ kt_ => XS.bipush X26g.here hx rfl (hb hby at_166) kt_) ?_
  show own_Go p e below s _ _ _ (T26.setTop (mkF m 168 #[.val (.int p0), .val (.int p1), .val (.int p2), .unset, .unset] [(.int (25 : Int32)), (.ref b1), (.ref b1)]))
  refine own_go (fun t_ kt_ => XS.sipush X26g.here hx rfl (hb hby at_168) kt_) ?_
  show own_Go p e below s _ _ _ (T26.setTop (mkF m 171 #[.val (.int p0), .val (.int p1), .val (.int p2), .unset, .unset] [(.int (8304 : Int32)), (.int (25 : Int32)), (.ref b1), (.ref b1)]))
  obtain ⟨c27, Ar27, S27, G27⟩ := id V_b1_26
  obtain ⟨T27, h27, X27, e27, W27, st27⟩ := stI X26g hx hZ e26 Ar27 (j := (25 : Int32)) (own_in (i := 25) S27 (by decide) (by decide)) (g := (mkF m 171 #[.val (.int p0), .val (.int p1), .val (.int p2), .unset, .unset] [(.int (8304 : Int32)), (.int (25 : Int32)), (.ref b1), (.ref b1)])) rfl rfl (hb hby at_171)
  rw [own_cl (j := (25 : Int32)) (i := 25) (by decide)] at W27 X27
  refine own_go (fun t_ kt_ => st27 _ kt_) ?_
  have N27 := Fr.snoc X27 N26g gt_b1
  obtain ⟨lo27, X27g, N27g⟩ : ∃ lo, Stand p l e room_1 s m #[(.int p0), (.int p1), (.int p2)] below meth c T27 lo 1 37 ∧ Fr n0 lo := ⟨_, X27, N27⟩
  have ZZ_27 : n0 ≤ h27.size := Nat.le_trans ZZ_26 (Nat.le_of_eq W27.size.symm)
  have V_b1_27 : own_Ary Z h27 b1 .int 37 (own_set (own_set (own_set (own_set (own_set (own_set (own_set (own_set (own_set (own_set (own_set (own_set (own_set (own_set (own_set (own_set (own_set (own_set (own_set (own_set (own_set (own_set (own_set (own_set (own_set (own_set (fun _ => (.int (0 : Int32))) 0 (.int (45 : Int32))) 1 (.int (48 : Int32))) 2 (.int (57 : Int32))) 3 (.int (65 : Int32))) 4 (.int (90 : Int32))) 5 (.int (95 : Int32))) 6 (.int (97 : Int32))) 7 (.int (122 : Int32))) 8 (.int (183 : Int32))) 9 (.int (192 : Int32))) 10 (.int (214 : Int32))) 11 (.int (216 : Int32))) 12 (.int (246 : Int32))) 13 (.int (248 : Int32))) 14 (.int (767 : Int32))) 15 (.int (768 : Int32))) 16 (.int (879 : Int32))) 17 (.int (880 : Int32))) 18 (.int (893 : Int32))) 19 (.int (895 : Int32))) 20 (.int (8191 : Int32))) 21 (.int (8204 : Int32))) 22 (.int (8205 : Int32))) 23 (.int (8255 : Int32))) 24 (.int (8256 : Int32))) 25 (.int (8304 : Int32))) := own_Ary.set Ar27 S27 G27 W27
  show own_Go p e below s _ _ _ (T27.setTop (mkF m 172 #[.val (.int p0), .val (.int p1), .val (.int p2), .unset, .unset] [(.ref b1)]))
  refine own_go (fun t_ kt_ => XS.dup X27g.here hx rfl (hb hby at_172) rfl rfl kt_) ?_
  show own_Go p e below s _ _ _ (T27.setTop (mkF m 173 #[.val (.int p0), .val (.int p1), .val (.int p2), .unset, .unset] [(.ref b1), (.ref b1)]))
  refine own_go (fun t_ kt_ => XS.bipush X27g.here hx rfl (hb hby at_173) kt_) ?_
  show own_Go p e below s _ _ _ (T27.setTop (mkF m 175 #[.val (.int p0), .val (.int p1), .val (.int p2), .unset, .unset] [(.int (26 : Int32)), (.ref b1), (.ref b1)]))
  refine own_go (fun t_ kt_ => XS.sipush X27g.here hx rfl (hb hby at_175) kt_) ?_
  show own_Go p e below s _ _ _ (T27.setTop (mkF m 178 #[.val (.int p0), .val (.int p1), .val (.int p2), .unset, .unset] [(.int (8591 : Int32)), (.int (26 : Int32)), (.ref b1), (.ref b1)]))
  obtain ⟨c28, Ar28, S28, G28⟩ := id V_b1_27
  obtain ⟨T28, h28, X28, e28, W28, st28⟩ := stI X27g hx hZ e27 Ar28 (j := (26 : Int32)) (own_in (i := 26) S28 (by decide) (by decide)) (g := (mkF m 178 #[.val (.int p0), .val (.int p1), .val (.int p2), .unset, .unset] [(.int (8591 : Int32)), (.int (26 : Int32)), (.ref b1), (.ref b1)])) rfl rfl (hb hby at_178)
  rw [own_cl (j := (26 : Int32)) (i := 26) (by decide)] at W28 X28
  refine own_go (fun t_ kt_ => st28 _ kt_) ?_
  have N28 := Fr.snoc X28 N27g gt_b1
  obtain ⟨lo28, X28g, N28g⟩ : ∃ lo, Stand p l e room_1 s m #[(.int p0), (.int p1), (.int p2)] below meth c T28 lo 1 37 ∧ Fr n0 lo := ⟨_, X28, N28⟩
  have ZZ_28 : n0 ≤ h28.size := Nat.le_trans ZZ_27 (Nat.le_of_eq W28.size.symm)
  have V_b1_28 : own_Ary Z h28 b1 .int 37 (own_set (own_set (own_set (own_set (own_set (own_set (own_set (own_set (own_set (own_set (own_set (own_set (own_set (own_set (own_set (own_set (own_set (own_set (own_set (own_set (own_set (own_set (own_set (own_set (own_set (own_set (own_set (fun _ => (.int (0 : Int32))) 0 (.int (45 : Int32))) 1 (.int (48 : Int32))) 2 (.int (57 : Int32))) 3 (.int (65 : Int32))) 4 (.int (90 : Int32))) 5 (.int (95 : Int32))) 6 (.int (97 : Int32))) 7 (.int (122 : Int32))) 8 (.int (183 : Int32))) 9 (.int (192 : Int32))) 10 (.int (214 : Int32))) 11 (.int (216 : Int32))) 12 (.int (246 : Int32))) 13 (.int (248 : Int32))) 14 (.int (767 : Int32))) 15 (.int (768 : Int32))) 16 (.int (879 : Int32))) 17 (.int (880 : Int32))) 18 (.int (893 : Int32))) 19 (.int (895 : Int32))) 20 (.int (8191 : Int32))) 21 (.int (8204 : Int32))) 22 (.int (8205 : Int32))) 23 (.int (8255 : Int32))) 24 (.int (8256 : Int32))) 25 (.int (8304 : Int32))) 26 (.int (8591 : Int32))) := own_Ary.set Ar28 S28 G28 W28
  show own_Go p e below s _ _ _ (T28.setTop (mkF m 179 #[.val (.int p0), .val (.int p1), .val (.int p2), .unset, .unset] [(.ref b1)]))
  refine own_go (fun t_ kt_ => XS.dup X28g.here hx rfl (hb hby at_179) rfl rfl kt_) ?_
  show own_Go p e below s _ _ _ (T28.setTop (mkF m 180 #[.val (.int p0), .val (.int p1), .val (.int p2), .unset, .unset] [(.ref b1), (.ref b1)]))
  refine own_go (fun t_ kt_ => XS.bipush X28g.here hx rfl (hb hby at_180) kt_) ?_
  show own_Go p e below s _ _ _ (T28.setTop (mkF m 182 #[.val (.int p0), .val (.int p1), .val (.int p2), .unset, .unset] [(.int (27 : Int32)), (.ref b1), (.ref b1)]))
  refine own_go (fun t_ kt_ => XS.sipush X28g.here hx rfl (hb hby at_182) kt_) ?_
  show own_Go p e below s _ _ _ (T28.setTop (mkF m 185 #[.val (.int p0), .val (.int p1), .val (.int p2), .unset, .unset] [(.int (11264 : Int32)), (.int (27 : Int32)), (.ref b1), (.ref b1)]))
  obtain ⟨c29, Ar29, S29, G29⟩ := id V_b1_28
  obtain ⟨T29, h29, X29, e29, W29, st29⟩ := stI X28g hx hZ e28 Ar29 (j := (27 : Int32)) (own_in (i := 27) S29 (by decide) (by decide)) (g := (mkF m 185 #[.val (.int p0), .val (.int p1), .val (.int p2), .unset, .unset] [(.int (11264 : Int32)), (.int (27 : Int32)), (.ref b1), (.ref b1)])) rfl rfl (hb hby at_185)
  rw [own_cl (j := (27 : Int32)) (i := 27) (by decide)] at W29 X29
  refine own_go (fun t_ kt_ => st29 _ kt_) ?_
  have N29 := Fr.snoc X29 N28g gt_b1
  obtain ⟨lo29, X29g, N29g⟩ : ∃ lo, Stand p l e room_1 s m #[(.int p0), (.int p1), (.int p2)] below meth c T29 lo 1 37 ∧ Fr n0 lo := ⟨_, X29, N29⟩
  have ZZ_29 : n0 ≤ h29.size := Nat.le_trans ZZ_28 (Nat.le_of_eq W29.size.symm)
  have V_b1_29 : own_Ary Z h29 b1 .int 37 (own_set (own_set (own_set (own_set (own_set (own_set (own_set (own_set (own_set (own_set (own_set (own_set (own_set (own_set (own_set (own_set (own_set (own_set (own_set (own_set (own_set (own_set (own_set (own_set (own_set (own_set (own_set (own_set (fun _ => (.int (0 : Int32))) 0 (.int (45 : Int32))) 1 (.int (48 : Int32))) 2 (.int (57 : Int32))) 3 (.int (65 : Int32))) 4 (.int (90 : Int32))) 5 (.int (95 : Int32))) 6 (.int (97 : Int32))) 7 (.int (122 : Int32))) 8 (.int (183 : Int32))) 9 (.int (192 : Int32))) 10 (.int (214 : Int32))) 11 (.int (216 : Int32))) 12 (.int (246 : Int32))) 13 (.int (248 : Int32))) 14 (.int (767 : Int32))) 15 (.int (768 : Int32))) 16 (.int (879 : Int32))) 17 (.int (880 : Int32))) 18 (.int (893 : Int32))) 19 (.int (895 : Int32))) 20 (.int (8191 : Int32))) 21 (.int (8204 : Int32))) 22 (.int (8205 : Int32))) 23 (.int (8255 : Int32))) 24 (.int (8256 : Int32))) 25 (.int (8304 : Int32))) 26 (.int (8591 : Int32))) 27 (.int (11264 : Int32))) := own_Ary.set Ar29 S29 G29 W29
  show own_Go p e below s _ _ _ (T29.setTop (mkF m 186 #[.val (.int p0), .val (.int p1), .val (.int p2), .unset, .unset] [(.ref b1)]))
  refine own_go (fun t_ kt_ => XS.dup X29g.here hx rfl (hb hby at_186) rfl rfl kt_) ?_
  show own_Go p e below s _ _ _ (T29.setTop (mkF m 187 #[.val (.int p0), .val (.int p1), .val (.int p2), .unset, .unset] [(.ref b1), (.ref b1)]))
  refine own_go (fun t_ kt_ => XS.bipush X29g.here hx rfl (hb hby at_187) kt_) ?_
  show own_Go p e below s _ _ _ (T29.setTop (mkF m 189 #[.val (.int p0), .val (.int p1), .val (.int p2), .unset, .unset] [(.int (28 : Int32)), (.ref b1), (.ref b1)]))
  refine own_go (fun t_ kt_ => XS.sipush X29g.here hx rfl (hb hby at_189) kt_) ?_
  show own_Go p e below s _ _ _ (T29.setTop (mkF m 192 #[.val (.int p0), .val (.int p1), .val (.int p2), .unset, .unset] [(.int (12271 : Int32)), (.int (28 : Int32)), (.ref b1), (.ref b1)]))
  obtain ⟨c30, Ar30, S30, G30⟩ := id V_b1_29
  obtain ⟨T30, h30, X30, e30, W30, st30⟩ := stI X29g hx hZ e29 Ar30 (j := (28 : Int32)) (own_in (i := 28) S30 (by decide) (by decide)) (g := (mkF m 192 #[.val (.int p0), .val (.int p1), .val (.int p2), .unset, .unset] [(.int (12271 : Int32)), (.int (28 : Int32)), (.ref b1), (.ref b1)])) rfl rfl (hb hby at_192)
  rw [own_cl (j := (28 : Int32)) (i := 28) (by decide)] at W30 X30
  refine own_go (fun t_ kt_ => st30 _ kt_) ?_
  have N30 := Fr.snoc X30 N29g gt_b1
  obtain ⟨lo30, X30g, N30g⟩ : ∃ lo, Stand p l e room_1 s m #[(.int p0), (.int p1), (.int p2)] below meth c T30 lo 1 37 ∧ Fr n0 lo := ⟨_, X30, N30⟩
  have ZZ_30 : n0 ≤ h30.size := Nat.le_trans ZZ_29 (Nat.le_of_eq W30.size.symm)
  have V_b1_30 : own_Ary Z h30 b1 .int 37 (own_set (own_set (own_set (own_set (own_set (own_set (own_set (own_set (own_set (own_set (own_set (own_set (own_set (own_set (own_set (own_set (own_set (own_set (own_set (own_set (own_set (own_set (own_set (own_set (own_set (own_set (own_set (own_set (own_set (fun _ => (.int (0 : Int32))) 0 (.int (45 : Int32))) 1 (.int (48 : Int32))) 2 (.int (57 : Int32))) 3 (.int (65 : Int32))) 4 (.int (90 : Int32))) 5 (.int (95 : Int32))) 6 (.int (97 : Int32))) 7 (.int (122 : Int32))) 8 (.int (183 : Int32))) 9 (.int (192 : Int32))) 10 (.int (214 : Int32))) 11 (.int (216 : Int32))) 12 (.int (246 : Int32))) 13 (.int (248 : Int32))) 14 (.int (767 : Int32))) 15 (.int (768 : Int32))) 16 (.int (879 : Int32))) 17 (.int (880 : Int32))) 18 (.int (893 : Int32))) 19 (.int (895 : Int32))) 20 (.int (8191 : Int32))) 21 (.int (8204 : Int32))) 22 (.int (8205 : Int32))) 23 (.int (8255 : Int32))) 24 (.int (8256 : Int32))) 25 (.int (8304 : Int32))) 26 (.int (8591 : Int32))) 27 (.int (11264 : Int32))) 28 (.int (12271 : Int32))) := own_Ary.set Ar30 S30 G30 W30
  show own_Go p e below s _ _ _ (T30.setTop (mkF m 193 #[.val (.int p0), .val (.int p1), .val (.int p2), .unset, .unset] [(.ref b1)]))
  refine own_go (fun t_ kt_ => XS.dup X30g.here hx rfl (hb hby at_193) rfl rfl kt_) ?_
  show own_Go p e below s _ _ _ (T30.setTop (mkF m 194 #[.val (.int p0), .val (.int p1), .val (.int p2), .unset, .unset] [(.ref b1), (.ref b1)]))
  refine own_go (fun t_ kt_ => XS.bipush X30g.here hx rfl (hb hby at_194) kt_) ?_
  show own_Go p e below s _ _ _ (T30.setTop (mkF m 196 #[.val (.int p0), .val (.int p1), .val (.int p2), .unset, .unset] [(.int (29 : Int32)), (.ref b1), (.ref b1)]))
  refine own_go (fun t_ kt_ => XS.sipush X30g.here hx rfl (hb hby at_196) kt_) ?_
  show own_Go p e below s _ _ _ (T30.setTop (mkF m 199 #[.val (.int p0), .val (.int p1), .val (.int p2), .unset, .unset] [(.int (12289 : Int32)), (.int (29 : Int32)), (.ref b1), (.ref b1)]))
  obtain ⟨c31, Ar31, S31, G31⟩ := id V_b1_30
  obtain ⟨T31, h31, X31, e31, W31, st31⟩ := stI X30g hx hZ e30 Ar31 (j := (29 : Int32)) (own_in (i := 29) S31 (by decide) (by decide)) (g := (mkF m 199 #[.val (.int p0), .val (.int p1), .val (.int p2), .unset, .unset] [(.int (12289 : Int32)), (.int (29 : Int32)), (.ref b1), (.ref b1)])) rfl rfl (hb hby at_199)
  rw [own_cl (j := (29 : Int32)) (i := 29) (by decide)] at W31 X31
  refine own_go (fun t_ kt_ => st31 _ kt_) ?_
  have N31 := Fr.snoc X31 N30g gt_b1
  obtain ⟨lo31, X31g, N31g⟩ : ∃ lo, Stand p l e room_1 s m #[(.int p0), (.int p1), (.int p2)] below meth c T31 lo 1 37 ∧ Fr n0 lo := ⟨_, X31, N31⟩
  have ZZ_31 : n0 ≤ h31.size := Nat.le_trans ZZ_30 (Nat.le_of_eq W31.size.symm)
  have V_b1_31 : own_Ary Z h31 b1 .int 37 (own_set (own_set (own_set (own_set (own_set (own_set (own_set (own_set (own_set (own_set (own_set (own_set (own_set (own_set (own_set (own_set (own_set (own_set (own_set (own_set (own_set (own_set (own_set (own_set (own_set (own_set (own_set (own_set (own_set (own_set (fun _ => (.int (0 : Int32))) 0 (.int (45 : Int32))) 1 (.int (48 : Int32))) 2 (.int (57 : Int32))) 3 (.int (65 : Int32))) 4 (.int (90 : Int32))) 5 (.int (95 : Int32))) 6 (.int (97 : Int32))) 7 (.int (122 : Int32))) 8 (.int (183 : Int32))) 9 (.int (192 : Int32))) 10 (.int (214 : Int32))) 11 (.int (216 : Int32))) 12 (.int (246 : Int32))) 13 (.int (248 : Int32))) 14 (.int (767 : Int32))) 15 (.int (768 : Int32))) 16 (.int (879 : Int32))) 17 (.int (880 : Int32))) 18 (.int (893 : Int32))) 19 (.int (895 : Int32))) 20 (.int (8191 : Int32))) 21 (.int (8204 : Int32))) 22 (.int (8205 : Int32))) 23 (.int (8255 : Int32))) 24 (.int (8256 : Int32))) 25 (.int (8304 : Int32))) 26 (.int (8591 : Int32))) 27 (.int (11264 : Int32))) 28 (.int (12271 : Int32))) 29 (.int (12289 : Int32))) := own_Ary.set Ar31 S31 G31 W31
  show own_Go p e below s _ _ _ (T31.setTop (mkF m 200 #[.val (.int p0), .val (.int p1), .val (.int p2), .unset, .unset] [(.ref b1)]))
  refine own_go (fun t_ kt_ => XS.dup X31g.here hx rfl (hb hby at_200) rfl rfl kt_) ?_
  show own_Go p e below s _ _ _ (T31.setTop (mkF m 201 #[.val (.int p0), .val (.int p1), .val (.int p2), .unset, .unset] [(.ref b1), (.ref b1)]))
  refine own_go (fun t_ kt_ => XS.bipush X31g.here hx rfl (hb hby at_201) kt_) ?_
  show own_Go p e below s _ _ _ (T31.setTop (mkF m 203 #[.val (.int p0), .val (.int p1), .val (.int p2), .unset, .unset] [(.int (30 : Int32)), (.ref b1), (.ref b1)]))
  refine own_go (fun t_ kt_ => X31g.ldcInt hx hown (mvT hZ (hw _ (List.mem_of_getElem? (i := 1) rfl))) (g := (mkF m 203 #[.val (.int p0), .val (.int p1), .val (.int p2), .unset, .unset] [(.int (30 : Int32)), (.ref b1), (.ref b1)])) rfl (hb hby at_203) _ kt_) ?_
  show own_Go p e below s _ _ _ (T31.setTop (mkF m 205 #[.val (.int p0), .val (.int p1), .val (.int p2), .unset, .unset] [(.int (55295 : Int32)), (.int (30 : Int32)), (.ref b1), (.ref b1)]))
  obtain ⟨c32, Ar32, S32, G32⟩ := id V_b1_31
  obtain ⟨T32, h32, X32, e32, W32, st32⟩ := stI X31g hx hZ e31 Ar32 (j := (30 : Int32)) (own_in (i := 30) S32 (by decide) (by decide)) (g := (mkF m 205 #[.val (.int p0), .val (.int p1), .val (.int p2), .unset, .unset] [(.int (55295 : Int32)), (.int (30 : Int32)), (.ref b1), (.ref b1)])) rfl rfl (hb hby at_205)
  rw [own_cl (j := (30 : Int32)) (i := 30) (by decide)] at W32 X32
  refine own_go (fun t_ kt_ => st32 _ kt_) ?_
  have N32 := Fr.snoc X32 N31g gt_b1
  obtain ⟨lo32, X32g, N32g⟩ : ∃ lo, Stand p l e room_1 s m #[(.int p0), (.int p1), (.int p2)] below meth c T32 lo 1 37 ∧ Fr n0 lo := ⟨_, X32, N32⟩
  have ZZ_32 : n0 ≤ h32.size := Nat.le_trans ZZ_31 (Nat.le_of_eq W32.size.symm)
  have V_b1_32 : own_Ary Z h32 b1 .int 37 (own_set (own_set (own_set (own_set (own_set (own_set (own_set (own_set (own_set (own_set (own_set (own_set (own_set (own_set (own_set (own_set (own_set (own_set (own_set (own_set (own_set (own_set (own_set (own_set (own_set (own_set (own_set (own_set (own_set (own_set (own_set (fun _ => (.int (0 : Int32))) 0 (.int (45 : Int32))) 1 (.int (48 : Int32))) 2 (.int (57 : Int32))) 3 (.int (65 : Int32))) 4 (.int (90 : Int32))) 5 (.int (95 : Int32))) 6 (.int (97 : Int32))) 7 (.int (122 : Int32))) 8 (.int (183 : Int32))) 9 (.int (192 : Int32))) 10 (.int (214 : Int32))) 11 (.int (216 : Int32))) 12 (.int (246 : Int32))) 13 (.int (248 : Int32))) 14 (.int (767 : Int32))) 15 (.int (768 : Int32))) 16 (.int (879 : Int32))) 17 (.int (880 : Int32))) 18 (.int (893 : Int32))) 19 (.int (895 : Int32))) 20 (.int (8191 : Int32))) 21 (.int (8204 : Int32))) 22 (.int (8205 : Int32))) 23 (.int (8255 : Int32))) 24 (.int (8256 : Int32))) 25 (.int (8304 : Int32))) 26 (.int (8591 : Int32))) 27 (.int (11264 : Int32))) 28 (.int (12271 : Int32))) 29 (.int (12289 : Int32))) 30 (.int (55295 : Int32))) := own_Ary.set Ar32 S32 G32 W32
  show own_Go p e below s _ _ _ (T32.setTop (mkF m 206 #[.val (.int p0), .val (.int p1), .val (.int p2), .unset, .unset] [(.ref b1)]))
  refine own_go (fun t_ kt_ => XS.dup X32g.here hx rfl (hb hby at_206) rfl rfl kt_) ?_
  show own_Go p e below s _ _ _ (T32.setTop (mkF m 207 #[.val (.int p0), .val (.int p1), .val (.int p2), .unset, .unset] [(.ref b1), (.ref b1)]))
  refine own_go (fun t_ kt_ => XS.bipush X32g.here hx rfl (hb hby at_207) kt_) ?_
  show own_Go p e below s _ _ _ (T32.setTop (mkF m 209 #[.val (.int p0), .val (.int p1), .val (.int p2), .unset, .unset] [(.int (31 : Int32)), (.ref b1), (.ref b1)]))
  refine own_go (fun t_ kt_ => X32g.ldcInt hx hown (mvT hZ (hw _ (List.mem_of_getElem? (i := 2) rfl))) (g := (mkF m 209 #[.val (.int p0), .val (.int p1), .val (.int p2), .unset, .unset] [(.int (31 : Int32)), (.ref b1), (.ref b1)])) rfl (hb hby at_209) _ kt_) ?_
  show own_Go p e below s _ _ _ (T32.setTop (mkF m 211 #[.val (.int p0), .val (.int p1), .val (.int p2), .unset, .unset] [(.int (63744 : Int32)), (.int (31 : Int32)), (.ref b1), (.ref b1)]))
  obtain ⟨c33, Ar33, S33, G33⟩ := id V_b1_32
  obtain ⟨T33, h33, X33, e33, W33, st33⟩ := stI X32g hx hZ e32 Ar33 (j := (31 : Int32)) (own_in (i := 31) S33 (by decide) (by decide)) (g := (mkF m 211 #[.val (.int p0), .val (.int p1), .val (.int p2), .unset, .unset] [(.int (63744 : Int32)), (.int (31 : Int32)), (.ref b1), (.ref b1)])) rfl rfl (hb hby at_211)
  rw [own_cl (j := (31 : Int32)) (i := 31) (by decide)] at W33 X33
  refine own_go (fun t_ kt_ => st33 _ kt_) ?_
  have N33 := Fr.snoc X33 N32g gt_b1
  obtain ⟨lo33, X33g, N33g⟩ : ∃ lo, Stand p l e room_1 s m #[(.int p0), (.int p1), (.int p2)] below meth c T33 lo 1 37 ∧ Fr n0 lo := ⟨_, X33, N33⟩
  have ZZ_33 : n0 ≤ h33.size := Nat.le_trans ZZ_32 (Nat.le_of_eq W33.size.symm)
  have V_b1_33 : own_Ary Z h33 b1 .int 37 (own_set (own_set (own_set (own_set (own_set (own_set (own_set (own_set (own_set (own_set (own_set (own_set (own_set (own_set (own_set (own_set (own_set (own_set (own_set (own_set (own_set (own_set (own_set (own_set (own_set (own_set (own_set (own_set (own_set (own_set (own_set (own_set (fun _ => (.int (0 : Int32))) 0 (.int (45 : Int32))) 1 (.int (48 : Int32))) 2 (.int (57 : Int32))) 3 (.int (65 : Int32))) 4 (.int (90 : Int32))) 5 (.int (95 : Int32))) 6 (.int (97 : Int32))) 7 (.int (122 : Int32))) 8 (.int (183 : Int32))) 9 (.int (192 : Int32))) 10 (.int (214 : Int32))) 11 (.int (216 : Int32))) 12 (.int (246 : Int32))) 13 (.int (248 : Int32))) 14 (.int (767 : Int32))) 15 (.int (768 : Int32))) 16 (.int (879 : Int32))) 17 (.int (880 : Int32))) 18 (.int (893 : Int32))) 19 (.int (895 : Int32))) 20 (.int (8191 : Int32))) 21 (.int (8204 : Int32))) 22 (.int (8205 : Int32))) 23 (.int (8255 : Int32))) 24 (.int (8256 : Int32))) 25 (.int (8304 : Int32))) 26 (.int (8591 : Int32))) 27 (.int (11264 : Int32))) 28 (.int (12271 : Int32))) 29 (.int (12289 : Int32))) 30 (.int (55295 : Int32))) 31 (.int (63744 : Int32))) := own_Ary.set Ar33 S33 G33 W33
  show own_Go p e below s _ _ _ (T33.setTop (mkF m 212 #[.val (.int p0), .val (.int p1), .val (.int p2), .unset, .unset] [(.ref b1)]))
  refine own_go (fun t_ kt_ => XS.dup X33g.here hx rfl (hb hby at_212) rfl rfl kt_) ?_
  show own_Go p e below s _ _ _ (T33.setTop (mkF m 213 #[.val (.int p0), .val (.int p1), .val (.int p2), .unset, .unset] [(.ref b1), (.ref b1)]))
  refine own_go (fun t_ kt_ => XS.bipush X33g.here hx rfl (hb hby at_213) kt_) ?_
  show own_Go p e below s _ _ _ (T33.setTop (mkF m 215 #[.val (.int p0), .val (.int p1), .val (.int p2), .unset, .unset] [(.int (32 : Int32)), (.ref b1), (.ref b1)]))
  refine own_go (fun t_ kt_ => X33g.ldcInt hx hown (mvT hZ (hw _ (List.mem_of_getElem? (i := 3) rfl))) (g := (mkF m 215 #[.val (.int p0), .val (.int p1), .val (.int p2), .unset, .unset] [(.int (32 : Int32)), (.ref b1), (.ref b1)])) rfl (hb hby at_215) _ kt_) ?_
  show own_Go p e below s _ _ _ (T33.setTop (mkF m 217 #[.val (.int p0), .val (.int p1), .val (.int p2), .unset, .unset] [(.int (64975 : Int32)), (.int (32 : Int32)), (.ref b1), (.ref b1)]))
  obtain ⟨c34, Ar34, S34, G34⟩ := id V_b1_33
  obtain ⟨T34, h34, X34, e34, W34, st34⟩ := stI X33g hx hZ e33 Ar34 (j := (32 : Int32)) (own_in (i := 32) S34 (by decide) (by decide)) (g := (mkF m 217 #[.val (.int p0), .val (.int p1), .val (.int p2), .unset, .unset] [(.int (64975 : Int32)), (.int (32 : Int32)), (.ref b1), (.ref b1)])) rfl rfl (hb hby at_217)
  rw [own_cl (j := (32 : Int32)) (i := 32) (by decide)] at W34 X34
  refine own_go (fun t_ kt_ => st34 _ kt_) ?_
  have N34 := Fr.snoc X34 N33g gt_b1
  obtain ⟨lo34, X34g, N34g⟩ : ∃ lo, Stand p l e room_1 s m #[(.int p0), (.int p1), (.int p2)] below meth c T34 lo 1 37 ∧ Fr n0 lo := ⟨_, X34, N34⟩
  have ZZ_34 : n0 ≤ h34.size := Nat.le_trans ZZ_33 (Nat.le_of_eq W34.size.symm)
  have V_b1_34 : own_Ary Z h34 b1 .int 37 (own_set (own_set (own_set (own_set (own_set (own_set (own_set (own_set (own_set (own_set (own_set (own_set (own_set (own_set (own_set (own_set (own_set (own_set (own_set (own_set (own_set (own_set (own_set (own_set (own_set (own_set (own_set (own_set (own_set (own_set (own_set (own_set (own_set (fun _ => (.int (0 : Int32))) 0 (.int (45 : Int32))) 1 (.int (48 : Int32))) 2 (.int (57 : Int32))) 3 (.int (65 : Int32))) 4 (.int (90 : Int32))) 5 (.int (95 : Int32))) 6 (.int (97 : Int32))) 7 (.int (122 : Int32))) 8 (.int (183 : Int32))) 9 (.int (192 : Int32))) 10 (.int (214 : Int32))) 11 (.int (216 : Int32))) 12 (.int (246 : Int32))) 13 (.int (248 : Int32))) 14 (.int (767 : Int32))) 15 (.int (768 : Int32))) 16 (.int (879 : Int32))) 17 (.int (880 : Int32))) 18 (.int (893 : Int32))) 19 (.int (895 : Int32))) 20 (.int (8191 : Int32))) 21 (.int (8204 : Int32))) 22 (.int (8205 : Int32))) 23 (.int (8255 : Int32))) 24 (.int (8256 : Int32))) 25 (.int (8304 : Int32))) 26 (.int (8591 : Int32))) 27 (.int (11264 : Int32))) 28 (.int (12271 : Int32))) 29 (.int (12289 : Int32))) 30 (.int (55295 : Int32))) 31 (.int (63744 : Int32))) 32 (.int (64975 : Int32))) := own_Ary.set Ar34 S34 G34 W34
  show own_Go p e below s _ _ _ (T34.setTop (mkF m 218 #[.val (.int p0), .val (.int p1), .val (.int p2), .unset, .unset] [(.ref b1)]))
  refine own_go (fun t_ kt_ => XS.dup X34g.here hx rfl (hb hby at_218) rfl rfl kt_) ?_
  show own_Go p e below s _ _ _ (T34.setTop (mkF m 219 #[.val (.int p0), .val (.int p1), .val (.int p2), .unset, .unset] [(.ref b1), (.ref b1)]))
  refine own_go (fun t_ kt_ => XS.bipush X34g.here hx rfl (hb hby at_219) kt_) ?_
  show own_Go p e below s _ _ _ (T34.setTop (mkF m 221 #[.val (.int p0), .val (.int p1), .val (.int p2), .unset, .unset] [(.int (33 : Int32)), (.ref b1), (.ref b1)]))
  refine own_go (fun t_ kt_ => X34g.ldcInt hx hown (mvT hZ (hw _ (List.mem_of_getElem? (i := 4) rfl))) (g := (mkF m 221 #[.val (.int p0), .val (.int p1), .val (.int p2), .unset, .unset] [(.int (33 : Int32)), (.ref b1), (.ref b1)])) rfl (hb hby at_221) _ kt_) ?_
  show own_Go p e below s _ _ _ (T34.setTop (mkF m 223 #[.val (.int p0), .val (.int p1), .val (.int p2), .unset, .unset] [(.int (65008 : Int32)), (.int (33 : Int32)), (.ref b1), (.ref b1)]))
  obtain ⟨c35, Ar35, S35, G35⟩ := id V_b1_34
  obtain ⟨T35, h35, X35, e35, W35, st35⟩ := stI X34g hx hZ e34 Ar35 (j := (33 : Int32)) (own_in (i := 33) S35 (by decide) (by decide)) (g := (mkF m 223 #[.val (.int p0), .val (.int p1), .val (.int p2), .unset, .unset] [(.int (65008 : Int32)), (.int (33 : Int32)), (.ref b1), (.ref b1)])) rfl rfl (hb hby at_223)
  rw [own_cl (j := (33 : Int32)) (i := 33) (by decide)] at W35 X35
  refine own_go (fun t_ kt_ => st35 _ kt_) ?_
  have N35 := Fr.snoc X35 N34g gt_b1
  obtain ⟨lo35, X35g, N35g⟩ : ∃ lo, Stand p l e room_1 s m #[(.int p0), (.int p1), (.int p2)] below meth c T35 lo 1 37 ∧ Fr n0 lo := ⟨_, X35, N35⟩
  have ZZ_35 : n0 ≤ h35.size := Nat.le_trans ZZ_34 (Nat.le_of_eq W35.size.symm)
  have V_b1_35 : own_Ary Z h35 b1 .int 37 (own_set (own_set (own_set (own_set (own_set (own_set (own_set (own_set (own_set (own_set (own_set (own_set (own_set (own_set (own_set (own_set (own_set (own_set (own_set (own_set (own_set (own_set (own_set (own_set (own_set (own_set (own_set (own_set (own_set (own_set (own_set (own_set (own_set (own_set (fun _ => (.int (0 : Int32))) 0 (.int (45 : Int32))) 1 (.int (48 : Int32))) 2 (.int (57 : Int32))) 3 (.int (65 : Int32))) 4 (.int (90 : Int32))) 5 (.int (95 : Int32))) 6 (.int (97 : Int32))) 7 (.int (122 : Int32))) 8 (.int (183 : Int32))) 9 (.int (192 : Int32))) 10 (.int (214 : Int32))) 11 (.int (216 : Int32))) 12 (.int (246 : Int32))) 13 (.int (248 : Int32))) 14 (.int (767 : Int32))) 15 (.int (768 : Int32))) 16 (.int (879 : Int32))) 17 (.int (880 : Int32))) 18 (.int (893 : Int32))) 19 (.int (895 : Int32))) 20 (.int (8191 : Int32))) 21 (.int (8204 : Int32))) 22 (.int (8205 : Int32))) 23 (.int (8255 : Int32))) 24 (.int (8256 : Int32))) 25 (.int (8304 : Int32))) 26 (.int (8591 : Int32))) 27 (.int (11264 : Int32))) 28 (.int (12271 : Int32))) 29 (.int (12289 : Int32))) 30 (.int (55295 : Int32))) 31 (.int (63744 : Int32))) 32 (.int (64975 : Int32))) 33 (.int (65008 : Int32))) := own_Ary.set Ar35 S35 G35 W35
  show own_Go p e below s _ _ _ (T35.setTop (mkF m 224 #[.val (.int p0), .val (.int p1), .val (.int p2), .unset, .unset] [(.ref b1)]))
  refine own_go (fun t_ kt_ => XS.dup X35g.here hx rfl (hb hby at_224) rfl rfl kt_) ?_
  show own_Go p e below s _ _ _ (T35.setTop (mkF m 225 #[.val (.int p0), .val (.int p1), .val (.int p2), .unset, .unset] [(.ref b1), (.ref b1)]))
  refine own_go (fun t_ kt_ => XS.bipush X35g.here hx rfl (hb hby at_225) kt_) ?_
  show own_Go p e below s _ _ _ (T35.setTop (mkF m 227 #[.val (.int p0), .val (.int p1), .val (.int p2), .unset, .unset] [(.int (34 : Int32)), (.ref b1), (.ref b1)]))
  refine own_go (fun t_ kt_ => X35g.ldcInt hx hown (mvT hZ (hw _ (List.mem_of_getElem? (i := 5) rfl))) (g := (mkF m 227 #[.val (.int p0), .val (.int p1), .val (.int p2), .unset, .unset] [(.int (34 : Int32)), (.ref b1), (.ref b1)])) rfl (hb hby at_227) _ kt_) ?_
  show own_Go p e below s _ _ _ (T35.setTop (mkF m 229 #[.val (.int p0), .val (.int p1), .val (.int p2), .unset, .unset] [(.int (65533 : Int32)), (.int (34 : Int32)), (.ref b1), (.ref b1)]))
  obtain ⟨c36, Ar36, S36, G36⟩ := id V_b1_35
  obtain ⟨T36, h36, X36, e36, W36, st36⟩ := stI X35g hx hZ e35 Ar36 (j := (34 : Int32)) (own_in (i := 34) S36 (by decide) (by decide)) (g := (mkF m 229 #[.val (.int p0), .val (.int p1), .val (.int p2), .unset, .unset] [(.int (65533 : Int32)), (.int (34 : Int32)), (.ref b1), (.ref b1)])) rfl rfl (hb hby at_229)
  rw [own_cl (j := (34 : Int32)) (i := 34) (by decide)] at W36 X36
  refine own_go (fun t_ kt_ => st36 _ kt_) ?_
  have N36 := Fr.snoc X36 N35g gt_b1
  obtain ⟨lo36, X36g, N36g⟩ : ∃ lo, Stand p l e room_1 s m #[(.int p0), (.int p1), (.int p2)] below meth c T36 lo 1 37 ∧ Fr n0 lo := ⟨_, X36, N36⟩
  have ZZ_36 : n0 ≤ h36.size := Nat.le_trans ZZ_35 (Nat.le_of_eq W36.size.symm)
  have V_b1_36 : own_Ary Z h36 b1 .int 37 (own_set (own_set (own_set (own_set (own_set (own_set (own_set (own_set (own_set (own_set (own_set (own_set (own_set (own_set (own_set (own_set (own_set (own_set (own_set (own_set (own_set (own_set (own_set (own_set (own_set (own_set (own_set (own_set (own_set (own_set (own_set (own_set (own_set (own_set (own_set (fun _ => (.int (0 : Int32))) 0 (.int (45 : Int32))) 1 (.int (48 : Int32))) 2 (.int (57 : Int32))) 3 (.int (65 : Int32))) 4 (.int (90 : Int32))) 5 (.int (95 : Int32))) 6 (.int (97 : Int32))) 7 (.int (122 : Int32))) 8 (.int (183 : Int32))) 9 (.int (192 : Int32))) 10 (.int (214 : Int32))) 11 (.int (216 : Int32))) 12 (.int (246 : Int32))) 13 (.int (248 : Int32))) 14 (.int (767 : Int32))) 15 (.int (768 : Int32))) 16 (.int (879 : Int32))) 17 (.int (880 : Int32))) 18 (.int (893 : Int32))) 19 (.int (895 : Int32))) 20 (.int (8191 : Int32))) 21 (.int (8204 : Int32))) 22 (.int (8205 : Int32))) 23 (.int (8255 : Int32))) 24 (.int (8256 : Int32))) 25 (.int (8304 : Int32))) 26 (.int (8591 : Int32))) 27 (.int (11264 : Int32))) 28 (.int (12271 : Int32))) 29 (.int (12289 : Int32))) 30 (.int (55295 : Int32))) 31 (.int (63744 : Int32))) 32 (.int (64975 : Int32))) 33 (.int (65008 : Int32))) 34 (.int (65533 : Int32))) := own_Ary.set Ar36 S36 G36 W36
  show own_Go p e below s _ _ _ (T36.setTop (mkF m 230 #[.val (.int p0), .val (.int p1), .val (.int p2), .unset, .unset] [(.ref b1)]))
  refine own_go (fun t_ kt_ => XS.dup X36g.here hx rfl (hb hby at_230) rfl rfl kt_) ?_
  show own_Go p e below s _ _ _ (T36.setTop (mkF m 231 #[.val (.int p0), .val (.int p1), .val (.int p2), .unset, .unset] [(.ref b1), (.ref b1)]))
  refine own_go (fun t_ kt_ => XS.bipush X36g.here hx rfl (hb hby at_231) kt_) ?_
  show own_Go p e below s _ _ _ (T36.setTop (mkF m 233 #[.val (.int p0), .val (.int p1), .val (.int p2), .unset, .unset] [(.int (35 : Int32)), (.ref b1), (.ref b1)]))
  refine own_go (fun t_ kt_ => X36g.ldcInt hx hown (mvT hZ (hw _ (List.mem_of_getElem? (i := 6) rfl))) (g := (mkF m 233 #[.val (.int p0), .val (.int p1), .val (.int p2), .unset, .unset] [(.int (35 : Int32)), (.ref b1), (.ref b1)])) rfl (hb hby at_233) _ kt_) ?_
  show own_Go p e below s _ _ _ (T36.setTop (mkF m 235 #[.val (.int p0), .val (.int p1), .val (.int p2), .unset, .unset] [(.int (65536 : Int32)), (.int (35 : Int32)), (.ref b1), (.ref b1)]))
  obtain ⟨c37, Ar37, S37, G37⟩ := id V_b1_36
  obtain ⟨T37, h37, X37, e37, W37, st37⟩ := stI X36g hx hZ e36 Ar37 (j := (35 : Int32)) (own_in (i := 35) S37 (by decide) (by decide)) (g := (mkF m 235 #[.val (.int p0), .val (.int p1), .val (.int p2), .unset, .unset] [(.int (65536 : Int32)), (.int (35 : Int32)), (.ref b1), (.ref b1)])) rfl rfl (hb hby at_235)
  rw [own_cl (j := (35 : Int32)) (i := 35) (by decide)] at W37 X37
  refine own_go (fun t_ kt_ => st37 _ kt_) ?_
  have N37 := Fr.snoc X37 N36g gt_b1
  obtain ⟨lo37, X37g, N37g⟩ : ∃ lo, Stand p l e room_1 s m #[(.int p0), (.int p1), (.int p2)] below meth c T37 lo 1 37 ∧ Fr n0 lo := ⟨_, X37, N37⟩
  have ZZ_37 : n0 ≤ h37.size := Nat.le_trans ZZ_36 (Nat.le_of_eq W37.size.symm)
  have V_b1_37 : own_Ary Z h37 b1 .int 37 (own_set (own_set (own_set (own_set (own_set (own_set (own_set (own_set (own_set (own_set (own_set (own_set (own_set (own_set (own_set (own_set (own_set (own_set (own_set (own_set (own_set (own_set (own_set (own_set (own_set (own_set (own_set (own_set (own_set (own_set (own_set (own_set (own_set (own_set (own_set (own_set (fun _ => (.int (0 : Int32))) 0 (.int (45 : Int32))) 1 (.int (48 : Int32))) 2 (.int (57 : Int32))) 3 (.int (65 : Int32))) 4 (.int (90 : Int32))) 5 (.int (95 : Int32))) 6 (.int (97 : Int32))) 7 (.int (122 : Int32))) 8 (.int (183 : Int32))) 9 (.int (192 : Int32))) 10 (.int (214 : Int32))) 11 (.int (216 : Int32))) 12 (.int (246 : Int32))) 13 (.int (248 : Int32))) 14 (.int (767 : Int32))) 15 (.int (768 : Int32))) 16 (.int (879 : Int32))) 17 (.int (880 : Int32))) 18 (.int (893 : Int32))) 19 (.int (895 : Int32))) 20 (.int (8191 : Int32))) 21 (.int (8204 : Int32))) 22 (.int (8205 : Int32))) 23 (.int (8255 : Int32))) 24 (.int (8256 : Int32))) 25 (.int (8304 : Int32))) 26 (.int (8591 : Int32))) 27 (.int (11264 : Int32))) 28 (.int (12271 : Int32))) 29 (.int (12289 : Int32))) 30 (.int (55295 : Int32))) 31 (.int (63744 : Int32))) 32 (.int (64975 : Int32))) 33 (.int (65008 : Int32))) 34 (.int (65533 : Int32))) 35 (.int (65536 : Int32))) := own_Ary.set Ar37 S37 G37 W37
  show own_Go p e below s _ _ _ (T37.setTop (mkF m 236 #[.val (.int p0), .val (.int p1), .val (.int p2), .unset, .unset] [(.ref b1)]))
  refine own_go (fun t_ kt_ => XS.dup X37g.here hx rfl (hb hby at_236) rfl rfl kt_) ?_
  show own_Go p e below s _ _ _ (T37.setTop (mkF m 237 #[.val (.int p0), .val (.int p1), .val (.int p2), .unset, .unset] [(.ref b1), (.ref b1)]))
  refine own_go (fun t_ kt_ => XS.bipush X37g.here hx rfl (hb hby at_237) kt_) ?_
  show own_Go p e below s _ _ _ (T37.setTop (mkF m 239 #[.val (.int p0), .val (.int p1), .val (.int p2), .unset, .unset] [(.int (36 : Int32)), (.ref b1), (.ref b1)]))
  refine own_go (fun t_ kt_ => X37g.ldcInt hx hown (mvT hZ (hw _ (List.mem_of_getElem? (i := 7) rfl))) (g := (mkF m 239 #[.val (.int p0), .val (.int p1), .val (.int p2), .unset, .unset] [(.int (36 : Int32)), (.ref b1), (.ref b1)])) rfl (hb hby at_239) _ kt_) ?_
  show own_Go p e below s _ _ _ (T37.setTop (mkF m 241 #[.val (.int p0), .val (.int p1), .val (.int p2), .unset, .unset] [(.int (983039 : Int32)), (.int (36 : Int32)), (.ref b1), (.ref b1)]))
  obtain ⟨c38, Ar38, S38, G38⟩ := id V_b1_37
  obtain ⟨T38, h38, X38, e38, W38, st38⟩ := stI X37g hx hZ e37 Ar38 (j := (36 : Int32)) (own_in (i := 36) S38 (by decide) (by decide)) (g := (mkF m 241 #[.val (.int p0), .val (.int p1), .val (.int p2), .unset, .unset] [(.int (983039 : Int32)), (.int (36 : Int32)), (.ref b1), (.ref b1)])) rfl rfl (hb hby at_241)
  rw [own_cl (j := (36 : Int32)) (i := 36) (by decide)] at W38 X38
  refine own_go (fun t_ kt_ => st38 _ kt_) ?_
  have N38 := Fr.snoc X38 N37g gt_b1
  obtain ⟨lo38, X38g, N38g⟩ : ∃ lo, Stand p l e room_1 s m #[(.int p0), (.int p1), (.int p2)] below meth c T38 lo 1 37 ∧ Fr n0 lo := ⟨_, X38, N38⟩
  have ZZ_38 : n0 ≤ h38.size := Nat.le_trans ZZ_37 (Nat.le_of_eq W38.size.symm)
  have V_b1_38 : own_Ary Z h38 b1 .int 37 (own_set (own_set (own_set (own_set (own_set (own_set (own_set (own_set (own_set (own_set (own_set (own_set (own_set (own_set (own_set (own_set (own_set (own_set (own_set (own_set (own_set (own_set (own_set (own_set (own_set (own_set (own_set (own_set (own_set (own_set (own_set (own_set (own_set (own_set (own_set (own_set (own_set (fun _ => (.int (0 : Int32))) 0 (.int (45 : Int32))) 1 (.int (48 : Int32))) 2 (.int (57 : Int32))) 3 (.int (65 : Int32))) 4 (.int (90 : Int32))) 5 (.int (95 : Int32))) 6 (.int (97 : Int32))) 7 (.int (122 : Int32))) 8 (.int (183 : Int32))) 9 (.int (192 : Int32))) 10 (.int (214 : Int32))) 11 (.int (216 : Int32))) 12 (.int (246 : Int32))) 13 (.int (248 : Int32))) 14 (.int (767 : Int32))) 15 (.int (768 : Int32))) 16 (.int (879 : Int32))) 17 (.int (880 : Int32))) 18 (.int (893 : Int32))) 19 (.int (895 : Int32))) 20 (.int (8191 : Int32))) 21 (.int (8204 : Int32))) 22 (.int (8205 : Int32))) 23 (.int (8255 : Int32))) 24 (.int (8256 : Int32))) 25 (.int (8304 : Int32))) 26 (.int (8591 : Int32))) 27 (.int (11264 : Int32))) 28 (.int (12271 : Int32))) 29 (.int (12289 : Int32))) 30 (.int (55295 : Int32))) 31 (.int (63744 : Int32))) 32 (.int (64975 : Int32))) 33 (.int (65008 : Int32))) 34 (.int (65533 : Int32))) 35 (.int (65536 : Int32))) 36 (.int (983039 : Int32))) := own_Ary.set Ar38 S38 G38 W38
  show own_Go p e below s _ _ _ (T38.setTop (mkF m 242 #[.val (.int p0), .val (.int p1), .val (.int p2), .unset, .unset] [(.ref b1)]))
  have hI : own_is (own_set (own_set (own_set (own_set (own_set (own_set (own_set (own_set (own_set (own_set (own_set (own_set (own_set (own_set (own_set (own_set (own_set (own_set (own_set (own_set (own_set (own_set (own_set (own_set (own_set (own_set (own_set (own_set (own_set (own_set (own_set (own_set (own_set (own_set (own_set (own_set (own_set (fun _ => (.int (0 : Int32))) 0 (.int (45 : Int32))) 1 (.int (48 : Int32))) 2 (.int (57 : Int32))) 3 (.int (65 : Int32))) 4 (.int (90 : Int32))) 5 (.int (95 : Int32))) 6 (.int (97 : Int32))) 7 (.int (122 : Int32))) 8 (.int (183 : Int32))) 9 (.int (192 : Int32))) 10 (.int (214 : Int32))) 11 (.int (216 : Int32))) 12 (.int (246 : Int32))) 13 (.int (248 : Int32))) 14 (.int (767 : Int32))) 15 (.int (768 : Int32))) 16 (.int (879 : Int32))) 17 (.int (880 : Int32))) 18 (.int (893 : Int32))) 19 (.int (895 : Int32))) 20 (.int (8191 : Int32))) 21 (.int (8204 : Int32))) 22 (.int (8205 : Int32))) 23 (.int (8255 : Int32))) 24 (.int (8256 : Int32))) 25 (.int (8304 : Int32))) 26 (.int (8591 : Int32))) 27 (.int (11264 : Int32))) 28 (.int (12271 : Int32))) 29 (.int (12289 : Int32))) 30 (.int (55295 : Int32))) 31 (.int (63744 : Int32))) 32 (.int (64975 : Int32))) 33 (.int (65008 : Int32))) 34 (.int (65533 : Int32))) 35 (.int (65536 : Int32))) 36 (.int (983039 : Int32))) := own_is1 (own_is1 (own_is1 (own_is1 (own_is1 (own_is1 (own_is1 (own_is1 (own_is1 (own_is1 (own_is1 (own_is1 (own_is1 (own_is1 (own_is1 (own_is1 (own_is1 (own_is1 (own_is1 (own_is1 (own_is1 (own_is1 (own_is1 (own_is1 (own_is1 (own_is1 (own_is1 (own_is1 (own_is1 (own_is1 (own_is1 (own_is1 (own_is1 (own_is1 (own_is1 (own_is1 (own_is1 (own_is0)))))))))))))))))))))))))))))))))))))
  refine own_go (fun t_ kt_ => XS.astoreN X38g.here hx rfl (hb hby at_242) rfl rfl (l' := #[.val (.int p0), .val (.int p1), .val (.int p2), .val (.ref b1), .unset]) rfl kt_) ?_
  show own_Go p e below s _ _ _ (T38.setTop (mkF m 243 #[.val (.int p0), .val (.int p1), .val (.int p2), .val (.ref b1), .unset] []))
  refine own_go (fun t_ kt_ => XS.aloadN X38g.here hx rfl (hb hby at_243) rfl rfl kt_) ?_
  show own_Go p e below s _ _ _ (T38.setTop (mkF m 244 #[.val (.int p0), .val (.int p1), .val (.int p2), .val (.ref b1), .unset] [(.ref b1)]))
  refine own_go (fun t_ kt_ => XS.iloadN X38g.here hx rfl (hb hby at_244) rfl kt_) ?_
  show own_Go p e below s _ _ _ (T38.setTop (mkF m 245 #[.val (.int p0), .val (.int p1), .val (.int p2), .val (.ref b1), .unset] [(.int p1), (.ref b1)]))
  refine own_go (fun t_ kt_ => X38g.ldcInt hx hown (mvT hZ (hw _ (List.mem_of_getElem? (i := 8) rfl))) (g := (mkF m 245 #[.val (.int p0), .val (.int p1), .val (.int p2), .val (.ref b1), .unset] [(.int p1), (.ref b1)])) rfl (hb hby at_245) _ kt_) ?_
  show own_Go p e below s _ _ _ (T38.setTop (mkF m 247 #[.val (.int p0), .val (.int p1), .val (.int p2), .val (.ref b1), .unset] [(.int (2147483647 : Int32)), (.int p1), (.ref b1)]))
  refine own_go (fun t_ kt_ => XS.iand X38g.here hx rfl (hb hby at_247) rfl kt_) ?_
  show own_Go p e below s _ _ _ (T38.setTop (mkF m 248 #[.val (.int p0), .val (.int p1), .val (.int p2), .val (.ref b1), .unset] [(.int (p1 &&& (2147483647 : Int32))), (.ref b1)]))
  refine own_go (fun t_ kt_ => XS.aloadN X38g.here hx rfl (hb hby at_248) rfl rfl kt_) ?_
  show own_Go p e below s _ _ _ (T38.setTop (mkF m 249 #[.val (.int p0), .val (.int p1), .val (.int p2), .val (.ref b1), .unset] [(.ref b1), (.int (p1 &&& (2147483647 : Int32))), (.ref b1)]))
  obtain ⟨c39, Ar39, S39, G39⟩ := id V_b1_38
  have q39 : c39.slots.size.toInt32 = (37 : Int32) := (congrArg Nat.toInt32 S39).trans (by decide)
  refine own_go (fun t_ kt_ => X38g.arraylength hx (by rw [e38]; exact Ar39.1) (State.isArrayOf_alike hZ.alike Ar39.2.1) (g := (mkF m 249 #[.val (.int p0), .val (.int p1), .val (.int p2), .val (.ref b1), .unset] [(.ref b1), (.int (p1 &&& (2147483647 : Int32))), (.ref b1)])) rfl rfl (hb hby at_249) _ (by rw [q39]; exact kt_)) ?_
  show own_Go p e below s _ _ _ (T38.setTop (mkF m 250 #[.val (.int p0), .val (.int p1), .val (.int p2), .val (.ref b1), .unset] [(.int (37 : Int32)), (.int (p1 &&& (2147483647 : Int32))), (.ref b1)]))
  refine own_go (fun t_ kt_ => iremM X38g hx rfl (hb hby at_250) rfl (by decide) kt_) ?_
  show own_Go p e below s _ _ _ (T38.setTop (mkF m 251 #[.val (.int p0), .val (.int p1), .val (.int p2), .val (.ref b1), .unset] [(.int ((p1 &&& (2147483647 : Int32)) % (37 : Int32))), (.ref b1)]))
  obtain ⟨kk, hk, hkl⟩ : ∃ kk : Nat, (((p1 &&& (2147483647 : Int32)) % (37 : Int32))).toInt = (kk : Int) ∧ kk < 37 := own_kk p1
  obtain ⟨bv, hbv⟩ := hI kk
  obtain ⟨c40, Ar40, S40, G40⟩ := id V_b1_38
  have q40 : c40.slots[(((p1 &&& (2147483647 : Int32)) % (37 : Int32))).toNatClampNeg]? = some (.int bv) := by rw [own_cl (j := ((p1 &&& (2147483647 : Int32)) % (37 : Int32))) (i := kk) hk]; exact (G40 _ hkl).trans (congrArg some (hbv))
  refine own_go (fun t_ kt_ => X38g.iaload hx (j := ((p1 &&& (2147483647 : Int32)) % (37 : Int32))) (v := (.int bv)) (by rw [e38]; exact Ar40.1) (State.isArrayOf_alike hZ.alike Ar40.2.1) Ar40.2.2 (own_in (i := kk) S40 hk hkl) q40 (g := (mkF m 251 #[.val (.int p0), .val (.int p1), .val (.int p2), .val (.ref b1), .unset] [(.int ((p1 &&& (2147483647 : Int32)) % (37 : Int32))), (.ref b1)])) rfl rfl (hb hby at_251) _ kt_) ?_
  show own_Go p e below s _ _ _ (T38.setTop (mkF m 252 #[.val (.int p0), .val (.int p1), .val (.int p2), .val (.ref b1), .unset] [(.int bv)]))
  refine own_go (fun t_ kt_ => XS.iloadN X38g.here hx rfl (hb hby at_252) rfl kt_) ?_
  show own_Go p e below s _ _ _ (T38.setTop (mkF m 253 #[.val (.int p0), .val (.int p1), .val (.int p2), .val (.ref b1), .unset] [(.int p2), (.int bv)]))
  refine own_go (fun t_ kt_ => XS.iconst X38g.here hx rfl (hb hby at_253) kt_) ?_
  show own_Go p e below s _ _ _ (T38.setTop (mkF m 254 #[.val (.int p0), .val (.int p1), .val (.int p2), .val (.ref b1), .unset] [(.int (3 : Int32)), (.int p2), (.int bv)]))
  refine own_go (fun t_ kt_ => XS.iand X38g.here hx rfl (hb hby at_254) rfl kt_) ?_
  show own_Go p e below s _ _ _ (T38.setTop (mkF m 255 #[.val (.int p0), .val (.int p1), .val (.int p2), .val (.ref b1), .unset] [(.int (p2 &&& (3 : Int32))), (.int bv)]))
  refine own_go (fun t_ kt_ => XS.iadd X38g.here hx rfl (hb hby at_255) rfl kt_) ?_
  show own_Go p e below s _ _ _ (T38.setTop (mkF m 256 #[.val (.int p0), .val (.int p1), .val (.int p2), .val (.ref b1), .unset] [(.int (bv + (p2 &&& (3 : Int32))))]))
  refine own_go (fun t_ kt_ => XS.iconst X38g.here hx rfl (hb hby at_256) kt_) ?_
  show own_Go p e below s _ _ _ (T38.setTop (mkF m 257 #[.val (.int p0), .val (.int p1), .val (.int p2), .val (.ref b1), .unset] [(.int (1 : Int32)), (.int (bv + (p2 &&& (3 : Int32))))]))
  refine own_go (fun t_ kt_ => XS.isub X38g.here hx rfl (hb hby at_257) rfl kt_) ?_
  show own_Go p e below s _ _ _ (T38.setTop (mkF m 258 #[.val (.int p0), .val (.int p1), .val (.int p2), .val (.ref b1), .unset] [(.int ((bv + (p2 &&& (3 : Int32))) - (1 : Int32)))]))
  refine own_go (fun t_ kt_ => XS.istore X38g.here hx rfl (hb hby at_258) rfl (l' := #[.val (.int p0), .val (.int p1), .val (.int p2), .val (.ref b1), .val (.int ((bv + (p2 &&& (3 : Int32))) - (1 : Int32)))]) rfl kt_) ?_
  show own_Go p e below s _ _ _ (T38.setTop (mkF m 260 #[.val (.int p0), .val (.int p1), .val (.int p2), .val (.ref b1), .val (.int ((bv + (p2 &&& (3 : Int32))) - (1 : Int32)))] []))
  obtain ⟨bb, hbb⟩ : ∃ z, z = ((bv + (p2 &&& (3 : Int32))) - (1 : Int32)) := ⟨_, rfl⟩
  rw [← hbb]
  show own_Go p e below s _ _ _ (T38.setTop (mkF m 260 #[.val (.int p0), .val (.int p1), .val (.int p2), .val (.ref b1), .val (.int bb)] []))
  refine own_go (fun t_ kt_ => XS.iloadN X38g.here hx rfl (hb hby at_260) rfl kt_) ?_
  show own_Go p e below s _ _ _ (T38.setTop (mkF m 261 #[.val (.int p0), .val (.int p1), .val (.int p2), .val (.ref b1), .val (.int bb)] [(.int p0)]))
  obtain ⟨_, _, ⟨T41, L41, k41, n41⟩, -, X41, ⟨Lc41, hQ41, l41, y41, z41⟩, st41⟩ := Jvm.LawKit.callS X38g hx (y := (⟨"com/example/provfold/provfold/QualifiedName", "isNameCharacter", "(I)Z"⟩ : MethodName)) hown (mvT hZ (hw _ (List.mem_of_getElem? (i := 9) rfl))) (mvT hZ (hw _ (List.mem_of_getElem? (i := 10) rfl))) (mvT hZ (hw _ (List.mem_of_getElem? (i := 11) rfl))) (mvT hZ (hw _ (List.mem_of_getElem? (i := 12) rfl))) (by decide) (backOf (W := 0) (rm1 l Z a0 hw [] (p0) h38 n0 ZZ_38 ) hZ (hw _ (List.mem_of_getElem? (i := 12) rfl)) (hw _ (List.mem_of_getElem? (i := 11) rfl)) (by decide) (by decide)) (g := (mkF m 261 #[.val (.int p0), .val (.int p1), .val (.int p2), .val (.ref b1), .val (.int bb)] [(.int p0)])) rfl (by rw [hml]; rfl) (argsL := [(.int p0)]) (rest := []) (lenOf pd_0 rfl) rfl (by show 2 * 0 + _ ≤ _; exact Nat.le_of_eq rfl) (hb hby at_261) (fun _ _ => ⟨rfl, e38, (by decide : 1 + 0 ≤ _), (by decide : 37 + 0 ≤ _)⟩)
  dsimp only [Pt.U, Pt.locs, Pt.cells, Pt.slots] at X41 l41 y41 z41 st41 hQ41
  subst l41 y41 z41
  obtain ⟨rfl, Nq41, eh41⟩ := hQ41
  have N41 := Fr.app N38g Nq41
  refine own_go (fun t_ kt_ => st41 _ kt_) ?_
  obtain ⟨lo41, X41g, N41g⟩ : ∃ lo, Stand p l e room_1 s m #[(.int p0), (.int p1), (.int p2)] below meth c T41 lo 1 37 ∧ Fr n0 lo := ⟨_, X41, N41⟩
  have e41 : T41.heap = h38 := eh41
  show own_Go p e below s _ _ _ (T41.setTop (mkF m 264 #[.val (.int p0), .val (.int p1), .val (.int p2), .val (.ref b1), .val (.int bb)] [(.int (own_nm (p0).toInt))]))
  refine own_go (fun t_ kt_ => XS.iloadN X41g.here hx rfl (hb hby at_264) rfl kt_) ?_
  show own_Go p e below s _ _ _ (T41.setTop (mkF m 265 #[.val (.int p0), .val (.int p1), .val (.int p2), .val (.ref b1), .val (.int bb)] [(.int p0), (.int (own_nm (p0).toInt))]))
  obtain ⟨_, _, ⟨T42, L42, k42, n42⟩, -, X42, ⟨Lc42, hQ42, l42, y42, z42⟩, st42⟩ := Jvm.LawKit.callS X41g hx (y := (⟨"com/example/provfold/provfold/QualifiedNameIsNameCharacterPinLaw", "ref", "(I)Z"⟩ : MethodName)) hown (mvT hZ (hw _ (List.mem_of_getElem? (i := 19) rfl))) (mvT hZ (hw _ (List.mem_of_getElem? (i := 20) rfl))) (mvT hZ (hw _ (List.mem_of_getElem? (i := 21) rfl))) (mvT hZ (hw _ (List.mem_of_getElem? (i := 22) rfl))) (by decide) (backOf (W := 1) (rm3 l Z a0 hw [] (p0) h38 n0 ZZ_38 ) hZ (hw _ (List.mem_of_getElem? (i := 22) rfl)) (hw _ (List.mem_of_getElem? (i := 21) rfl)) (by decide) (by decide)) (g := (mkF m 265 #[.val (.int p0), .val (.int p1), .val (.int p2), .val (.ref b1), .val (.int bb)] [(.int p0), (.int (own_nm (p0).toInt))])) rfl (by rw [hml]; rfl) (argsL := [(.int p0)]) (rest := [(.int (own_nm (p0).toInt))]) (lenOf pd_0 rfl) rfl (by show 2 * 0 + _ ≤ _; exact Nat.le_of_eq rfl) (hb hby at_265) (fun _ _ => ⟨rfl, e41, (by decide : 1 + 0 ≤ _), (by decide : 37 + 0 ≤ _)⟩)
  dsimp only [Pt.U, Pt.locs, Pt.cells, Pt.slots] at X42 l42 y42 z42 st42 hQ42
  subst l42 y42 z42
  obtain ⟨rfl, Nq42, eh42⟩ := hQ42
  have N42 := Fr.app N41g Nq42
  refine own_go (fun t_ kt_ => st42 _ kt_) ?_
  obtain ⟨lo42, X42g, N42g⟩ : ∃ lo, Stand p l e room_1 s m #[(.int p0), (.int p1), (.int p2)] below meth c T42 lo 1 37 ∧ Fr n0 lo := ⟨_, X42, N42⟩
  have e42 : T42.heap = h38 := eh42
  show own_Go p e below s _ _ _ (T42.setTop (mkF m 268 #[.val (.int p0), .val (.int p1), .val (.int p2), .val (.ref b1), .val (.int bb)] [(.int (own_nm (p0).toInt)), (.int (own_nm (p0).toInt))]))
  refine own_go (fun t_ kt_ => XS.icmpNo X42g.here hx rfl (hb hby at_268) rfl (teq rfl).2 kt_) ?_
  show own_Go p e below s _ _ _ (T42.setTop (mkF m 271 #[.val (.int p0), .val (.int p1), .val (.int p2), .val (.ref b1), .val (.int bb)] []))
  refine own_go (fun t_ kt_ => XS.iload X42g.here hx rfl (hb hby at_271) rfl kt_) ?_
  show own_Go p e below s _ _ _ (T42.setTop (mkF m 273 #[.val (.int p0), .val (.int p1), .val (.int p2), .val (.ref b1), .val (.int bb)] [(.int bb)]))
  obtain ⟨_, _, ⟨T43, L43, k43, n43⟩, -, X43, ⟨Lc43, hQ43, l43, y43, z43⟩, st43⟩ := Jvm.LawKit.callS X42g hx (y := (⟨"com/example/provfold/provfold/QualifiedName", "isNameCharacter", "(I)Z"⟩ : MethodName)) hown (mvT hZ (hw _ (List.mem_of_getElem? (i := 9) rfl))) (mvT hZ (hw _ (List.mem_of_getElem? (i := 10) rfl))) (mvT hZ (hw _ (List.mem_of_getElem? (i := 11) rfl))) (mvT hZ (hw _ (List.mem_of_getElem? (i := 12) rfl))) (by decide) (backOf (W := 0) (rm1 l Z a0 hw [] (bb) h38 n0 ZZ_38 ) hZ (hw _ (List.mem_of_getElem? (i := 12) rfl)) (hw _ (List.mem_of_getElem? (i := 11) rfl)) (by decide) (by decide)) (g := (mkF m 273 #[.val (.int p0), .val (.int p1), .val (.int p2), .val (.ref b1), .val (.int bb)] [(.int bb)])) rfl (by rw [hml]; rfl) (argsL := [(.int bb)]) (rest := []) (lenOf pd_0 rfl) rfl (by show 2 * 0 + _ ≤ _; exact Nat.le_of_eq rfl) (hb hby at_273) (fun _ _ => ⟨rfl, e42, (by decide : 1 + 0 ≤ _), (by decide : 37 + 0 ≤ _)⟩)
  dsimp only [Pt.U, Pt.locs, Pt.cells, Pt.slots] at X43 l43 y43 z43 st43 hQ43
  subst l43 y43 z43
  obtain ⟨rfl, Nq43, eh43⟩ := hQ43
  have N43 := Fr.app N42g Nq43
  refine own_go (fun t_ kt_ => st43 _ kt_) ?_
  obtain ⟨lo43, X43g, N43g⟩ : ∃ lo, Stand p l e room_1 s m #[(.int p0), (.int p1), (.int p2)] below meth c T43 lo 1 37 ∧ Fr n0 lo := ⟨_, X43, N43⟩
  have e43 : T43.heap = h38 := eh43
  show own_Go p e below s _ _ _ (T43.setTop (mkF m 276 #[.val (.int p0), .val (.int p1), .val (.int p2), .val (.ref b1), .val (.int bb)] [(.int (own_nm (bb).toInt))]))
  refine own_go (fun t_ kt_ => XS.iload X43g.here hx rfl (hb hby at_276) rfl kt_) ?_
  show own_Go p e below s _ _ _ (T43.setTop (mkF m 278 #[.val (.int p0), .val (.int p1), .val (.int p2), .val (.ref b1), .val (.int bb)] [(.int bb), (.int (own_nm (bb).toInt))]))
  obtain ⟨_, _, ⟨T44, L44, k44, n44⟩, -, X44, ⟨Lc44, hQ44, l44, y44, z44⟩, st44⟩ := Jvm.LawKit.callS X43g hx (y := (⟨"com/example/provfold/provfold/QualifiedNameIsNameCharacterPinLaw", "ref", "(I)Z"⟩ : MethodName)) hown (mvT hZ (hw _ (List.mem_of_getElem? (i := 19) rfl))) (mvT hZ (hw _ (List.mem_of_getElem? (i := 20) rfl))) (mvT hZ (hw _ (List.mem_of_getElem? (i := 21) rfl))) (mvT hZ (hw _ (List.mem_of_getElem? (i := 22) rfl))) (by decide) (backOf (W := 1) (rm3 l Z a0 hw [] (bb) h38 n0 ZZ_38 ) hZ (hw _ (List.mem_of_getElem? (i := 22) rfl)) (hw _ (List.mem_of_getElem? (i := 21) rfl)) (by decide) (by decide)) (g := (mkF m 278 #[.val (.int p0), .val (.int p1), .val (.int p2), .val (.ref b1), .val (.int bb)] [(.int bb), (.int (own_nm (bb).toInt))])) rfl (by rw [hml]; rfl) (argsL := [(.int bb)]) (rest := [(.int (own_nm (bb).toInt))]) (lenOf pd_0 rfl) rfl (by show 2 * 0 + _ ≤ _; exact Nat.le_of_eq rfl) (hb hby at_278) (fun _ _ => ⟨rfl, e43, (by decide : 1 + 0 ≤ _), (by decide : 37 + 0 ≤ _)⟩)
  dsimp only [Pt.U, Pt.locs, Pt.cells, Pt.slots] at X44 l44 y44 z44 st44 hQ44
  subst l44 y44 z44
  obtain ⟨rfl, Nq44, eh44⟩ := hQ44
  have N44 := Fr.app N43g Nq44
  refine own_go (fun t_ kt_ => st44 _ kt_) ?_
  obtain ⟨lo44, X44g, N44g⟩ : ∃ lo, Stand p l e room_1 s m #[(.int p0), (.int p1), (.int p2)] below meth c T44 lo 1 37 ∧ Fr n0 lo := ⟨_, X44, N44⟩
  have e44 : T44.heap = h38 := eh44
  show own_Go p e below s _ _ _ (T44.setTop (mkF m 281 #[.val (.int p0), .val (.int p1), .val (.int p2), .val (.ref b1), .val (.int bb)] [(.int (own_nm (bb).toInt)), (.int (own_nm (bb).toInt))]))
  refine own_go (fun t_ kt_ => XS.icmpNo X44g.here hx rfl (hb hby at_281) rfl (teq rfl).2 kt_) ?_
  show own_Go p e below s _ _ _ (T44.setTop (mkF m 284 #[.val (.int p0), .val (.int p1), .val (.int p2), .val (.ref b1), .val (.int bb)] []))
  refine own_go (fun t_ kt_ => XS.iconst X44g.here hx rfl (hb hby at_284) kt_) ?_
  show own_Go p e below s _ _ _ (T44.setTop (mkF m 285 #[.val (.int p0), .val (.int p1), .val (.int p2), .val (.ref b1), .val (.int bb)] [(.int (1 : Int32))]))
  refine own_go (fun t_ kt_ => XS.goto X44g.here hx rfl (pc0 := 285) (pc' := 289) rfl (hb hby at_285) (by decide) (by decide) kt_) ?_
  show own_Go p e below s _ _ _ (T44.setTop (mkF m 289 #[.val (.int p0), .val (.int p1), .val (.int p2), .val (.ref b1), .val (.int bb)] [(.int (1 : Int32))]))
  refine own_ret X44g (v := some (.int (1 : Int32))) (fun h => by rw [hret] at h; cases h) hlk ?_ (by decide) (by decide) (fun fs hr => retN X44g hx (t := .boolean) hret (by simp) (hb hby at_289) hr)
  show Q0 Z p0 p1 p2 h0 n0 (some (.int (1 : Int32))) T44.heap _
  rw [e44]
  exact ⟨rfl, N44g⟩
set_option maxRecDepth 65536 in
set_option maxHeartbeats 40000000 in
theorem comes_1 {Post : Tables → Env → Array Value → State → Outcome → State → Prop} (hpost : ∀ tb e args s v u, (limb_1_1.after args s (.returned v) u = true ∧ limb_1_2.after args s (.returned v) u = true ∧ True) → FrameEnd s (.returned v) u (Jvm.fieldLocs frame_1_writes args s ++ Jvm.arrayLocs frame_1_arrays args s ++ Jvm.staticLocs frame_1_statics s) 16 192 → Post tb e args s (.returned v) u) :
    ArmFor flags0 classFile x code maxLocals ret World_1 tables_1 room_1 Calls_1 rest_1 Pre_1 Post := by
  intro l hfl _ _ p e ha hc hk s m args below hf hA hF happ hP
  obtain ⟨hcalls, hrest, hpre⟩ := hP
  obtain ⟨-, -, -, hnamed, -, -, -, hat⟩ := (Spec.applies_iff hf).mp happ
  obtain ⟨hg, hn⟩ := and_e (Cond.before_iff.mp (show (Jvm.Cond.and given_1 narrow_1).before args s = true from hpre))
  obtain ⟨g1, g2⟩ := and_e hg
  obtain ⟨g3, g4⟩ := and_e g2
  obtain ⟨g5, g6⟩ := and_e g4
  obtain ⟨w0, w1, w2, rfl⟩ : ∃ w0 w1 w2 : Value, args = #[w0, w1, w2] := by
    have hs : args.size = 3 := by simpa [Cond.value, given_1] using g1
    obtain ⟨L⟩ := args
    match L, hs with
    | [w0, w1, w2], _ => exact ⟨w0, w1, w2, rfl⟩
  have hw := fun d (hd : d ∈ tables_1) => atoms_spec (ws := Jvm.Cond.code x code maxLocals ret :: tables_1) hat d (List.mem_cons_of_mem _ hd)
  have hfit : Fit s := fun {y c} hc i hi => by
    obtain ⟨ha, rfl⟩ := Array.getElem?_eq_some_iff.mp hc
    have q := List.all_eq_true.mp ((Array.all_eq_true_iff_forall_mem.mp hF) _ (Array.getElem_mem ha)) i (List.mem_range.mpr hi)
    simpa [Array.getElem?_eq_getElem hi] using q
  obtain ⟨i0, ei0⟩ := is_v g3
  obtain rfl : w0 = (.int i0) := Option.some.inj ei0
  obtain ⟨i1, ei1⟩ := is_v g5
  obtain rfl : w1 = (.int i1) := Option.some.inj ei1
  obtain ⟨i2, ei2⟩ := is_v g6
  obtain rfl : w2 = (.int i2) := Option.some.inj ei2
  obtain ⟨n, o, h1, h2, h3, _, L, rfl, ⟨rfl, N⟩, hq⟩ := rm0 l s _ hw tables_1 i0 i1 i2  s.heap s.heap.size (Nat.le_refl _)  p e ha hc hk s m _ below hf ((Spec.applies_iff_loose hf).mp happ).1 ⟨rfl, State.Warmed39.refl s, rfl⟩ trivial
  refine ⟨n, _, h1, h2, h3, hpost _ _ _ _ _ _ ⟨Cond.after_iff.mpr rfl, Cond.after_iff.mpr (eq_i res_at (Term.int_eval (1)) rfl), trivial⟩ ⟨hq.1, hq.2.1, (hq.2.2.sift fun y hy => Or.inr (N y hy)).mono (by decide) (by decide)⟩⟩
theorem main_1_1 : Claimed_1_1 := comes_1 fun _ _ _ _ _ _ h hF => ⟨h.1, hF⟩
theorem main_1_2 : Claimed_1_2 := comes_1 fun _ _ _ _ _ _ h hF => ⟨h.2.1, hF⟩
end Jvm.Pilot.@@N@@
namespace Jvm.Pilot.@@N@@
open Jvm Jvm.ClassFile Sem Op Lib Jvm.Free Jvm.Stand Jvm.Pilot.@@N@@.Jvm.D
/-! MADE BY PROGRAM (witnessworld.py) out of the Statement's table words and the real class files: 10 classes; the members and pool entries that the words name. The judged class is class 1, her method 3. -/
namespace start1
open Jvm.ClassFile
def u (s : String) : CpInfo := .utf8 (stringToUtf16 s)
/-- a pool by its gaps: so many unusable entries, then the entry; so many at the end -/
def gap : Nat → List CpInfo → List CpInfo
  | 0, r => r
  | n + 1, r => .unusable :: gap n r
def poolList (es : List (Nat × CpInfo)) (last : Nat) : List CpInfo := es.foldr (fun e r => gap e.1 (e.2 :: r)) (gap last [])
def pool (es : List (Nat × CpInfo)) (last : Nat) : Array CpInfo := ⟨poolList es last⟩
def fileOf (pool : Array CpInfo) (this : Nat) (attrs : Array Attribute := #[]) (ms : Array MethodInfo := #[]) (fl : Nat := 33) (sup : Nat := 0) (ifs : Array Nat := #[]) (fds : Array FieldInfo := #[]) : ClassFile where
  minorVersion := 0
  majorVersion := 65
  constantPool := pool
  accessFlags := fl
  thisClass := this
  superClass := sup
  interfaces := ifs
  fields := fds
  methods := ms
  attributes := attrs
def plain (name : String) (sup : Option ClassId) : Class where
  name := name
  kind := .ordinary
  loader := none
  accessFlags := 33
  super := sup
  interfaces := #[]
  cf := none
  fields := #[]
  methods := #[]
  instanceTypes := #[]
  staticTypes := #[]
  resolved := #[]
  callSites := []
  init := .initialized
  statics := none
  mirror := none

def pool0 : Array CpInfo := pool [(5, u "<init>"), (0, u "()V"), (1, .class_ 10), (1, u "java/lang/Object")] 113

def k0m0 : Method := { name := "<init>", desc := "()V", sig := { parameters := [], returnType := none }, accessFlags := 1, code := none }
/-- java/lang/Object -/
def k0 : Class := { plain "java/lang/Object" none with
  accessFlags := 33
  interfaces := #[]
  cf := some (fileOf pool0 8 #[] #[{ accessFlags := 1, nameIndex := 5, descriptorIndex := 6, attributes := #[] }] 33 0 #[] #[])
  fields := #[]
  methods := #[k0m0]
  instanceTypes := #[]
  staticTypes := #[]
  resolved := Array.replicate 124 none
  statics := none }

def pool1 : Array CpInfo := pool [(2, .class_ 4), (1, u "java/lang/Object"), (0, u "<init>"), (0, u "()V"), (0, .methodref 8 9), (0, .class_ 10), (0, .nameAndType 11 12), (0, u "com/example/provfold/provfold/QualifiedNameIsNameCharacterPinLaw"), (0, u "in"), (0, u "(III)Z"), (0, .integer 65536), (0, .integer 55295), (0, .integer 63744), (0, .integer 64975), (0, .integer 65008), (0, .integer 65533), (0, .integer 983039), (0, .integer 2147483647), (0, .methodref 22 23), (0, .class_ 24), (0, .nameAndType 25 26), (0, u "com/example/provfold/provfold/QualifiedName"), (0, u "isNameCharacter"), (0, u "(I)Z"), (0, .methodref 8 28), (0, .nameAndType 29 26), (0, u "ref"), (3, u "law")] 4

def k1m0 : Method := { name := "<init>", desc := "()V", sig := { parameters := [], returnType := none }, accessFlags := 2, code := none }
def k1c1 : Code := { maxStack := 2, maxLocals := 3, code := method_2_code, exceptionTable := #[], attributes := #[] }
def k1m1 : Method := { name := "in", desc := "(III)Z", sig := { parameters := [.int, .int, .int], returnType := some .boolean }, accessFlags := 10, code := some k1c1 }
def k1c2 : Code := { maxStack := 3, maxLocals := 1, code := method_3_code, exceptionTable := #[], attributes := #[] }
def k1m2 : Method := { name := "ref", desc := "(I)Z", sig := { parameters := [.int], returnType := some .boolean }, accessFlags := 10, code := some k1c2 }
def k1c3 : Code := { maxStack := 4, maxLocals := 5, code := code, exceptionTable := #[], attributes := #[] }
def k1m3 : Method := { name := "law", desc := "(III)Z", sig := { parameters := [.int, .int, .int], returnType := some .boolean }, accessFlags := 9, code := some k1c3 }
/-- com/example/provfold/provfold/QualifiedNameIsNameCharacterPinLaw -/
def k1 : Class := { plain "com/example/provfold/provfold/QualifiedNameIsNameCharacterPinLaw" (some 0) with
  accessFlags := 49
  interfaces := #[]
  cf := some (fileOf pool1 8 #[] #[{ accessFlags := 2, nameIndex := 5, descriptorIndex := 6, attributes := #[] }, { accessFlags := 10, nameIndex := 11, descriptorIndex := 12, attributes := #[] }, { accessFlags := 10, nameIndex := 29, descriptorIndex := 26, attributes := #[] }, { accessFlags := 9, nameIndex := 33, descriptorIndex := 12, attributes := #[] }] 49 2 #[] #[])
  fields := #[]
  methods := #[k1m0, k1m1, k1m2, k1m3]
  instanceTypes := #[]
  staticTypes := #[]
  resolved := Array.replicate 38 none
  statics := none }

def pool2 : Array CpInfo := pool [(2, .class_ 4), (1, u "java/lang/Object"), (0, u "<init>"), (0, u "()V"), (0, .class_ 8), (0, u "java/lang/Record")] 13

def k2m0 : Method := { name := "<init>", desc := "()V", sig := { parameters := [], returnType := none }, accessFlags := 4, code := none }
/-- java/lang/Record -/
def k2 : Class := { plain "java/lang/Record" (some 0) with
  accessFlags := 1057
  interfaces := #[]
  cf := some (fileOf pool2 7 #[] #[{ accessFlags := 4, nameIndex := 5, descriptorIndex := 6, attributes := #[] }] 1057 2 #[] #[])
  fields := #[]
  methods := #[k2m0]
  instanceTypes := #[]
  staticTypes := #[]
  resolved := Array.replicate 22 none
  statics := none }

def pool3 : Array CpInfo := pool [(2, .class_ 4), (1, u "java/lang/Record"), (3, .class_ 10), (1, u "com/example/provfold/provfold/QualifiedName"), (0, u "name"), (0, u "Ljava/lang/String;"), (2, u "colon"), (0, u "I"), (52, .methodref 8 70), (0, .nameAndType 71 72), (0, u "isNameBase"), (0, u "(I)Z"), (2, u "isNameCharacter"), (20, u "ASCII_LOCAL_START"), (0, u "[Z"), (2, u "ASCII_LOCAL"), (0, .integer 55295), (0, .integer 63744), (0, .integer 64975), (0, .integer 65008), (0, .integer 65533), (0, .integer 65536), (0, .integer 983039), (15, u "ESCAPES"), (1, u "OTHERS")] 41

def k3c0 : Code := { maxStack := 2, maxLocals := 1, code := prog_38_method_10_code, exceptionTable := #[], attributes := #[] }
def k3m0 : Method := { name := "isNameBase", desc := "(I)Z", sig := { parameters := [.int], returnType := some .boolean }, accessFlags := 10, code := some k3c0 }
def k3c1 : Code := { maxStack := 2, maxLocals := 1, code := prog_38_method_11_code, exceptionTable := #[], attributes := #[] }
def k3m1 : Method := { name := "isNameCharacter", desc := "(I)Z", sig := { parameters := [.int], returnType := some .boolean }, accessFlags := 8, code := some k3c1 }
/-- com/example/provfold/provfold/QualifiedName -/
def k3 : Class := { plain "com/example/provfold/provfold/QualifiedName" (some 2) with
  accessFlags := 48
  interfaces := #[]
  cf := some (fileOf pool3 8 #[] #[{ accessFlags := 10, nameIndex := 71, descriptorIndex := 72, attributes := #[] }, { accessFlags := 8, nameIndex := 75, descriptorIndex := 72, attributes := #[] }] 48 2 #[] #[{ accessFlags := 18, nameIndex := 11, descriptorIndex := 12, attributes := #[] }, { accessFlags := 18, nameIndex := 15, descriptorIndex := 16, attributes := #[] }, { accessFlags := 26, nameIndex := 123, descriptorIndex := 12, attributes := #[] }, { accessFlags := 26, nameIndex := 125, descriptorIndex := 12, attributes := #[] }, { accessFlags := 26, nameIndex := 96, descriptorIndex := 97, attributes := #[] }, { accessFlags := 26, nameIndex := 100, descriptorIndex := 97, attributes := #[] }])
  fields := #[{ name := "name", type := (.object "java/lang/String"), accessFlags := 18, slot := 0, constantValue := 0 }, { name := "colon", type := .int, accessFlags := 18, slot := 1, constantValue := 0 }, { name := "ESCAPES", type := (.object "java/lang/String"), accessFlags := 26, slot := 0, constantValue := 0 }, { name := "OTHERS", type := (.object "java/lang/String"), accessFlags := 26, slot := 1, constantValue := 0 }, { name := "ASCII_LOCAL_START", type := (.array .boolean), accessFlags := 26, slot := 2, constantValue := 0 }, { name := "ASCII_LOCAL", type := (.array .boolean), accessFlags := 26, slot := 3, constantValue := 0 }]
  methods := #[k3m0, k3m1]
  instanceTypes := #[(.object "java/lang/String"), .int]
  staticTypes := #[(.object "java/lang/String"), (.object "java/lang/String"), (.array .boolean), (.array .boolean)]
  resolved := Array.replicate 167 none
  statics := none }

def pool4 : Array CpInfo := pool [(1, u "java/lang/Cloneable"), (0, .class_ 1), (0, u "java/lang/Object"), (0, .class_ 3)] 3

/-- java/lang/Cloneable -/
def k4 : Class := { plain "java/lang/Cloneable" (some 0) with
  accessFlags := 1537
  interfaces := #[]
  cf := some (fileOf pool4 2 #[] #[] 1537 4 #[] #[])
  fields := #[]
  methods := #[]
  instanceTypes := #[]
  staticTypes := #[]
  resolved := Array.replicate 8 none
  statics := none }

def pool5 : Array CpInfo := pool [(1, u "java/io/Serializable"), (0, .class_ 1), (0, u "java/lang/Object"), (0, .class_ 3)] 3

/-- java/io/Serializable -/
def k5 : Class := { plain "java/io/Serializable" (some 0) with
  accessFlags := 1537
  interfaces := #[]
  cf := some (fileOf pool5 2 #[] #[] 1537 4 #[] #[])
  fields := #[]
  methods := #[]
  instanceTypes := #[]
  staticTypes := #[]
  resolved := Array.replicate 8 none
  statics := none }

/-- the primitive byte -/
def k6 : Class := { plain "byte" none with kind := .primitive 'B', accessFlags := 0x411 }
/-- [B -/
def k7 : Class := { plain "[B" (some 0) with kind := .array 6 .byte, interfaces := #[4, 5], accessFlags := 1041 }

/-- the primitive int -/
def k8 : Class := { plain "int" none with kind := .primitive 'I', accessFlags := 0x411 }
/-- [I -/
def k9 : Class := { plain "[I" (some 0) with kind := .array 8 .int, interfaces := #[4, 5], accessFlags := 1041 }

def heap : Heap := #[]
def classes : Array Class := #[k0, k1, k2, k3, k4, k5, k6, k7, k8, k9]
def interned : List (Array UInt16 × Addr) := []
def slotsUsed : Nat := 0
def theMethod : MethodId := ⟨1, 3⟩
def args0 : Array Value := #[.int 5, .int 3, .int 2]
def aboutOver (below : List Frame) : State where
  vm := { classes := classes, interned := interned.toArray }
  heap := heap
  slotsUsed := slotsUsed
  threads := #[{ frames := .invoking theMethod args0 :: below }]
def below0 : List Frame := [.native { method := ⟨0, 0⟩, args := #[] }]
def about1 : State := aboutOver below0
def p0 : Program := .bare "" "" ""
def e0 : Env := launch0.env 0 0 0
theorem w_frames : about1.frames = Frame.invoking theMethod args0 :: below0 := rfl
set_option maxRecDepth 65536 in
theorem w_args : argsFit about1.vm theMethod args0 = true := by decide +kernel
set_option maxRecDepth 65536 in
theorem w_heap : heapFits about1 = true := by decide +kernel
set_option maxRecDepth 65536 in
theorem w_runnable : about1.curStatus? = some .runnable := by decide +kernel
set_option maxRecDepth 65536 in
theorem w_alone : about1.alone = true := by decide +kernel
set_option maxRecDepth 65536 in
theorem w_named : about1.methodNamed? x = some theMethod := by decide +kernel
set_option maxRecDepth 65536 in
theorem w_hears : about1.hears theMethod below0 = true := by decide +kernel
set_option maxRecDepth 65536 in
theorem w_ripe : about1.ripe theMethod args0 below0 = true := by decide +kernel
theorem w_running : about1.status = .running := rfl
set_option maxRecDepth 65536 in
theorem w_room : about1.hasRoom e0.platform room_1 = true :=
  launch0.hasRoom_least _ room_1 (by decide +kernel) (by decide +kernel) (by decide +kernel) (by decide +kernel) (by decide +kernel) (by decide +kernel)
theorem allAtoms_all (ts : List Jvm.Cond) (a : Array Jvm.Value) (st : Jvm.State) : (allAtoms ts).before a st = ts.all (fun c => c.before a st) := by
  induction ts with
  | nil => rfl
  | cons c t ih =>
    show (Jvm.Cond.and c (allAtoms t)).before a st = _
    rw [Jvm.Cond.before_and, ih, List.all_cons]
def words1 : List Jvm.Cond := Jvm.Cond.code x code maxLocals ret :: tables_1
/-- a 'code' word, met by the world's own term for the bytes: nothing is compared byte by byte -/
theorem code_word {y : MethodName} {bytes : ByteArray} {mx : Nat} {rt : Option FieldType} {a : Array Value} {s : State} {m : MethodId} {meth : Method} {c : Code} (h1 : s.methodNamed? y = some m) (h2 : s.vm.method? m = some meth) (h3 : meth.code = some c) (h4 : c.code = bytes)
    (h5 : (c.maxLocals == mx && c.exceptionTable.isEmpty && decide (c.maxStack ≤ mostOperands) && decide (meth.sig.returnType = rt) && !meth.locks && decide (parseMethodDescriptor y.desc = some meth.sig)) = true) : (Jvm.Cond.code y bytes mx rt).before a s = true := by
  simp only [Bool.and_eq_true, beq_iff_eq, Bool.not_eq_true', decide_eq_true_eq] at h5
  obtain ⟨⟨⟨⟨⟨g1, g2⟩, g3⟩, g4⟩, g5⟩, g6⟩ := h5
  simp [Cond.before, Cond.holds, Cond.value, h1, h2, h3, h4, g1, g2, g3, g4, g5, g6]
def isCode : Jvm.Cond → Bool
  | .code _ _ _ _ => true
  | _ => false
theorem all_split {L : List Jvm.Cond} {P : Jvm.Cond → Bool} (h1 : L.all (fun c => isCode c || P c) = true) (h2 : ∀ c ∈ L.filter isCode, P c = true) : L.all P = true := by
  refine List.all_eq_true.mpr fun c hc => ?_
  have h := List.all_eq_true.mp h1 c hc
  rcases Bool.eq_false_or_eq_true (isCode c) with hi | hi
  · exact h2 c (List.mem_filter.mpr ⟨hc, hi⟩)
  · simpa [hi] using h
set_option maxRecDepth 65536 in
theorem w_c0 : (Jvm.Cond.code x code maxLocals ret).before args0 about1 = true := code_word (m := ⟨1, 3⟩) (meth := k1m3) (c := k1c3) (by decide +kernel) rfl rfl rfl (by decide +kernel)
set_option maxRecDepth 65536 in
theorem w_c1 : (Jvm.Cond.code ({ cls := "com/example/provfold/provfold/QualifiedName", name := "isNameCharacter", desc := "(I)Z" } : Jvm.MethodName) prog_38_method_11_code (1 : Nat) (Option.some Jvm.ClassFile.FieldType.boolean)).before args0 about1 = true := code_word (m := ⟨3, 1⟩) (meth := k3m1) (c := k3c1) (by decide +kernel) rfl rfl rfl (by decide +kernel)
set_option maxRecDepth 65536 in
theorem w_c2 : (Jvm.Cond.code ({ cls := "com/example/provfold/provfold/QualifiedName", name := "isNameBase", desc := "(I)Z" } : Jvm.MethodName) prog_38_method_10_code (1 : Nat) (Option.some Jvm.ClassFile.FieldType.boolean)).before args0 about1 = true := code_word (m := ⟨3, 0⟩) (meth := k3m0) (c := k3c0) (by decide +kernel) rfl rfl rfl (by decide +kernel)
set_option maxRecDepth 65536 in
theorem w_c3 : (Jvm.Cond.code ({ cls := "com/example/provfold/provfold/QualifiedNameIsNameCharacterPinLaw", name := "ref", desc := "(I)Z" } : Jvm.MethodName) method_3_code (1 : Nat) (Option.some Jvm.ClassFile.FieldType.boolean)).before args0 about1 = true := code_word (m := ⟨1, 2⟩) (meth := k1m2) (c := k1c2) (by decide +kernel) rfl rfl rfl (by decide +kernel)
set_option maxRecDepth 65536 in
theorem w_c4 : (Jvm.Cond.code ({ cls := "com/example/provfold/provfold/QualifiedNameIsNameCharacterPinLaw", name := "in", desc := "(III)Z" } : Jvm.MethodName) method_2_code (3 : Nat) (Option.some Jvm.ClassFile.FieldType.boolean)).before args0 about1 = true := code_word (m := ⟨1, 1⟩) (meth := k1m1) (c := k1c1) (by decide +kernel) rfl rfl rfl (by decide +kernel)
def codes1 : List Jvm.Cond := [Jvm.Cond.code x code maxLocals ret, Jvm.Cond.code ({ cls := "com/example/provfold/provfold/QualifiedName", name := "isNameCharacter", desc := "(I)Z" } : Jvm.MethodName) prog_38_method_11_code (1 : Nat) (Option.some Jvm.ClassFile.FieldType.boolean), Jvm.Cond.code ({ cls := "com/example/provfold/provfold/QualifiedName", name := "isNameBase", desc := "(I)Z" } : Jvm.MethodName) prog_38_method_10_code (1 : Nat) (Option.some Jvm.ClassFile.FieldType.boolean), Jvm.Cond.code ({ cls := "com/example/provfold/provfold/QualifiedNameIsNameCharacterPinLaw", name := "ref", desc := "(I)Z" } : Jvm.MethodName) method_3_code (1 : Nat) (Option.some Jvm.ClassFile.FieldType.boolean), Jvm.Cond.code ({ cls := "com/example/provfold/provfold/QualifiedNameIsNameCharacterPinLaw", name := "in", desc := "(III)Z" } : Jvm.MethodName) method_2_code (3 : Nat) (Option.some Jvm.ClassFile.FieldType.boolean)]
set_option maxRecDepth 65536 in
theorem codes_eq : words1.filter isCode = codes1 := rfl
theorem w_codes : ∀ c ∈ words1.filter isCode, c.before args0 about1 = true := by
  rw [codes_eq]
  intro c hc
  simp only [codes1, List.mem_cons, List.not_mem_nil, or_false] at hc
  rcases hc with rfl | rfl | rfl | rfl | rfl
  · exact w_c0
  · exact w_c1
  · exact w_c2
  · exact w_c3
  · exact w_c4
set_option maxRecDepth 65536 in
theorem w_t1 : (words1.take 24).all (fun c => isCode c || c.before args0 about1) = true := by decide +kernel
set_option maxRecDepth 65536 in
theorem w_t2 : (words1.drop 24).all (fun c => isCode c || c.before args0 about1) = true := by decide +kernel
theorem w_tables : (allAtoms (Jvm.Cond.code x code maxLocals ret :: tables_1)).before args0 about1 = true := by
  rw [allAtoms_all]
  show words1.all (fun c => c.before args0 about1) = true
  refine all_split ?_ w_codes
  rw [← List.take_append_drop 24 words1, List.all_append, w_t1, w_t2]
  rfl
set_option maxRecDepth 65536 in
theorem w_case : (Jvm.Cond.and given_1 narrow_1).before args0 about1 = true := by decide +kernel
theorem w_applies : (headSpec (Jvm.Cond.code x code maxLocals ret :: tables_1) room_1).applies x e0.platform about1 = true :=
  (Spec.applies_iff w_frames).mpr ⟨w_running, w_runnable, w_alone, w_named, w_hears, w_ripe, w_room, w_tables⟩
theorem atStart : AtStart classFile x code maxLocals ret World_1 tables_1 room_1 Calls_1 rest_1 Pre_1 launch0 p0 e0 about1 theMethod args0 below0 :=
  ⟨lists_1, trivial, launch0.admits_env _ _ _, launch0.least_env, fairChoices_fair.cas, fairChoices_fair.clock, w_frames, w_args, w_heap, w_applies, trivial, trivial, w_case⟩
end start1
theorem witness_1 : WitnessClaimed_1 := ⟨start1.p0, start1.e0, start1.about1, start1.theMethod, start1.args0, start1.below0, start1.atStart⟩
end Jvm.Pilot.@@N@@
