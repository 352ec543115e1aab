import JvmDerived
import JvmDerived.Pilot.@@N@@Statement
import JvmDerived.Pilot.@@N@@Code
set_option linter.unusedVariables false
set_option linter.unusedSimpArgs false
namespace Jvm.RoadKit
open Sem ClassFile Op Lib Jvm.Stand Jvm.Free Jvm.LawKit
section New
variable {p : Program} {l : Launch} {e : Env} {R : Room} {s : State} {m : MethodId} {args : Array Value} {below : List Frame} {meth : Method} {c : Code} {T : State} {locs : List Loc} {cells slots : Nat}
theorem retI (X : Stand p l e R s m args below meth c T locs cells slots) (hx : p.tables.exec = Jvm.exec) {pc : Nat} {Ls : Array Slot} {z : Int32} {rest : List Value} (hret : meth.sig.returnType = some .int) (hd : decode c.code pc = .ok (.ireturn, 1)) {fs : List Frame}
    (hl : ∀ (f : JFrame) (acts : List Action), f.method = m → f.locked = none → f.entered = [] → (doReturn e (T.setTop f) acts (some (.int z))).1 = T.setFrames fs) : Steps p.tables e below (T.setTop (mkF m pc Ls (.int z :: rest))) (T.setFrames fs) := by
  have hm' : T.vm.method? m = some meth := X.method'
  have hn : narrow .int (.int z) = .int z := rfl
  show Steps p.tables e below (T.setTop { method := m, pc := pc, locals := Ls, stack := _ :: rest, locked := none }) _
  jvm_step X.here [X.here.top, hx, hd, hm', hret, hn]
  first | (intro acts; rw [hl _ acts rfl rfl rfl]) | rw [hl _ _ rfl rfl rfl]
  exact Steps.refl _
theorem own_lrem {g : JFrame} {target : State} (X : Stand p l e R s m args below meth c T locs cells slots) (hx : p.tables.exec = Jvm.exec) (hg : g.method = m) {x y : Int64} {rest : List Value} (hd : decode c.code g.pc = .ok (.lrem, 1)) (hs : g.stack = .long y :: .long x :: rest) (hy : y ≠ 0)
    (hr : Steps p.tables e below (T.setTop { g with pc := g.pc + 1, stack := .long (x % y) :: rest }) target) : Steps p.tables e below (T.setTop g) target :=
  XS.lrem X.here hx hg hd hs hy (by first | exact hr | (rw [lrem_mod]; exact hr))
end New
end Jvm.RoadKit
namespace Jvm.Pilot.@@N@@
open Jvm Jvm.ClassFile Sem Op Lib Jvm.Free Jvm.Stand Jvm.LawKit Jvm.RoadKit Bundle Jvm.Pilot.@@N@@.Jvm.D
/-- from the state A the body returns with QQ -/
def own_Go (p : Program) (e : Env) (below : List Frame) (s : State) (QQ : Option Value → Heap → List Loc → Prop) (k n : Nat) (A : State) : Prop :=
  ∃ U o, Steps p.tables e below A U ∧ U.status = .running ∧ Ended U below o ∧ ∃ v L, o = .returned v ∧ QQ v U.heap L ∧ FrameEnd s o U L k n
theorem own_go {p : Program} {e : Env} {below : List Frame} {s : State} {QQ : Option Value → Heap → List Loc → Prop} {k n : Nat} {A B : State} (h : ∀ t, Steps p.tables e below B t → Steps p.tables e below A t) (g : own_Go p e below s QQ k n B) : own_Go p e below s QQ k n A := by
  obtain ⟨U, o, h1, r⟩ := g
  exact ⟨U, o, h U h1, r⟩
theorem own_ret {p : Program} {l : Launch} {e : Env} {R : Room} {s : State} {m : MethodId} {args : Array Value} {below : List Frame} {meth : Method} {c : Code} {T : State} {locs : List Loc} {cells slots : Nat} {QQ : Option Value → Heap → List Loc → Prop} {k n : Nat} {A : State}
    (X : Stand p l e R s m args below meth c T locs cells slots) {v : Option Value} (hv : meth.sig.returnType = none → v = none) (hlk : meth.locks = false) (hQ : QQ v T.heap locs) (hk : cells ≤ k) (hn : slots ≤ n)
    (st : ∀ fs, (∀ (f : JFrame) (acts : List Action), f.method = m → f.locked = none → f.entered = [] → (doReturn e (T.setTop f) acts v).1 = T.setFrames fs) → Steps p.tables e below A (T.setFrames fs)) : own_Go p e below s QQ k n A := by
  obtain ⟨fs, hr, hrun, hended, hW, hsame⟩ := X.leave hv hlk
  exact ⟨_, _, st fs hr, hrun, hended, _, _, rfl, hQ, ⟨_, rfl⟩, hW, hsame.mono hk hn⟩
def own_GoW (p : Program) (e : Env) (below : List Frame) (s : State) (QQ : Option Value → Heap → List Loc → Prop) (k n : Nat) (A : State) : Prop :=
  ∃ U o, Steps p.tables e below A U ∧ U.status = .running ∧ Ended U below o ∧ ∃ v L, o = .returned v ∧ QQ v U.heap L ∧ ReturnedEndW s o U L k n
theorem own_goW {p : Program} {e : Env} {below : List Frame} {s : State} {QQ : Option Value → Heap → List Loc → Prop} {k n : Nat} {A B : State} (h : ∀ t, Steps p.tables e below B t → Steps p.tables e below A t) (g : own_GoW p e below s QQ k n B) : own_GoW p e below s QQ k n A := by
  obtain ⟨U, o, h1, r⟩ := g
  exact ⟨U, o, h U h1, r⟩
theorem own_retW {p : Program} {l : Launch} {e : Env} {R : Room} {s : State} {vm₁ : Vm} {m : MethodId} {args : Array Value} {below : List Frame} {meth : Method} {c : Code} {T : State} {locs : List Loc} {cells slots : Nat} {QQ : Option Value → Heap → List Loc → Prop} {k n : Nat} {A : State}
    (X : Stand p l e R (s.setVm vm₁) m args below meth c T locs cells slots) {n1 : Nat} (hS : s.Since vm₁ n1) (hn1 : n1 ≤ T.heap.size) {v : Option Value} (hv : meth.sig.returnType = none → v = none) (hlk : meth.locks = false) (hQ : QQ v T.heap locs) (hk : cells ≤ k) (hn : slots ≤ n)
    (st : ∀ fs, (∀ (f : JFrame) (acts : List Action), f.method = m → f.locked = none → f.entered = [] → (doReturn e (T.setTop f) acts v).1 = T.setFrames fs) → Steps p.tables e below A (T.setFrames fs)) : own_GoW p e below s QQ k n A := by
  obtain ⟨fs, hr, hrun, hended, hq⟩ := X.leaveW hS hn1 hv hlk
  exact ⟨_, _, st fs hr, hrun, hended, _, _, rfl, hQ, hq.1, hq.2.1, hq.2.2.1, hq.2.2.2.mono hk hn⟩
/-- an array by what its places hold -/
def own_Ary (Z : State) (h : Heap) (a : Addr) (ty : FieldType) (n : Nat) (f : Nat → Value) : Prop := ∃ c : Cell, Arr Z h a c ty ∧ c.slots.size = n ∧ ∀ j, j < n → c.slots[j]? = some (f j)
def own_set (f : Nat → Value) (i : Nat) (v : Value) : Nat → Value := fun j => if j = i then v else f j
section
variable {Z : State} {h h' : Heap} {a b : Addr} {ty : FieldType} {n : Nat} {f : Nat → Value}
theorem own_Ary.lt (F : own_Ary Z h a ty n f) : a < h.size := by obtain ⟨c, A, -⟩ := F; exact A.lt
theorem own_Ary.ext (F : own_Ary Z h a ty n f) (E : Ext h h') : own_Ary Z h' a ty n f := by obtain ⟨c, A, r⟩ := F; exact ⟨c, A.ext E, r⟩
theorem own_Ary.other {sl : Nat} {v : Value} (F : own_Ary Z h b ty n f) (W : Wr h h' a sl v) (q : b ≠ a) : own_Ary Z h' b ty n f := by obtain ⟨c, A, r⟩ := F; exact ⟨c, A.other W q, r⟩
theorem own_Ary.keep {ws : List Addr} (F : own_Ary Z h a ty n f) (K : Keep h h' ws) (q : a ∉ ws) : own_Ary Z h' a ty n f := by obtain ⟨c, A, r⟩ := F; exact ⟨c, ⟨K.2.1 a c A.1 q, A.2⟩, r⟩
theorem own_Ary.new {k : ClassId} {z : Int32} (A : Arr Z h a (newA k ty z) ty) (hz : z.toNatClampNeg = n) : own_Ary Z h a ty n (fun _ => defaultValue ty) :=
  ⟨_, A, by rw [sz_new]; exact hz, fun j hj => by simp [newA, hz, hj]⟩
theorem own_Ary.set {c : Cell} {i : Nat} {v : Value} (A : Arr Z h a c ty) (S : c.slots.size = n) (G : ∀ j, j < n → c.slots[j]? = some (f j)) (W : Wr h h' a i v) : own_Ary Z h' a ty n (own_set f i v) := by
  refine ⟨_, A.same W, by rw [sz_set]; exact S, fun j hj => ?_⟩
  simp only [Cell.setSlot, Array.getElem?_setIfInBounds, own_set]
  by_cases q : j = i
  · subst q; simp [S, hj]
  · have q' : ¬ i = j := fun z => q z.symm
    simp [q, q', G j hj]
theorem own_Ary.congr {g : Nat → Value} (F : own_Ary Z h a ty n f) (q : ∀ j, j < n → f j = g j) : own_Ary Z h a ty n g := by
  obtain ⟨c, A, S, G⟩ := F; exact ⟨c, A, S, fun j hj => by rw [G j hj, q j hj]⟩
theorem own_sta_keep {C m d : String} {v : Value} (F : Sta Z h C m d v) (K : Keep h h' []) : Sta Z h' C m d v := by
  obtain ⟨cf, i, k, g, st, cell, h1, h2, h3, h4, h5, r⟩ := F
  exact ⟨cf, i, k, g, st, cell, h1, h2, h3, h4, K.2.1 _ _ h5 nin0, r⟩
theorem own_cl {j : Int32} {i : Nat} (q : j.toInt = (i : Int)) : j.toNatClampNeg = i := by
  show j.toInt.toNat = i
  rw [q]; rfl
theorem own_in {c : Cell} {j : Int32} {i : Nat} (S : c.slots.size = n) (q : j.toInt = (i : Int)) (hi : i < n) : ¬ (j < 0 ∨ c.slots.size ≤ j.toNatClampNeg) := by
  rw [own_cl q, S]
  have h0 : (0 : Int32).toInt = 0 := by decide
  intro z
  rcases z with z | z
  · have := Int32.lt_iff_toInt_lt.mp z; omega
  · omega
end
def own_pf (a b c d : Int32) (j : Nat) : Int32 := if j = 0 then a else if j = 1 then b else if j = 2 then c else d
def own_sw (u w : Nat → Int32) (s d n : Nat) : Int32 := if n ≤ d ∧ ∀ j, j < n → u (s + j) = w j then 1 else 0
theorem own_nb8 (x : Int32) : nar .byte (x.toInt8.toInt32) = x.toInt8.toInt32 := by
  show (x.toInt8.toInt32).toInt8.toInt32 = x.toInt8.toInt32
  rw [Int8.toInt8_toInt32]
theorem own_lt {x y : Int32} (h : x.toInt < y.toInt) : x < y := Int32.lt_iff_toInt_lt.mpr h
theorem own_nlt {x y : Int32} (h : y.toInt ≤ x.toInt) : ¬ x < y := fun q => by have := Int32.lt_iff_toInt_lt.mp q; omega
theorem own_step {P : Nat → Prop} {n k : Nat} (h : ∀ j, j < n → j < k → P j) (q : n < k + 1 ∨ P k) : ∀ j, j < n → j < k + 1 → P j := fun j h1 h2 => by
  by_cases e : j = k
  · subst e; rcases q with q | q
    · omega
    · exact q
  · exact h j h1 (by omega)
theorem own_up {P : Nat → Prop} {k : Nat} (h : ∀ j, j < k → P j) (q : P k) : ∀ j, j < k + 1 → P j := fun j hj => by
  by_cases e : j = k
  · subst e; exact q
  · exact h j (by omega)
theorem own_q7 (x : Int32) : ∃ n : Nat, ((x &&& (7 : Int32)) % (5 : Int32)).toInt = (n : Int) ∧ n ≤ 4 := by
  have h1 := c_mask x 7 3 (by decide) (by decide)
  have h2 := (c_irem (x &&& (7 : Int32)) 5 5 (by decide)).1 (by omega)
  exact ⟨((x &&& (7 : Int32)) % (5 : Int32)).toInt.toNat, by omega, by omega⟩
theorem own_five {x : Int32} {s : Nat} (h : x.toInt = (s : Int)) (q : s ≤ 4) : ((5 : Int32) - x).toInt = 5 - (s : Int) := by
  have h1 := c_isub 5 x
  have h2 : (5 : Int32).toInt = 5 := by decide
  have h3 := rng32 ((5 : Int32) - x)
  rw [h2] at h1
  omega
theorem own_five0 {x : Int32} {s : Nat} (h : x.toInt = (s : Int)) (q : s ≤ 4) : ((5 : Int32) - x) ≠ (0 : Int32) := fun e => by
  have h1 := own_five h q
  have h2 : (0 : Int32).toInt = 0 := by decide
  rw [e] at h1
  omega
theorem own_end {x y : Int32} {s : Nat} (h : x.toInt = (s : Int)) (q : s ≤ 4) : ∃ d : Nat, (x + (y &&& (7 : Int32)) % ((5 : Int32) - x)).toInt = ((s + d : Nat) : Int) ∧ s + d ≤ 4 := by
  have h1 := own_five h q
  have h2 := c_mask y 7 3 (by decide) (by decide)
  have h3 := (c_iremV (y &&& (7 : Int32)) ((5 : Int32) - x)).1 (by omega) (by omega)
  generalize ((y &&& (7 : Int32)) % ((5 : Int32) - x)) = z at *
  have h4 := c_iadd x z
  have h5 := rng32 (x + z)
  exact ⟨z.toInt.toNat, by omega, by omega⟩
theorem own_sub {x y : Int32} {s d : Nat} (h : x.toInt = (s : Int)) (h' : y.toInt = ((s + d : Nat) : Int)) (q : s + d ≤ 4) : (y - x).toInt = (d : Int) := by
  have h1 := c_isub y x
  have h3 := rng32 (y - x)
  omega
theorem own_plus {x : Int32} {s : Nat} {i : Int32} {k : Nat} (h : x.toInt = (s : Int)) (h' : i.toInt = (k : Int)) (q : s + k ≤ 100) : (x + i).toInt = ((s + k : Nat) : Int) := by
  have h1 := c_iadd x i
  have h3 := rng32 (x + i)
  omega
theorem own_t32 {n : Nat} (h : n ≤ 100) : (n.toInt32).toInt = (n : Int) := by
  show (Int32.ofNat n).toInt = _
  rw [Int32.toInt_ofNat_of_lt (by omega)]
theorem pn_0 : plainName "com/example/ledgerstrike/ledgerstrike/request/LineReaderStartsWithPinLaw" = true := by first | (simp [plainName, overriddenIn]; done) | decide +kernel
theorem d1_0 : decode method_3_code 0 = .ok (.iload_n 0, 1) := by decide +kernel
theorem d1_1 : decode method_3_code 1 = .ok (.ifCond .ne 7, 3) := by decide +kernel
theorem d1_4 : decode method_3_code 4 = .ok (.iconst 0, 1) := by decide +kernel
theorem d1_5 : decode method_3_code 5 = .ok (.newarray .byte, 2) := by decide +kernel
theorem d1_7 : decode method_3_code 7 = .ok (.areturn, 1) := by decide +kernel
theorem d1_8 : decode method_3_code 8 = .ok (.iload_n 0, 1) := by decide +kernel
theorem d1_9 : decode method_3_code 9 = .ok (.iconst 1, 1) := by decide +kernel
theorem d1_10 : decode method_3_code 10 = .ok (.if_icmp .ne 11, 3) := by decide +kernel
theorem d1_13 : decode method_3_code 13 = .ok (.iconst 1, 1) := by decide +kernel
theorem d1_14 : decode method_3_code 14 = .ok (.newarray .byte, 2) := by decide +kernel
theorem d1_16 : decode method_3_code 16 = .ok (.dup, 1) := by decide +kernel
theorem d1_17 : decode method_3_code 17 = .ok (.iconst 0, 1) := by decide +kernel
theorem d1_18 : decode method_3_code 18 = .ok (.iload_n 1, 1) := by decide +kernel
theorem d1_19 : decode method_3_code 19 = .ok (.bastore, 1) := by decide +kernel
theorem d1_20 : decode method_3_code 20 = .ok (.areturn, 1) := by decide +kernel
theorem d1_21 : decode method_3_code 21 = .ok (.iload_n 0, 1) := by decide +kernel
theorem d1_22 : decode method_3_code 22 = .ok (.iconst 2, 1) := by decide +kernel
theorem d1_23 : decode method_3_code 23 = .ok (.if_icmp .ne 15, 3) := by decide +kernel
theorem d1_26 : decode method_3_code 26 = .ok (.iconst 2, 1) := by decide +kernel
theorem d1_27 : decode method_3_code 27 = .ok (.newarray .byte, 2) := by decide +kernel
theorem d1_29 : decode method_3_code 29 = .ok (.dup, 1) := by decide +kernel
theorem d1_30 : decode method_3_code 30 = .ok (.iconst 0, 1) := by decide +kernel
theorem d1_31 : decode method_3_code 31 = .ok (.iload_n 1, 1) := by decide +kernel
theorem d1_32 : decode method_3_code 32 = .ok (.bastore, 1) := by decide +kernel
theorem d1_33 : decode method_3_code 33 = .ok (.dup, 1) := by decide +kernel
theorem d1_34 : decode method_3_code 34 = .ok (.iconst 1, 1) := by decide +kernel
theorem d1_35 : decode method_3_code 35 = .ok (.iload_n 2, 1) := by decide +kernel
theorem d1_36 : decode method_3_code 36 = .ok (.bastore, 1) := by decide +kernel
theorem d1_37 : decode method_3_code 37 = .ok (.areturn, 1) := by decide +kernel
theorem d1_38 : decode method_3_code 38 = .ok (.iload_n 0, 1) := by decide +kernel
theorem d1_39 : decode method_3_code 39 = .ok (.iconst 3, 1) := by decide +kernel
theorem d1_40 : decode method_3_code 40 = .ok (.if_icmp .ne 19, 3) := by decide +kernel
theorem d1_43 : decode method_3_code 43 = .ok (.iconst 3, 1) := by decide +kernel
theorem d1_44 : decode method_3_code 44 = .ok (.newarray .byte, 2) := by decide +kernel
theorem d1_46 : decode method_3_code 46 = .ok (.dup, 1) := by decide +kernel
theorem d1_47 : decode method_3_code 47 = .ok (.iconst 0, 1) := by decide +kernel
theorem d1_48 : decode method_3_code 48 = .ok (.iload_n 1, 1) := by decide +kernel
theorem d1_49 : decode method_3_code 49 = .ok (.bastore, 1) := by decide +kernel
theorem d1_50 : decode method_3_code 50 = .ok (.dup, 1) := by decide +kernel
theorem d1_51 : decode method_3_code 51 = .ok (.iconst 1, 1) := by decide +kernel
theorem d1_52 : decode method_3_code 52 = .ok (.iload_n 2, 1) := by decide +kernel
theorem d1_53 : decode method_3_code 53 = .ok (.bastore, 1) := by decide +kernel
theorem d1_54 : decode method_3_code 54 = .ok (.dup, 1) := by decide +kernel
theorem d1_55 : decode method_3_code 55 = .ok (.iconst 2, 1) := by decide +kernel
theorem d1_56 : decode method_3_code 56 = .ok (.iload_n 3, 1) := by decide +kernel
theorem d1_57 : decode method_3_code 57 = .ok (.bastore, 1) := by decide +kernel
theorem d1_58 : decode method_3_code 58 = .ok (.areturn, 1) := by decide +kernel
theorem d1_59 : decode method_3_code 59 = .ok (.iconst 4, 1) := by decide +kernel
theorem d1_60 : decode method_3_code 60 = .ok (.newarray .byte, 2) := by decide +kernel
theorem d1_62 : decode method_3_code 62 = .ok (.dup, 1) := by decide +kernel
theorem d1_63 : decode method_3_code 63 = .ok (.iconst 0, 1) := by decide +kernel
theorem d1_64 : decode method_3_code 64 = .ok (.iload_n 1, 1) := by decide +kernel
theorem d1_65 : decode method_3_code 65 = .ok (.bastore, 1) := by decide +kernel
theorem d1_66 : decode method_3_code 66 = .ok (.dup, 1) := by decide +kernel
theorem d1_67 : decode method_3_code 67 = .ok (.iconst 1, 1) := by decide +kernel
theorem d1_68 : decode method_3_code 68 = .ok (.iload_n 2, 1) := by decide +kernel
theorem d1_69 : decode method_3_code 69 = .ok (.bastore, 1) := by decide +kernel
theorem d1_70 : decode method_3_code 70 = .ok (.dup, 1) := by decide +kernel
theorem d1_71 : decode method_3_code 71 = .ok (.iconst 2, 1) := by decide +kernel
theorem d1_72 : decode method_3_code 72 = .ok (.iload_n 3, 1) := by decide +kernel
theorem d1_73 : decode method_3_code 73 = .ok (.bastore, 1) := by decide +kernel
theorem d1_74 : decode method_3_code 74 = .ok (.dup, 1) := by decide +kernel
theorem d1_75 : decode method_3_code 75 = .ok (.iconst 3, 1) := by decide +kernel
theorem d1_76 : decode method_3_code 76 = .ok (.iload 4, 2) := by decide +kernel
theorem d1_78 : decode method_3_code 78 = .ok (.bastore, 1) := by decide +kernel
theorem d1_79 : decode method_3_code 79 = .ok (.areturn, 1) := by decide +kernel
theorem ef_1 (m : MethodId) (p0 : Int32) (p1 : Int32) (p2 : Int32) (p3 : Int32) (p4 : Int32) : entryFrame m #[(.int p0), (.int p1), (.int p2), (.int p3), (.int p4)] 5 = mkF m 0 #[.val (.int p0), .val (.int p1), .val (.int p2), .val (.int p3), .val (.int p4)] [] := by first | (simp [entryFrame, mkF, argsToLocals, Value.category]; done) | rfl
def Q1 (Z : State) (p0 : Int32) (p1 : Int32) (p2 : Int32) (p3 : Int32) (p4 : Int32) (h0 : Heap) (n0 : Nat) (v : Option Value) (h : Heap) (L : List Loc) : Prop := ∃ b : Addr, v = some (.ref b) ∧ Fr n0 L ∧ Keep h0 h [] ∧ n0 ≤ b ∧ own_Ary Z h b .byte p0.toInt.toNat (fun j => .int (own_pf p1 p2 p3 p4 j))
set_option maxRecDepth 65536 in
set_option maxHeartbeats 40000000 in
theorem rm1 (l : Launch) (Z : State) (a0 : Array Value) (hw : ∀ d ∈ tables_1, d.before a0 Z = true) (ws : List Jvm.Cond) (p0 : Int32) (p1 : Int32) (p2 : Int32) (p3 : Int32) (p4 : Int32) (h0 : Heap) (n0 : Nat) (Z0 : n0 ≤ h0.size) (b1 : nar .byte p1 = p1) (b2 : nar .byte p2 = p2) (b3 : nar .byte p3 = p3) (b4 : nar .byte p4 = p4) (bn : 0 ≤ p0.toInt ∧ p0.toInt ≤ 4) :
    MetFree l (⟨"com/example/ledgerstrike/ledgerstrike/request/LineReaderStartsWithPinLaw", "prefix", "(IBBBB)[B"⟩ : MethodName) (head1 (Jvm.Cond.code (⟨"com/example/ledgerstrike/ledgerstrike/request/LineReaderStartsWithPinLaw", "prefix", "(IBBBB)[B"⟩ : MethodName) method_3_code 5 (some (.array .byte)) :: ws) ({ frames := 0, cells := 1, slots := 4, locals := 0 } : Room)) (fun a U => a = #[(.int p0), (.int p1), (.int p2), (.int p3), (.int p4)] ∧ Z.Warmed39 U.vm ∧ U.heap = h0) (fun _ _ _ _ _ => True) (fun _ U o U' => ∃ v L, o = .returned v ∧ Q1 Z p0 p1 p2 p3 p4 h0 n0 v U'.heap L ∧ FrameEnd U o U' L (({ frames := 0, cells := 1, slots := 4, locals := 0 } : Room)).cells (({ frames := 0, cells := 1, slots := 4, locals := 0 } : Room)).slots) := by
  refine MetFree.of_bodySF (plainFor_of_name pn_0) hisR ?_
  intro p e s m args below meth c s₁ Bd hml0 hP hK
  obtain ⟨rfl, hZ, hh⟩ := hP
  have hx := Bd.exec
  have hby := Bd.bytes
  have hml : c.maxLocals = 5 := hml0
  have hown : s.vm.findClass "com/example/ledgerstrike/ledgerstrike/request/LineReaderStartsWithPinLaw" = some m.cls := findClass_of_methodNamed Bd.named
  have hnm := (name_of_methodNamed Bd.named Bd.method).1
  have hlk : meth.locks = false := Bd.notSynchronized
  have X0 : Stand p l e ({ frames := 0, cells := 1, slots := 4, locals := 0 } : Room) s m #[(.int p0), (.int p1), (.int p2), (.int p3), (.int p4)] below meth c s₁ [] 0 0 := Stand.of_body Bd
  have e0 : s₁.heap = h0 := by rw [← hh, Bd.state]; rfl
  have N0 := Fr.nil n0
  have hret := Bd.returns
  show own_Go p e below s (Q1 Z p0 p1 p2 p3 p4 h0 n0) _ _ (s₁.setTop (entryFrame m #[(.int p0), (.int p1), (.int p2), (.int p3), (.int p4)] 5))
  refine own_go (fun t k => castTop (ef_1 m p0 p1 p2 p3 p4) k) ?_
  show own_Go p e below s _ _ _ (s₁.setTop (mkF m 0 #[.val (.int p0), .val (.int p1), .val (.int p2), .val (.int p3), .val (.int p4)] []))
  refine own_go (fun t_ kt_ => XS.iloadN X0.here hx rfl (hb hby d1_0) rfl kt_) ?_
  show own_Go p e below s _ _ _ (s₁.setTop (mkF m 1 #[.val (.int p0), .val (.int p1), .val (.int p2), .val (.int p3), .val (.int p4)] [(.int p0)]))
  by_cases hc1 : p0 = (0 : Int32)
  · skip
    have hi1 : p0.toInt = 0 := congrArg Int32.toInt hc1
    refine own_go (fun t_ kt_ => XS.ifNo X0.here hx rfl (hb hby d1_1) rfl ((if0 _ _).trans (teq hc1).2) kt_) ?_
    show own_Go p e below s _ _ _ (s₁.setTop (mkF m 4 #[.val (.int p0), .val (.int p1), .val (.int p2), .val (.int p3), .val (.int p4)] []))
    refine own_go (fun t_ kt_ => XS.iconst X0.here hx rfl (hb hby d1_4) kt_) ?_
    show own_Go p e below s _ _ _ (s₁.setTop (mkF m 5 #[.val (.int p0), .val (.int p1), .val (.int p2), .val (.int p3), .val (.int p4)] [(.int (0 : Int32))]))
    obtain ⟨T1, h1, k1, X1, e1, E1, A1, st1⟩ := newP X0 hx hZ (hw _ (List.mem_of_getElem? (i := 0) rfl)) e0 (g := (mkF m 5 #[.val (.int p0), .val (.int p1), .val (.int p2), .val (.int p3), .val (.int p4)] [(.int (0 : Int32))])) rfl (hb hby d1_5) rfl (by decide) (cap := 0) (by decide) (by decide) (by decide) (by decide)
    obtain ⟨b1, g1⟩ : ∃ z, z = h0.size := ⟨_, rfl⟩
    rw [← g1] at A1 st1
    refine own_go (fun t_ kt_ => st1 _ kt_) ?_
    have gt_b1 : n0 ≤ b1 := Nat.le_trans Z0 (Nat.le_of_eq g1.symm)
    have sz_b1 : h0.size ≤ b1 := Nat.le_trans (Keep.refl h0 []).1 (Nat.le_of_eq g1.symm)
    have ZZ_1 : n0 ≤ h1.size := Nat.le_trans Z0 E1.1
    have K1 : Keep h0 h1 [] := (Keep.refl h0 []).ext E1
    have V_b1 : own_Ary Z h1 b1 .byte 0 (fun _ => (.int (0 : Int32))) := own_Ary.new A1 (by decide)
    show own_Go p e below s _ _ _ (T1.setTop (mkF m 7 #[.val (.int p0), .val (.int p1), .val (.int p2), .val (.int p3), .val (.int p4)] [(.ref b1)]))
    refine own_ret X1 (v := some (.ref b1)) (fun h => by rw [hret] at h; cases h) hlk ?_ (by decide) (by decide) (fun fs hr => X1.areturnOut hx rfl hret rfl (hb hby d1_7) hr)
    show Q1 Z p0 p1 p2 p3 p4 h0 n0 (some (.ref b1)) T1.heap _
    rw [e1]
    refine ⟨b1, rfl, N0, K1, gt_b1, ?_⟩
    rw [show p0.toInt.toNat = 0 from by omega]
    refine V_b1.congr ?_
    intro j hj
    omega
  · skip
    have hi1 : ¬ p0.toInt = 0 := fun q => hc1 (Int32.toInt_inj.mp q)
    refine own_go (fun t_ kt_ => XS.ifYes X0.here hx rfl (pc0 := 1) (pc' := 8) rfl (hb hby d1_1) rfl ((if0 _ _).trans (feq hc1).2) (by decide) (by decide) kt_) ?_
    show own_Go p e below s _ _ _ (s₁.setTop (mkF m 8 #[.val (.int p0), .val (.int p1), .val (.int p2), .val (.int p3), .val (.int p4)] []))
    refine own_go (fun t_ kt_ => XS.iloadN X0.here hx rfl (hb hby d1_8) rfl kt_) ?_
    show own_Go p e below s _ _ _ (s₁.setTop (mkF m 9 #[.val (.int p0), .val (.int p1), .val (.int p2), .val (.int p3), .val (.int p4)] [(.int p0)]))
    refine own_go (fun t_ kt_ => XS.iconst X0.here hx rfl (hb hby d1_9) kt_) ?_
    show own_Go p e below s _ _ _ (s₁.setTop (mkF m 10 #[.val (.int p0), .val (.int p1), .val (.int p2), .val (.int p3), .val (.int p4)] [(.int (1 : Int32)), (.int p0)]))
    by_cases hc10 : p0 = (1 : Int32)
    · skip
      have hi10 : p0.toInt = 1 := congrArg Int32.toInt hc10
      refine own_go (fun t_ kt_ => XS.icmpNo X0.here hx rfl (hb hby d1_10) rfl (teq hc10).2 kt_) ?_
      show own_Go p e below s _ _ _ (s₁.setTop (mkF m 13 #[.val (.int p0), .val (.int p1), .val (.int p2), .val (.int p3), .val (.int p4)] []))
      refine own_go (fun t_ kt_ => XS.iconst X0.here hx rfl (hb hby d1_13) kt_) ?_
      show own_Go p e below s _ _ _ (s₁.setTop (mkF m 14 #[.val (.int p0), .val (.int p1), .val (.int p2), .val (.int p3), .val (.int p4)] [(.int (1 : Int32))]))
      obtain ⟨T2, h2, k2, X2, e2, E2, A2, st2⟩ := newP X0 hx hZ (hw _ (List.mem_of_getElem? (i := 0) rfl)) e0 (g := (mkF m 14 #[.val (.int p0), .val (.int p1), .val (.int p2), .val (.int p3), .val (.int p4)] [(.int (1 : Int32))])) rfl (hb hby d1_14) rfl (by decide) (cap := 1) (by decide) (by decide) (by decide) (by decide)
      obtain ⟨b2, g2⟩ : ∃ z, z = h0.size := ⟨_, rfl⟩
      rw [← g2] at A2 st2
      refine own_go (fun t_ kt_ => st2 _ kt_) ?_
      have gt_b2 : n0 ≤ b2 := Nat.le_trans Z0 (Nat.le_of_eq g2.symm)
      have sz_b2 : h0.size ≤ b2 := Nat.le_trans (Keep.refl h0 []).1 (Nat.le_of_eq g2.symm)
      have ZZ_2 : n0 ≤ h2.size := Nat.le_trans Z0 E2.1
      have K2 : Keep h0 h2 [] := (Keep.refl h0 []).ext E2
      have V_b2 : own_Ary Z h2 b2 .byte 1 (fun _ => (.int (0 : Int32))) := own_Ary.new A2 (by decide)
      show own_Go p e below s _ _ _ (T2.setTop (mkF m 16 #[.val (.int p0), .val (.int p1), .val (.int p2), .val (.int p3), .val (.int p4)] [(.ref b2)]))
      refine own_go (fun t_ kt_ => XS.dup X2.here hx rfl (hb hby d1_16) rfl rfl kt_) ?_
      show own_Go p e below s _ _ _ (T2.setTop (mkF m 17 #[.val (.int p0), .val (.int p1), .val (.int p2), .val (.int p3), .val (.int p4)] [(.ref b2), (.ref b2)]))
      refine own_go (fun t_ kt_ => XS.iconst X2.here hx rfl (hb hby d1_17) kt_) ?_
      show own_Go p e below s _ _ _ (T2.setTop (mkF m 18 #[.val (.int p0), .val (.int p1), .val (.int p2), .val (.int p3), .val (.int p4)] [(.int (0 : Int32)), (.ref b2), (.ref b2)]))
      refine own_go (fun t_ kt_ => XS.iloadN X2.here hx rfl (hb hby d1_18) rfl kt_) ?_
      show own_Go p e below s _ _ _ (T2.setTop (mkF m 19 #[.val (.int p0), .val (.int p1), .val (.int p2), .val (.int p3), .val (.int p4)] [(.int p1), (.int (0 : Int32)), (.ref b2), (.ref b2)]))
      obtain ⟨c3, Ar3, S3, G3⟩ := id V_b2
      obtain ⟨T3, h3, X3, e3, W3, st3⟩ := stB X2 hx hZ e2 Ar3 (j := (0 : Int32)) (own_in (i := 0) S3 (by decide) (by decide)) (g := (mkF m 19 #[.val (.int p0), .val (.int p1), .val (.int p2), .val (.int p3), .val (.int p4)] [(.int p1), (.int (0 : Int32)), (.ref b2), (.ref b2)])) rfl rfl (hb hby d1_19)
      rw [own_cl (j := (0 : Int32)) (i := 0) (by decide)] at W3 X3
      refine own_go (fun t_ kt_ => st3 _ kt_) ?_
      have N3 := Fr.snoc X3 N0 gt_b2
      rw [(b1 : nar .byte p1 = p1)] at W3
      have ZZ_3 : n0 ≤ h3.size := Nat.le_trans ZZ_2 (Nat.le_of_eq W3.size.symm)
      have V_b2_3 : own_Ary Z h3 b2 .byte 1 (own_set (fun _ => (.int (0 : Int32))) 0 (.int p1)) := own_Ary.set Ar3 S3 G3 W3
      have K3 : Keep h0 h3 [] := K2.wr W3 (Or.inr sz_b2)
      show own_Go p e below s _ _ _ (T3.setTop (mkF m 20 #[.val (.int p0), .val (.int p1), .val (.int p2), .val (.int p3), .val (.int p4)] [(.ref b2)]))
      refine own_ret X3 (v := some (.ref b2)) (fun h => by rw [hret] at h; cases h) hlk ?_ (by decide) (by decide) (fun fs hr => X3.areturnOut hx rfl hret rfl (hb hby d1_20) hr)
      show Q1 Z p0 p1 p2 p3 p4 h0 n0 (some (.ref b2)) T3.heap _
      rw [e3]
      refine ⟨b2, rfl, N3, K3, gt_b2, ?_⟩
      rw [show p0.toInt.toNat = 1 from by omega]
      refine V_b2_3.congr ?_
      intro j hj
      obtain rfl : j = 0 := by omega
      rfl
    · skip
      have hi10 : ¬ p0.toInt = 1 := fun q => hc10 (Int32.toInt_inj.mp q)
      refine own_go (fun t_ kt_ => XS.icmpYes X0.here hx rfl (pc0 := 10) (pc' := 21) rfl (hb hby d1_10) rfl (feq hc10).2 (by decide) (by decide) kt_) ?_
      show own_Go p e below s _ _ _ (s₁.setTop (mkF m 21 #[.val (.int p0), .val (.int p1), .val (.int p2), .val (.int p3), .val (.int p4)] []))
      refine own_go (fun t_ kt_ => XS.iloadN X0.here hx rfl (hb hby d1_21) rfl kt_) ?_
      show own_Go p e below s _ _ _ (s₁.setTop (mkF m 22 #[.val (.int p0), .val (.int p1), .val (.int p2), .val (.int p3), .val (.int p4)] [(.int p0)]))
      refine own_go (fun t_ kt_ => XS.iconst X0.here hx rfl (hb hby d1_22) kt_) ?_
      show own_Go p e below s _ _ _ (s₁.setTop (mkF m 23 #[.val (.int p0), .val (.int p1), .val (.int p2), .val (.int p3), .val (.int p4)] [(.int (2 : Int32)), (.int p0)]))
      by_cases hc23 : p0 = (2 : Int32)
      · skip
        have hi23 : p0.toInt = 2 := congrArg Int32.toInt hc23
        refine own_go (fun t_ kt_ => XS.icmpNo X0.here hx rfl (hb hby d1_23) rfl (teq hc23).2 kt_) ?_
        show own_Go p e below s _ _ _ (s₁.setTop (mkF m 26 #[.val (.int p0), .val (.int p1), .val (.int p2), .val (.int p3), .val (.int p4)] []))
        refine own_go (fun t_ kt_ => XS.iconst X0.here hx rfl (hb hby d1_26) kt_) ?_
        show own_Go p e below s _ _ _ (s₁.setTop (mkF m 27 #[.val (.int p0), .val (.int p1), .val (.int p2), .val (.int p3), .val (.int p4)] [(.int (2 : Int32))]))
        obtain ⟨T4, h4, k4, X4, e4, E4, A4, st4⟩ := newP X0 hx hZ (hw _ (List.mem_of_getElem? (i := 0) rfl)) e0 (g := (mkF m 27 #[.val (.int p0), .val (.int p1), .val (.int p2), .val (.int p3), .val (.int p4)] [(.int (2 : Int32))])) rfl (hb hby d1_27) rfl (by decide) (cap := 2) (by decide) (by decide) (by decide) (by decide)
        obtain ⟨b4, g4⟩ : ∃ z, z = h0.size := ⟨_, rfl⟩
        rw [← g4] at A4 st4
        refine own_go (fun t_ kt_ => st4 _ kt_) ?_
        have gt_b4 : n0 ≤ b4 := Nat.le_trans Z0 (Nat.le_of_eq g4.symm)
        have sz_b4 : h0.size ≤ b4 := Nat.le_trans (Keep.refl h0 []).1 (Nat.le_of_eq g4.symm)
        have ZZ_4 : n0 ≤ h4.size := Nat.le_trans Z0 E4.1
        have K4 : Keep h0 h4 [] := (Keep.refl h0 []).ext E4
        have V_b4 : own_Ary Z h4 b4 .byte 2 (fun _ => (.int (0 : Int32))) := own_Ary.new A4 (by decide)
        show own_Go p e below s _ _ _ (T4.setTop (mkF m 29 #[.val (.int p0), .val (.int p1), .val (.int p2), .val (.int p3), .val (.int p4)] [(.ref b4)]))
        refine own_go (fun t_ kt_ => XS.dup X4.here hx rfl (hb hby d1_29) rfl rfl kt_) ?_
        show own_Go p e below s _ _ _ (T4.setTop (mkF m 30 #[.val (.int p0), .val (.int p1), .val (.int p2), .val (.int p3), .val (.int p4)] [(.ref b4), (.ref b4)]))
        refine own_go (fun t_ kt_ => XS.iconst X4.here hx rfl (hb hby d1_30) kt_) ?_
        show own_Go p e below s _ _ _ (T4.setTop (mkF m 31 #[.val (.int p0), .val (.int p1), .val (.int p2), .val (.int p3), .val (.int p4)] [(.int (0 : Int32)), (.ref b4), (.ref b4)]))
        refine own_go (fun t_ kt_ => XS.iloadN X4.here hx rfl (hb hby d1_31) rfl kt_) ?_
        show own_Go p e below s _ _ _ (T4.setTop (mkF m 32 #[.val (.int p0), .val (.int p1), .val (.int p2), .val (.int p3), .val (.int p4)] [(.int p1), (.int (0 : Int32)), (.ref b4), (.ref b4)]))
        obtain ⟨c5, Ar5, S5, G5⟩ := id V_b4
        obtain ⟨T5, h5, X5, e5, W5, st5⟩ := stB X4 hx hZ e4 Ar5 (j := (0 : Int32)) (own_in (i := 0) S5 (by decide) (by decide)) (g := (mkF m 32 #[.val (.int p0), .val (.int p1), .val (.int p2), .val (.int p3), .val (.int p4)] [(.int p1), (.int (0 : Int32)), (.ref b4), (.ref b4)])) rfl rfl (hb hby d1_32)
        rw [own_cl (j := (0 : Int32)) (i := 0) (by decide)] at W5 X5
        refine own_go (fun t_ kt_ => st5 _ kt_) ?_
        have N5 := Fr.snoc X5 N0 gt_b4
        rw [(b1 : nar .byte p1 = p1)] at W5
        have ZZ_5 : n0 ≤ h5.size := Nat.le_trans ZZ_4 (Nat.le_of_eq W5.size.symm)
        have V_b4_5 : own_Ary Z h5 b4 .byte 2 (own_set (fun _ => (.int (0 : Int32))) 0 (.int p1)) := own_Ary.set Ar5 S5 G5 W5
        have K5 : Keep h0 h5 [] := K4.wr W5 (Or.inr sz_b4)
        show own_Go p e below s _ _ _ (T5.setTop (mkF m 33 #[.val (.int p0), .val (.int p1), .val (.int p2), .val (.int p3), .val (.int p4)] [(.ref b4)]))
        refine own_go (fun t_ kt_ => XS.dup X5.here hx rfl (hb hby d1_33) rfl rfl kt_) ?_
        show own_Go p e below s _ _ _ (T5.setTop (mkF m 34 #[.val (.int p0), .val (.int p1), .val (.int p2), .val (.int p3), .val (.int p4)] [(.ref b4), (.ref b4)]))
        refine own_go (fun t_ kt_ => XS.iconst X5.here hx rfl (hb hby d1_34) kt_) ?_
        show own_Go p e below s _ _ _ (T5.setTop (mkF m 35 #[.val (.int p0), .val (.int p1), .val (.int p2), .val (.int p3), .val (.int p4)] [(.int (1 : Int32)), (.ref b4), (.ref b4)]))
        refine own_go (fun t_ kt_ => XS.iloadN X5.here hx rfl (hb hby d1_35) rfl kt_) ?_
        show own_Go p e below s _ _ _ (T5.setTop (mkF m 36 #[.val (.int p0), .val (.int p1), .val (.int p2), .val (.int p3), .val (.int p4)] [(.int p2), (.int (1 : Int32)), (.ref b4), (.ref b4)]))
        obtain ⟨c6, Ar6, S6, G6⟩ := id V_b4_5
        obtain ⟨T6, h6, X6, e6, W6, st6⟩ := stB X5 hx hZ e5 Ar6 (j := (1 : Int32)) (own_in (i := 1) S6 (by decide) (by decide)) (g := (mkF m 36 #[.val (.int p0), .val (.int p1), .val (.int p2), .val (.int p3), .val (.int p4)] [(.int p2), (.int (1 : Int32)), (.ref b4), (.ref b4)])) rfl rfl (hb hby d1_36)
        rw [own_cl (j := (1 : Int32)) (i := 1) (by decide)] at W6 X6
        refine own_go (fun t_ kt_ => st6 _ kt_) ?_
        have N6 := Fr.snoc X6 N5 gt_b4
        rw [(b2 : nar .byte p2 = p2)] at W6
        have ZZ_6 : n0 ≤ h6.size := Nat.le_trans ZZ_5 (Nat.le_of_eq W6.size.symm)
        have V_b4_6 : own_Ary Z h6 b4 .byte 2 (own_set (own_set (fun _ => (.int (0 : Int32))) 0 (.int p1)) 1 (.int p2)) := own_Ary.set Ar6 S6 G6 W6
        have K6 : Keep h0 h6 [] := K5.wr W6 (Or.inr sz_b4)
        show own_Go p e below s _ _ _ (T6.setTop (mkF m 37 #[.val (.int p0), .val (.int p1), .val (.int p2), .val (.int p3), .val (.int p4)] [(.ref b4)]))
        refine own_ret X6 (v := some (.ref b4)) (fun h => by rw [hret] at h; cases h) hlk ?_ (by decide) (by decide) (fun fs hr => X6.areturnOut hx rfl hret rfl (hb hby d1_37) hr)
        show Q1 Z p0 p1 p2 p3 p4 h0 n0 (some (.ref b4)) T6.heap _
        rw [e6]
        refine ⟨b4, rfl, N6, K6, gt_b4, ?_⟩
        rw [show p0.toInt.toNat = 2 from by omega]
        refine V_b4_6.congr ?_
        intro j hj
        rcases (by omega : j = 0 ∨ j = 1) with rfl | rfl <;> rfl
      · skip
        have hi23 : ¬ p0.toInt = 2 := fun q => hc23 (Int32.toInt_inj.mp q)
        refine own_go (fun t_ kt_ => XS.icmpYes X0.here hx rfl (pc0 := 23) (pc' := 38) rfl (hb hby d1_23) rfl (feq hc23).2 (by decide) (by decide) kt_) ?_
        show own_Go p e below s _ _ _ (s₁.setTop (mkF m 38 #[.val (.int p0), .val (.int p1), .val (.int p2), .val (.int p3), .val (.int p4)] []))
        refine own_go (fun t_ kt_ => XS.iloadN X0.here hx rfl (hb hby d1_38) rfl kt_) ?_
        show own_Go p e below s _ _ _ (s₁.setTop (mkF m 39 #[.val (.int p0), .val (.int p1), .val (.int p2), .val (.int p3), .val (.int p4)] [(.int p0)]))
        refine own_go (fun t_ kt_ => XS.iconst X0.here hx rfl (hb hby d1_39) kt_) ?_
        show own_Go p e below s _ _ _ (s₁.setTop (mkF m 40 #[.val (.int p0), .val (.int p1), .val (.int p2), .val (.int p3), .val (.int p4)] [(.int (3 : Int32)), (.int p0)]))
        by_cases hc40 : p0 = (3 : Int32)
        · skip
          have hi40 : p0.toInt = 3 := congrArg Int32.toInt hc40
          refine own_go (fun t_ kt_ => XS.icmpNo X0.here hx rfl (hb hby d1_40) rfl (teq hc40).2 kt_) ?_
          show own_Go p e below s _ _ _ (s₁.setTop (mkF m 43 #[.val (.int p0), .val (.int p1), .val (.int p2), .val (.int p3), .val (.int p4)] []))
          refine own_go (fun t_ kt_ => XS.iconst X0.here hx rfl (hb hby d1_43) kt_) ?_
          show own_Go p e below s _ _ _ (s₁.setTop (mkF m 44 #[.val (.int p0), .val (.int p1), .val (.int p2), .val (.int p3), .val (.int p4)] [(.int (3 : Int32))]))
          obtain ⟨T7, h7, k7, X7, e7, E7, A7, st7⟩ := newP X0 hx hZ (hw _ (List.mem_of_getElem? (i := 0) rfl)) e0 (g := (mkF m 44 #[.val (.int p0), .val (.int p1), .val (.int p2), .val (.int p3), .val (.int p4)] [(.int (3 : Int32))])) rfl (hb hby d1_44) rfl (by decide) (cap := 3) (by decide) (by decide) (by decide) (by decide)
          obtain ⟨b7, g7⟩ : ∃ z, z = h0.size := ⟨_, rfl⟩
          rw [← g7] at A7 st7
          refine own_go (fun t_ kt_ => st7 _ kt_) ?_
          have gt_b7 : n0 ≤ b7 := Nat.le_trans Z0 (Nat.le_of_eq g7.symm)
          have sz_b7 : h0.size ≤ b7 := Nat.le_trans (Keep.refl h0 []).1 (Nat.le_of_eq g7.symm)
          have ZZ_7 : n0 ≤ h7.size := Nat.le_trans Z0 E7.1
          have K7 : Keep h0 h7 [] := (Keep.refl h0 []).ext E7
          have V_b7 : own_Ary Z h7 b7 .byte 3 (fun _ => (.int (0 : Int32))) := own_Ary.new A7 (by decide)
          show own_Go p e below s _ _ _ (T7.setTop (mkF m 46 #[.val (.int p0), .val (.int p1), .val (.int p2), .val (.int p3), .val (.int p4)] [(.ref b7)]))
          refine own_go (fun t_ kt_ => XS.dup X7.here hx rfl (hb hby d1_46) rfl rfl kt_) ?_
          show own_Go p e below s _ _ _ (T7.setTop (mkF m 47 #[.val (.int p0), .val (.int p1), .val (.int p2), .val (.int p3), .val (.int p4)] [(.ref b7), (.ref b7)]))
          refine own_go (fun t_ kt_ => XS.iconst X7.here hx rfl (hb hby d1_47) kt_) ?_
          show own_Go p e below s _ _ _ (T7.setTop (mkF m 48 #[.val (.int p0), .val (.int p1), .val (.int p2), .val (.int p3), .val (.int p4)] [(.int (0 : Int32)), (.ref b7), (.ref b7)]))
          refine own_go (fun t_ kt_ => XS.iloadN X7.here hx rfl (hb hby d1_48) rfl kt_) ?_
          show own_Go p e below s _ _ _ (T7.setTop (mkF m 49 #[.val (.int p0), .val (.int p1), .val (.int p2), .val (.int p3), .val (.int p4)] [(.int p1), (.int (0 : Int32)), (.ref b7), (.ref b7)]))
          obtain ⟨c8, Ar8, S8, G8⟩ := id V_b7
          obtain ⟨T8, h8, X8, e8, W8, st8⟩ := stB X7 hx hZ e7 Ar8 (j := (0 : Int32)) (own_in (i := 0) S8 (by decide) (by decide)) (g := (mkF m 49 #[.val (.int p0), .val (.int p1), .val (.int p2), .val (.int p3), .val (.int p4)] [(.int p1), (.int (0 : Int32)), (.ref b7), (.ref b7)])) rfl rfl (hb hby d1_49)
          rw [own_cl (j := (0 : Int32)) (i := 0) (by decide)] at W8 X8
          refine own_go (fun t_ kt_ => st8 _ kt_) ?_
          have N8 := Fr.snoc X8 N0 gt_b7
          rw [(b1 : nar .byte p1 = p1)] at W8
          have ZZ_8 : n0 ≤ h8.size := Nat.le_trans ZZ_7 (Nat.le_of_eq W8.size.symm)
          have V_b7_8 : own_Ary Z h8 b7 .byte 3 (own_set (fun _ => (.int (0 : Int32))) 0 (.int p1)) := own_Ary.set Ar8 S8 G8 W8
          have K8 : Keep h0 h8 [] := K7.wr W8 (Or.inr sz_b7)
          show own_Go p e below s _ _ _ (T8.setTop (mkF m 50 #[.val (.int p0), .val (.int p1), .val (.int p2), .val (.int p3), .val (.int p4)] [(.ref b7)]))
          refine own_go (fun t_ kt_ => XS.dup X8.here hx rfl (hb hby d1_50) rfl rfl kt_) ?_
          show own_Go p e below s _ _ _ (T8.setTop (mkF m 51 #[.val (.int p0), .val (.int p1), .val (.int p2), .val (.int p3), .val (.int p4)] [(.ref b7), (.ref b7)]))
          refine own_go (fun t_ kt_ => XS.iconst X8.here hx rfl (hb hby d1_51) kt_) ?_
          show own_Go p e below s _ _ _ (T8.setTop (mkF m 52 #[.val (.int p0), .val (.int p1), .val (.int p2), .val (.int p3), .val (.int p4)] [(.int (1 : Int32)), (.ref b7), (.ref b7)]))
          refine own_go (fun t_ kt_ => XS.iloadN X8.here hx rfl (hb hby d1_52) rfl kt_) ?_
          show own_Go p e below s _ _ _ (T8.setTop (mkF m 53 #[.val (.int p0), .val (.int p1), .val (.int p2), .val (.int p3), .val (.int p4)] [(.int p2), (.int (1 : Int32)), (.ref b7), (.ref b7)]))
          obtain ⟨c9, Ar9, S9, G9⟩ := id V_b7_8
          obtain ⟨T9, h9, X9, e9, W9, st9⟩ := stB X8 hx hZ e8 Ar9 (j := (1 : Int32)) (own_in (i := 1) S9 (by decide) (by decide)) (g := (mkF m 53 #[.val (.int p0), .val (.int p1), .val (.int p2), .val (.int p3), .val (.int p4)] [(.int p2), (.int (1 : Int32)), (.ref b7), (.ref b7)])) rfl rfl (hb hby d1_53)
          rw [own_cl (j := (1 : Int32)) (i := 1) (by decide)] at W9 X9
          refine own_go (fun t_ kt_ => st9 _ kt_) ?_
          have N9 := Fr.snoc X9 N8 gt_b7
          rw [(b2 : nar .byte p2 = p2)] at W9
          have ZZ_9 : n0 ≤ h9.size := Nat.le_trans ZZ_8 (Nat.le_of_eq W9.size.symm)
          have V_b7_9 : own_Ary Z h9 b7 .byte 3 (own_set (own_set (fun _ => (.int (0 : Int32))) 0 (.int p1)) 1 (.int p2)) := own_Ary.set Ar9 S9 G9 W9
          have K9 : Keep h0 h9 [] := K8.wr W9 (Or.inr sz_b7)
          show own_Go p e below s _ _ _ (T9.setTop (mkF m 54 #[.val (.int p0), .val (.int p1), .val (.int p2), .val (.int p3), .val (.int p4)] [(.ref b7)]))
          refine own_go (fun t_ kt_ => XS.dup X9.here hx rfl (hb hby d1_54) rfl rfl kt_) ?_
          show own_Go p e below s _ _ _ (T9.setTop (mkF m 55 #[.val (.int p0), .val (.int p1), .val (.int p2), .val (.int p3), .val (.int p4)] [(.ref b7), (.ref b7)]))
          refine own_go (fun t_ kt_ => XS.iconst X9.here hx rfl (hb hby d1_55) kt_) ?_
          show own_Go p e below s _ _ _ (T9.setTop (mkF m 56 #[.val (.int p0), .val (.int p1), .val (.int p2), .val (.int p3), .val (.int p4)] [(.int (2 : Int32)), (.ref b7), (.ref b7)]))
          refine own_go (fun t_ kt_ => XS.iloadN X9.here hx rfl (hb hby d1_56) rfl kt_) ?_
          show own_Go p e below s _ _ _ (T9.setTop (mkF m 57 #[.val (.int p0), .val (.int p1), .val (.int p2), .val (.int p3), .val (.int p4)] [(.int p3), (.int (2 : Int32)), (.ref b7), (.ref b7)]))
          obtain ⟨c10, Ar10, S10, G10⟩ := id V_b7_9
          obtain ⟨T10, h10, X10, e10, W10, st10⟩ := stB X9 hx hZ e9 Ar10 (j := (2 : Int32)) (own_in (i := 2) S10 (by decide) (by decide)) (g := (mkF m 57 #[.val (.int p0), .val (.int p1), .val (.int p2), .val (.int p3), .val (.int p4)] [(.int p3), (.int (2 : Int32)), (.ref b7), (.ref b7)])) rfl rfl (hb hby d1_57)
          rw [own_cl (j := (2 : Int32)) (i := 2) (by decide)] at W10 X10
          refine own_go (fun t_ kt_ => st10 _ kt_) ?_
          have N10 := Fr.snoc X10 N9 gt_b7
          rw [(b3 : nar .byte p3 = p3)] at W10
          have ZZ_10 : n0 ≤ h10.size := Nat.le_trans ZZ_9 (Nat.le_of_eq W10.size.symm)
          have V_b7_10 : own_Ary Z h10 b7 .byte 3 (own_set (own_set (own_set (fun _ => (.int (0 : Int32))) 0 (.int p1)) 1 (.int p2)) 2 (.int p3)) := own_Ary.set Ar10 S10 G10 W10
          have K10 : Keep h0 h10 [] := K9.wr W10 (Or.inr sz_b7)
          show own_Go p e below s _ _ _ (T10.setTop (mkF m 58 #[.val (.int p0), .val (.int p1), .val (.int p2), .val (.int p3), .val (.int p4)] [(.ref b7)]))
          refine own_ret X10 (v := some (.ref b7)) (fun h => by rw [hret] at h; cases h) hlk ?_ (by decide) (by decide) (fun fs hr => X10.areturnOut hx rfl hret rfl (hb hby d1_58) hr)
          show Q1 Z p0 p1 p2 p3 p4 h0 n0 (some (.ref b7)) T10.heap _
          rw [e10]
          refine ⟨b7, rfl, N10, K10, gt_b7, ?_⟩
          rw [show p0.toInt.toNat = 3 from by omega]
          refine V_b7_10.congr ?_
          intro j hj
          rcases (by omega : j = 0 ∨ j = 1 ∨ j = 2) with rfl | rfl | rfl <;> rfl
        · skip
          have hi40 : ¬ p0.toInt = 3 := fun q => hc40 (Int32.toInt_inj.mp q)
          refine own_go (fun t_ kt_ => XS.icmpYes X0.here hx rfl (pc0 := 40) (pc' := 59) rfl (hb hby d1_40) rfl (feq hc40).2 (by decide) (by decide) kt_) ?_
          show own_Go p e below s _ _ _ (s₁.setTop (mkF m 59 #[.val (.int p0), .val (.int p1), .val (.int p2), .val (.int p3), .val (.int p4)] []))
          refine own_go (fun t_ kt_ => XS.iconst X0.here hx rfl (hb hby d1_59) kt_) ?_
          show own_Go p e below s _ _ _ (s₁.setTop (mkF m 60 #[.val (.int p0), .val (.int p1), .val (.int p2), .val (.int p3), .val (.int p4)] [(.int (4 : Int32))]))
          obtain ⟨T11, h11, k11, X11, e11, E11, A11, st11⟩ := newP X0 hx hZ (hw _ (List.mem_of_getElem? (i := 0) rfl)) e0 (g := (mkF m 60 #[.val (.int p0), .val (.int p1), .val (.int p2), .val (.int p3), .val (.int p4)] [(.int (4 : Int32))])) rfl (hb hby d1_60) rfl (by decide) (cap := 4) (by decide) (by decide) (by decide) (by decide)
          obtain ⟨b11, g11⟩ : ∃ z, z = h0.size := ⟨_, rfl⟩
          rw [← g11] at A11 st11
          refine own_go (fun t_ kt_ => st11 _ kt_) ?_
          have gt_b11 : n0 ≤ b11 := Nat.le_trans Z0 (Nat.le_of_eq g11.symm)
          have sz_b11 : h0.size ≤ b11 := Nat.le_trans (Keep.refl h0 []).1 (Nat.le_of_eq g11.symm)
          have ZZ_11 : n0 ≤ h11.size := Nat.le_trans Z0 E11.1
          have K11 : Keep h0 h11 [] := (Keep.refl h0 []).ext E11
          have V_b11 : own_Ary Z h11 b11 .byte 4 (fun _ => (.int (0 : Int32))) := own_Ary.new A11 (by decide)
          show own_Go p e below s _ _ _ (T11.setTop (mkF m 62 #[.val (.int p0), .val (.int p1), .val (.int p2), .val (.int p3), .val (.int p4)] [(.ref b11)]))
          refine own_go (fun t_ kt_ => XS.dup X11.here hx rfl (hb hby d1_62) rfl rfl kt_) ?_
          show own_Go p e below s _ _ _ (T11.setTop (mkF m 63 #[.val (.int p0), .val (.int p1), .val (.int p2), .val (.int p3), .val (.int p4)] [(.ref b11), (.ref b11)]))
          refine own_go (fun t_ kt_ => XS.iconst X11.here hx rfl (hb hby d1_63) kt_) ?_
          show own_Go p e below s _ _ _ (T11.setTop (mkF m 64 #[.val (.int p0), .val (.int p1), .val (.int p2), .val (.int p3), .val (.int p4)] [(.int (0 : Int32)), (.ref b11), (.ref b11)]))
          refine own_go (fun t_ kt_ => XS.iloadN X11.here hx rfl (hb hby d1_64) rfl kt_) ?_
          show own_Go p e below s _ _ _ (T11.setTop (mkF m 65 #[.val (.int p0), .val (.int p1), .val (.int p2), .val (.int p3), .val (.int p4)] [(.int p1), (.int (0 : Int32)), (.ref b11), (.ref b11)]))
          obtain ⟨c12, Ar12, S12, G12⟩ := id V_b11
          obtain ⟨T12, h12, X12, e12, W12, st12⟩ := stB X11 hx hZ e11 Ar12 (j := (0 : Int32)) (own_in (i := 0) S12 (by decide) (by decide)) (g := (mkF m 65 #[.val (.int p0), .val (.int p1), .val (.int p2), .val (.int p3), .val (.int p4)] [(.int p1), (.int (0 : Int32)), (.ref b11), (.ref b11)])) rfl rfl (hb hby d1_65)
          rw [own_cl (j := (0 : Int32)) (i := 0) (by decide)] at W12 X12
          refine own_go (fun t_ kt_ => st12 _ kt_) ?_
          have N12 := Fr.snoc X12 N0 gt_b11
          rw [(b1 : nar .byte p1 = p1)] at W12
          have ZZ_12 : n0 ≤ h12.size := Nat.le_trans ZZ_11 (Nat.le_of_eq W12.size.symm)
          have V_b11_12 : own_Ary Z h12 b11 .byte 4 (own_set (fun _ => (.int (0 : Int32))) 0 (.int p1)) := own_Ary.set Ar12 S12 G12 W12
          have K12 : Keep h0 h12 [] := K11.wr W12 (Or.inr sz_b11)
          show own_Go p e below s _ _ _ (T12.setTop (mkF m 66 #[.val (.int p0), .val (.int p1), .val (.int p2), .val (.int p3), .val (.int p4)] [(.ref b11)]))
          refine own_go (fun t_ kt_ => XS.dup X12.here hx rfl (hb hby d1_66) rfl rfl kt_) ?_
          show own_Go p e below s _ _ _ (T12.setTop (mkF m 67 #[.val (.int p0), .val (.int p1), .val (.int p2), .val (.int p3), .val (.int p4)] [(.ref b11), (.ref b11)]))
          refine own_go (fun t_ kt_ => XS.iconst X12.here hx rfl (hb hby d1_67) kt_) ?_
          show own_Go p e below s _ _ _ (T12.setTop (mkF m 68 #[.val (.int p0), .val (.int p1), .val (.int p2), .val (.int p3), .val (.int p4)] [(.int (1 : Int32)), (.ref b11), (.ref b11)]))
          refine own_go (fun t_ kt_ => XS.iloadN X12.here hx rfl (hb hby d1_68) rfl kt_) ?_
          show own_Go p e below s _ _ _ (T12.setTop (mkF m 69 #[.val (.int p0), .val (.int p1), .val (.int p2), .val (.int p3), .val (.int p4)] [(.int p2), (.int (1 : Int32)), (.ref b11), (.ref b11)]))
          obtain ⟨c13, Ar13, S13, G13⟩ := id V_b11_12
          obtain ⟨T13, h13, X13, e13, W13, st13⟩ := stB X12 hx hZ e12 Ar13 (j := (1 : Int32)) (own_in (i := 1) S13 (by decide) (by decide)) (g := (mkF m 69 #[.val (.int p0), .val (.int p1), .val (.int p2), .val (.int p3), .val (.int p4)] [(.int p2), (.int (1 : Int32)), (.ref b11), (.ref b11)])) rfl rfl (hb hby d1_69)
          rw [own_cl (j := (1 : Int32)) (i := 1) (by decide)] at W13 X13
          refine own_go (fun t_ kt_ => st13 _ kt_) ?_
          have N13 := Fr.snoc X13 N12 gt_b11
          rw [(b2 : nar .byte p2 = p2)] at W13
          have ZZ_13 : n0 ≤ h13.size := Nat.le_trans ZZ_12 (Nat.le_of_eq W13.size.symm)
          have V_b11_13 : own_Ary Z h13 b11 .byte 4 (own_set (own_set (fun _ => (.int (0 : Int32))) 0 (.int p1)) 1 (.int p2)) := own_Ary.set Ar13 S13 G13 W13
          have K13 : Keep h0 h13 [] := K12.wr W13 (Or.inr sz_b11)
          show own_Go p e below s _ _ _ (T13.setTop (mkF m 70 #[.val (.int p0), .val (.int p1), .val (.int p2), .val (.int p3), .val (.int p4)] [(.ref b11)]))
          refine own_go (fun t_ kt_ => XS.dup X13.here hx rfl (hb hby d1_70) rfl rfl kt_) ?_
          show own_Go p e below s _ _ _ (T13.setTop (mkF m 71 #[.val (.int p0), .val (.int p1), .val (.int p2), .val (.int p3), .val (.int p4)] [(.ref b11), (.ref b11)]))
          refine own_go (fun t_ kt_ => XS.iconst X13.here hx rfl (hb hby d1_71) kt_) ?_
          show own_Go p e below s _ _ _ (T13.setTop (mkF m 72 #[.val (.int p0), .val (.int p1), .val (.int p2), .val (.int p3), .val (.int p4)] [(.int (2 : Int32)), (.ref b11), (.ref b11)]))
          refine own_go (fun t_ kt_ => XS.iloadN X13.here hx rfl (hb hby d1_72) rfl kt_) ?_
          show own_Go p e below s _ _ _ (T13.setTop (mkF m 73 #[.val (.int p0), .val (.int p1), .val (.int p2), .val (.int p3), .val (.int p4)] [(.int p3), (.int (2 : Int32)), (.ref b11), (.ref b11)]))
          obtain ⟨c14, Ar14, S14, G14⟩ := id V_b11_13
          obtain ⟨T14, h14, X14, e14, W14, st14⟩ := stB X13 hx hZ e13 Ar14 (j := (2 : Int32)) (own_in (i := 2) S14 (by decide) (by decide)) (g := (mkF m 73 #[.val (.int p0), .val (.int p1), .val (.int p2), .val (.int p3), .val (.int p4)] [(.int p3), (.int (2 : Int32)), (.ref b11), (.ref b11)])) rfl rfl (hb hby d1_73)
          rw [own_cl (j := (2 : Int32)) (i := 2) (by decide)] at W14 X14
          refine own_go (fun t_ kt_ => st14 _ kt_) ?_
          have N14 := Fr.snoc X14 N13 gt_b11
          rw [(b3 : nar .byte p3 = p3)] at W14
          have ZZ_14 : n0 ≤ h14.size := Nat.le_trans ZZ_13 (Nat.le_of_eq W14.size.symm)
          have V_b11_14 : own_Ary Z h14 b11 .byte 4 (own_set (own_set (own_set (fun _ => (.int (0 : Int32))) 0 (.int p1)) 1 (.int p2)) 2 (.int p3)) := own_Ary.set Ar14 S14 G14 W14
          have K14 : Keep h0 h14 [] := K13.wr W14 (Or.inr sz_b11)
          show own_Go p e below s _ _ _ (T14.setTop (mkF m 74 #[.val (.int p0), .val (.int p1), .val (.int p2), .val (.int p3), .val (.int p4)] [(.ref b11)]))
          refine own_go (fun t_ kt_ => XS.dup X14.here hx rfl (hb hby d1_74) rfl rfl kt_) ?_
          show own_Go p e below s _ _ _ (T14.setTop (mkF m 75 #[.val (.int p0), .val (.int p1), .val (.int p2), .val (.int p3), .val (.int p4)] [(.ref b11), (.ref b11)]))
          refine own_go (fun t_ kt_ => XS.iconst X14.here hx rfl (hb hby d1_75) kt_) ?_
          show own_Go p e below s _ _ _ (T14.setTop (mkF m 76 #[.val (.int p0), .val (.int p1), .val (.int p2), .val (.int p3), .val (.int p4)] [(.int (3 : Int32)), (.ref b11), (.ref b11)]))
          refine own_go (fun t_ kt_ => XS.iload X14.here hx rfl (hb hby d1_76) rfl kt_) ?_
          show own_Go p e below s _ _ _ (T14.setTop (mkF m 78 #[.val (.int p0), .val (.int p1), .val (.int p2), .val (.int p3), .val (.int p4)] [(.int p4), (.int (3 : Int32)), (.ref b11), (.ref b11)]))
          obtain ⟨c15, Ar15, S15, G15⟩ := id V_b11_14
          obtain ⟨T15, h15, X15, e15, W15, st15⟩ := stB X14 hx hZ e14 Ar15 (j := (3 : Int32)) (own_in (i := 3) S15 (by decide) (by decide)) (g := (mkF m 78 #[.val (.int p0), .val (.int p1), .val (.int p2), .val (.int p3), .val (.int p4)] [(.int p4), (.int (3 : Int32)), (.ref b11), (.ref b11)])) rfl rfl (hb hby d1_78)
          rw [own_cl (j := (3 : Int32)) (i := 3) (by decide)] at W15 X15
          refine own_go (fun t_ kt_ => st15 _ kt_) ?_
          have N15 := Fr.snoc X15 N14 gt_b11
          rw [(b4 : nar .byte p4 = p4)] at W15
          have ZZ_15 : n0 ≤ h15.size := Nat.le_trans ZZ_14 (Nat.le_of_eq W15.size.symm)
          have V_b11_15 : own_Ary Z h15 b11 .byte 4 (own_set (own_set (own_set (own_set (fun _ => (.int (0 : Int32))) 0 (.int p1)) 1 (.int p2)) 2 (.int p3)) 3 (.int p4)) := own_Ary.set Ar15 S15 G15 W15
          have K15 : Keep h0 h15 [] := K14.wr W15 (Or.inr sz_b11)
          show own_Go p e below s _ _ _ (T15.setTop (mkF m 79 #[.val (.int p0), .val (.int p1), .val (.int p2), .val (.int p3), .val (.int p4)] [(.ref b11)]))
          refine own_ret X15 (v := some (.ref b11)) (fun h => by rw [hret] at h; cases h) hlk ?_ (by decide) (by decide) (fun fs hr => X15.areturnOut hx rfl hret rfl (hb hby d1_79) hr)
          show Q1 Z p0 p1 p2 p3 p4 h0 n0 (some (.ref b11)) T15.heap _
          rw [e15]
          refine ⟨b11, rfl, N15, K15, gt_b11, ?_⟩
          rw [show p0.toInt.toNat = 4 from by omega]
          refine V_b11_15.congr ?_
          intro j hj
          rcases (by omega : j = 0 ∨ j = 1 ∨ j = 2 ∨ j = 3) with rfl | rfl | rfl | rfl <;> rfl
theorem pn_1 : plainName "com/example/ledgerstrike/ledgerstrike/request/LineReader" = true := by first | (simp [plainName, overriddenIn]; done) | decide +kernel
theorem d2_56 : decode prog_45_method_9_code 56 = .ok (.iload 4, 2) := by decide +kernel
theorem d2_58 : decode prog_45_method_9_code 58 = .ok (.ireturn, 1) := by decide +kernel
theorem d2_18 : decode prog_45_method_9_code 18 = .ok (.iload 4, 2) := by decide +kernel
theorem d2_20 : decode prog_45_method_9_code 20 = .ok (.ifCond .eq 36, 3) := by decide +kernel
theorem d2_23 : decode prog_45_method_9_code 23 = .ok (.iload 5, 2) := by decide +kernel
theorem d2_25 : decode prog_45_method_9_code 25 = .ok (.aload_n 3, 1) := by decide +kernel
theorem d2_26 : decode prog_45_method_9_code 26 = .ok (.arraylength, 1) := by decide +kernel
theorem d2_27 : decode prog_45_method_9_code 27 = .ok (.if_icmp .ge 29, 3) := by decide +kernel
theorem d2_30 : decode prog_45_method_9_code 30 = .ok (.aload_n 0, 1) := by decide +kernel
theorem d2_31 : decode prog_45_method_9_code 31 = .ok (.iload_n 1, 1) := by decide +kernel
theorem d2_32 : decode prog_45_method_9_code 32 = .ok (.iload 5, 2) := by decide +kernel
theorem d2_34 : decode prog_45_method_9_code 34 = .ok (.iadd, 1) := by decide +kernel
theorem d2_35 : decode prog_45_method_9_code 35 = .ok (.baload, 1) := by decide +kernel
theorem d2_36 : decode prog_45_method_9_code 36 = .ok (.aload_n 3, 1) := by decide +kernel
theorem d2_37 : decode prog_45_method_9_code 37 = .ok (.iload 5, 2) := by decide +kernel
theorem d2_39 : decode prog_45_method_9_code 39 = .ok (.baload, 1) := by decide +kernel
theorem d2_40 : decode prog_45_method_9_code 40 = .ok (.if_icmp .ne 7, 3) := by decide +kernel
theorem d2_43 : decode prog_45_method_9_code 43 = .ok (.iconst 1, 1) := by decide +kernel
theorem d2_44 : decode prog_45_method_9_code 44 = .ok (.goto 4, 3) := by decide +kernel
theorem d2_48 : decode prog_45_method_9_code 48 = .ok (.istore 4, 2) := by decide +kernel
theorem d2_50 : decode prog_45_method_9_code 50 = .ok (.iinc 5 1, 3) := by decide +kernel
theorem d2_53 : decode prog_45_method_9_code 53 = .ok (.goto (-35), 3) := by decide +kernel
theorem d2_47 : decode prog_45_method_9_code 47 = .ok (.iconst 0, 1) := by decide +kernel
theorem d2_0 : decode prog_45_method_9_code 0 = .ok (.iload_n 2, 1) := by decide +kernel
theorem d2_1 : decode prog_45_method_9_code 1 = .ok (.iload_n 1, 1) := by decide +kernel
theorem d2_2 : decode prog_45_method_9_code 2 = .ok (.isub, 1) := by decide +kernel
theorem d2_3 : decode prog_45_method_9_code 3 = .ok (.aload_n 3, 1) := by decide +kernel
theorem d2_4 : decode prog_45_method_9_code 4 = .ok (.arraylength, 1) := by decide +kernel
theorem d2_5 : decode prog_45_method_9_code 5 = .ok (.if_icmp .lt 7, 3) := by decide +kernel
theorem d2_12 : decode prog_45_method_9_code 12 = .ok (.iconst 0, 1) := by decide +kernel
theorem d2_13 : decode prog_45_method_9_code 13 = .ok (.istore 4, 2) := by decide +kernel
theorem d2_15 : decode prog_45_method_9_code 15 = .ok (.iconst 0, 1) := by decide +kernel
theorem d2_16 : decode prog_45_method_9_code 16 = .ok (.istore 5, 2) := by decide +kernel
theorem d2_8 : decode prog_45_method_9_code 8 = .ok (.iconst 1, 1) := by decide +kernel
theorem d2_9 : decode prog_45_method_9_code 9 = .ok (.goto 4, 3) := by decide +kernel
theorem ef_2 (m : MethodId) (r0 : Addr) (p1 : Int32) (p2 : Int32) (r3 : Addr) : entryFrame m #[(.ref r0), (.int p1), (.int p2), (.ref r3)] 6 = mkF m 0 #[.val (.ref r0), .val (.int p1), .val (.int p2), .val (.ref r3), .unset, .unset] [] := by first | (simp [entryFrame, mkF, argsToLocals, Value.category]; done) | rfl
def Q2 (Z : State) (r0 : Addr) (p1 : Int32) (p2 : Int32) (r3 : Addr) (u : Nat → Int32) (w : Nat → Int32) (n : Nat) (ss : Nat) (ee : Nat) (h0 : Heap) (n0 : Nat) (v : Option Value) (h : Heap) (L : List Loc) : Prop := v = some (.int (own_sw u w ss (ee - ss) n)) ∧ Fr n0 L ∧ h = h0
set_option maxRecDepth 65536 in
set_option maxHeartbeats 40000000 in
theorem rm2 (l : Launch) (Z : State) (a0 : Array Value) (hw : ∀ d ∈ tables_1, d.before a0 Z = true) (ws : List Jvm.Cond) (r0 : Addr) (p1 : Int32) (p2 : Int32) (r3 : Addr) (u : Nat → Int32) (w : Nat → Int32) (n : Nat) (ss : Nat) (ee : Nat) (h0 : Heap) (n0 : Nat) (Z0 : n0 ≤ h0.size) (A0 : own_Ary Z h0 r0 .byte 4 (fun j => .int (u j))) (A3 : own_Ary Z h0 r3 .byte n (fun j => .int (w j))) (c1 : p1.toInt = (ss : Int)) (c2 : p2.toInt = (ee : Int)) (c3 : ss ≤ ee ∧ ee ≤ 4 ∧ n ≤ 4) :
    MetFree l (⟨"com/example/ledgerstrike/ledgerstrike/request/LineReader", "startsWith", "([BII[B)Z"⟩ : MethodName) (head1 (Jvm.Cond.code (⟨"com/example/ledgerstrike/ledgerstrike/request/LineReader", "startsWith", "([BII[B)Z"⟩ : MethodName) prog_45_method_9_code 6 (some .boolean) :: ws) ({ frames := 0, cells := 0, slots := 0, locals := 0 } : Room)) (fun a U => a = #[(.ref r0), (.int p1), (.int p2), (.ref r3)] ∧ Z.Warmed39 U.vm ∧ U.heap = h0) (fun _ _ _ _ _ => True) (fun _ U o U' => ∃ v L, o = .returned v ∧ Q2 Z r0 p1 p2 r3 u w n ss ee h0 n0 v U'.heap L ∧ FrameEnd U o U' L (({ frames := 0, cells := 0, slots := 0, locals := 0 } : Room)).cells (({ frames := 0, cells := 0, slots := 0, locals := 0 } : Room)).slots) := by
  refine MetFree.of_bodySF (plainFor_of_name pn_1) hisR ?_
  intro p e s m args below meth c s₁ Bd hml0 hP hK
  obtain ⟨rfl, hZ, hh⟩ := hP
  have hx := Bd.exec
  have hby := Bd.bytes
  have hml : c.maxLocals = 6 := hml0
  have hown : s.vm.findClass "com/example/ledgerstrike/ledgerstrike/request/LineReader" = some m.cls := findClass_of_methodNamed Bd.named
  have hnm := (name_of_methodNamed Bd.named Bd.method).1
  have hlk : meth.locks = false := Bd.notSynchronized
  have X0 : Stand p l e ({ frames := 0, cells := 0, slots := 0, locals := 0 } : Room) s m #[(.ref r0), (.int p1), (.int p2), (.ref r3)] below meth c s₁ [] 0 0 := Stand.of_body Bd
  have e0 : s₁.heap = h0 := by rw [← hh, Bd.state]; rfl
  have N0 := Fr.nil n0
  have hret := Bd.returns
  show own_Go p e below s (Q2 Z r0 p1 p2 r3 u w n ss ee h0 n0) _ _ (s₁.setTop (entryFrame m #[(.ref r0), (.int p1), (.int p2), (.ref r3)] 6))
  refine own_go (fun t k => castTop (ef_2 m r0 p1 p2 r3) k) ?_
  show own_Go p e below s _ _ _ (s₁.setTop (mkF m 0 #[.val (.ref r0), .val (.int p1), .val (.int p2), .val (.ref r3), .unset, .unset] []))
  have J56 : ∀ (T1 : State) (locs1 : List Loc) (X1 : Stand p l e ({ frames := 0, cells := 0, slots := 0, locals := 0 } : Room) s m #[(.ref r0), (.int p1), (.int p2), (.ref r3)] below meth c T1 locs1 0 0) (e1 : T1.heap = h0) (N1 : Fr n0 locs1) (z : Int32) (i : Int32) (hz : z = own_sw u w ss (ee - ss) n), own_Go p e below s (Q2 Z r0 p1 p2 r3 u w n ss ee h0 n0) (({ frames := 0, cells := 0, slots := 0, locals := 0 } : Room)).cells (({ frames := 0, cells := 0, slots := 0, locals := 0 } : Room)).slots (T1.setTop (mkF m 56 #[.val (.ref r0), .val (.int p1), .val (.int p2), .val (.ref r3), .val (.int z), .val (.int i)] [])) := by
    intro T1 locs1 X1 e1 N1 z i hz
    refine own_go (fun t_ kt_ => XS.iload X1.here hx rfl (hb hby d2_56) rfl kt_) ?_
    show own_Go p e below s _ _ _ (T1.setTop (mkF m 58 #[.val (.ref r0), .val (.int p1), .val (.int p2), .val (.ref r3), .val (.int z), .val (.int i)] [(.int z)]))
    refine own_ret X1 (v := some (.int (nar .boolean z))) (fun h => by rw [hret] at h; cases h) hlk ?_ (by decide) (by decide) (fun fs hr => retN X1 hx (t := .boolean) hret (by simp) (hb hby d2_58) hr)
    show Q2 Z r0 p1 p2 r3 u w n ss ee h0 n0 (some (.int (nar .boolean z))) T1.heap _
    rw [e1]
    exact ⟨congrArg (fun z => some (Value.int z)) (by rw [hz]; unfold own_sw; split <;> decide), N1, rfl⟩
  have J18 : ∀ (kk : Nat) (T2 : State) (locs2 : List Loc) (X2 : Stand p l e ({ frames := 0, cells := 0, slots := 0, locals := 0 } : Room) s m #[(.ref r0), (.int p1), (.int p2), (.ref r3)] below meth c T2 locs2 0 0) (e2 : T2.heap = h0) (N2 : Fr n0 locs2) (z : Int32) (i : Int32) (k : Nat) (hi : i.toInt = (k : Int)) (hk : k ≤ n) (hz : (z = 1 ∧ n ≤ ee - ss ∧ ∀ j, j < k → u (ss + j) = w j) ∨ (z = 0 ∧ ¬ (n ≤ ee - ss ∧ ∀ j, j < n → u (ss + j) = w j))) (hm : kk = n - k), own_Go p e below s (Q2 Z r0 p1 p2 r3 u w n ss ee h0 n0) (({ frames := 0, cells := 0, slots := 0, locals := 0 } : Room)).cells (({ frames := 0, cells := 0, slots := 0, locals := 0 } : Room)).slots (T2.setTop (mkF m 18 #[.val (.ref r0), .val (.int p1), .val (.int p2), .val (.ref r3), .val (.int z), .val (.int i)] [])) := by
    intro kk
    induction kk using Nat.strongRecOn with
    | ind kk ih =>
      intro T2 locs2 X2 e2 N2 z i k hi hk hz hm
      refine own_go (fun t_ kt_ => XS.iload X2.here hx rfl (hb hby d2_18) rfl kt_) ?_
      show own_Go p e below s _ _ _ (T2.setTop (mkF m 20 #[.val (.ref r0), .val (.int p1), .val (.int p2), .val (.ref r3), .val (.int z), .val (.int i)] [(.int z)]))
      by_cases hc20 : z = (0 : Int32)
      · skip
        have hi20 : z.toInt = 0 := congrArg Int32.toInt hc20
        refine own_go (fun t_ kt_ => XS.ifYes X2.here hx rfl (pc0 := 20) (pc' := 56) rfl (hb hby d2_20) rfl ((if0 _ _).trans (teq hc20).1) (by decide) (by decide) kt_) ?_
        show own_Go p e below s _ _ _ (T2.setTop (mkF m 56 #[.val (.ref r0), .val (.int p1), .val (.int p2), .val (.ref r3), .val (.int z), .val (.int i)] []))
        exact J56 T2 _ X2 e2 N2  (z) (i) (by unfold own_sw; first | rw [if_pos ⟨by omega, fun j hj => hz3 j (by omega)⟩]; exact hz1 | (rcases hz with ⟨h1, -, -⟩ | ⟨h1, h2⟩; (exact absurd (h1.symm.trans hc20) (by decide)); rw [if_neg h2]; exact h1))
      · skip
        have hi20 : ¬ z.toInt = 0 := fun q => hc20 (Int32.toInt_inj.mp q)
        refine own_go (fun t_ kt_ => XS.ifNo X2.here hx rfl (hb hby d2_20) rfl ((if0 _ _).trans (feq hc20).1) kt_) ?_
        show own_Go p e below s _ _ _ (T2.setTop (mkF m 23 #[.val (.ref r0), .val (.int p1), .val (.int p2), .val (.ref r3), .val (.int z), .val (.int i)] []))
        obtain ⟨hz1, hz2, hz3⟩ : z = 1 ∧ n ≤ ee - ss ∧ ∀ j, j < k → u (ss + j) = w j := by
          rcases hz with h | ⟨h1, -⟩
          · exact h
          · exact absurd h1 hc20
        refine own_go (fun t_ kt_ => XS.iload X2.here hx rfl (hb hby d2_23) rfl kt_) ?_
        show own_Go p e below s _ _ _ (T2.setTop (mkF m 25 #[.val (.ref r0), .val (.int p1), .val (.int p2), .val (.ref r3), .val (.int z), .val (.int i)] [(.int i)]))
        refine own_go (fun t_ kt_ => XS.aloadN X2.here hx rfl (hb hby d2_25) rfl rfl kt_) ?_
        show own_Go p e below s _ _ _ (T2.setTop (mkF m 26 #[.val (.ref r0), .val (.int p1), .val (.int p2), .val (.ref r3), .val (.int z), .val (.int i)] [(.ref r3), (.int i)]))
        obtain ⟨c3, Ar3, S3, G3⟩ := id A3
        have q3 : c3.slots.size.toInt32 = n.toInt32 := (congrArg Nat.toInt32 S3).trans rfl
        refine own_go (fun t_ kt_ => X2.arraylength hx (by rw [e2]; exact Ar3.1) (State.isArrayOf_alike hZ.alike Ar3.2.1) (g := (mkF m 26 #[.val (.ref r0), .val (.int p1), .val (.int p2), .val (.ref r3), .val (.int z), .val (.int i)] [(.ref r3), (.int i)])) rfl rfl (hb hby d2_26) _ (by rw [q3]; exact kt_)) ?_
        show own_Go p e below s _ _ _ (T2.setTop (mkF m 27 #[.val (.ref r0), .val (.int p1), .val (.int p2), .val (.ref r3), .val (.int z), .val (.int i)] [(.int n.toInt32), (.int i)]))
        by_cases hc27 : i < n.toInt32
        · skip
          have hi27 : i.toInt < (n.toInt32).toInt := Int32.lt_iff_toInt_lt.mp hc27
          refine own_go (fun t_ kt_ => XS.icmpNo X2.here hx rfl (hb hby d2_27) rfl (tlt hc27).2.1 kt_) ?_
          show own_Go p e below s _ _ _ (T2.setTop (mkF m 30 #[.val (.ref r0), .val (.int p1), .val (.int p2), .val (.ref r3), .val (.int z), .val (.int i)] []))
          have hkn : k < n := by have := own_t32 (n := n) (by omega); omega
          refine own_go (fun t_ kt_ => XS.aloadN X2.here hx rfl (hb hby d2_30) rfl rfl kt_) ?_
          show own_Go p e below s _ _ _ (T2.setTop (mkF m 31 #[.val (.ref r0), .val (.int p1), .val (.int p2), .val (.ref r3), .val (.int z), .val (.int i)] [(.ref r0)]))
          refine own_go (fun t_ kt_ => XS.iloadN X2.here hx rfl (hb hby d2_31) rfl kt_) ?_
          show own_Go p e below s _ _ _ (T2.setTop (mkF m 32 #[.val (.ref r0), .val (.int p1), .val (.int p2), .val (.ref r3), .val (.int z), .val (.int i)] [(.int p1), (.ref r0)]))
          refine own_go (fun t_ kt_ => XS.iload X2.here hx rfl (hb hby d2_32) rfl kt_) ?_
          show own_Go p e below s _ _ _ (T2.setTop (mkF m 34 #[.val (.ref r0), .val (.int p1), .val (.int p2), .val (.ref r3), .val (.int z), .val (.int i)] [(.int i), (.int p1), (.ref r0)]))
          refine own_go (fun t_ kt_ => XS.iadd X2.here hx rfl (hb hby d2_34) rfl kt_) ?_
          show own_Go p e below s _ _ _ (T2.setTop (mkF m 35 #[.val (.ref r0), .val (.int p1), .val (.int p2), .val (.ref r3), .val (.int z), .val (.int i)] [(.int (p1 + i)), (.ref r0)]))
          obtain ⟨c4, Ar4, S4, G4⟩ := id A0
          have q4 : c4.slots[((p1 + i)).toNatClampNeg]? = some (.int (u (ss + k))) := by rw [own_cl (j := (p1 + i)) (i := (ss + k)) (own_plus c1 hi (by omega))]; exact (G4 _ (by omega)).trans (congrArg some (rfl))
          refine own_go (fun t_ kt_ => X2.baloadBytes hx (j := (p1 + i)) (v := (.int (u (ss + k)))) (by rw [e2]; exact Ar4.1) (State.isArrayOf_alike hZ.alike Ar4.2.1) Ar4.2.2 (own_in (i := (ss + k)) S4 (own_plus c1 hi (by omega)) (by omega)) q4 (g := (mkF m 35 #[.val (.ref r0), .val (.int p1), .val (.int p2), .val (.ref r3), .val (.int z), .val (.int i)] [(.int (p1 + i)), (.ref r0)])) rfl rfl (hb hby d2_35) _ kt_) ?_
          show own_Go p e below s _ _ _ (T2.setTop (mkF m 36 #[.val (.ref r0), .val (.int p1), .val (.int p2), .val (.ref r3), .val (.int z), .val (.int i)] [(.int (u (ss + k)))]))
          refine own_go (fun t_ kt_ => XS.aloadN X2.here hx rfl (hb hby d2_36) rfl rfl kt_) ?_
          show own_Go p e below s _ _ _ (T2.setTop (mkF m 37 #[.val (.ref r0), .val (.int p1), .val (.int p2), .val (.ref r3), .val (.int z), .val (.int i)] [(.ref r3), (.int (u (ss + k)))]))
          refine own_go (fun t_ kt_ => XS.iload X2.here hx rfl (hb hby d2_37) rfl kt_) ?_
          show own_Go p e below s _ _ _ (T2.setTop (mkF m 39 #[.val (.ref r0), .val (.int p1), .val (.int p2), .val (.ref r3), .val (.int z), .val (.int i)] [(.int i), (.ref r3), (.int (u (ss + k)))]))
          obtain ⟨c5, Ar5, S5, G5⟩ := id A3
          have q5 : c5.slots[(i).toNatClampNeg]? = some (.int (w k)) := by rw [own_cl (j := i) (i := k) hi]; exact (G5 _ hkn).trans (congrArg some (rfl))
          refine own_go (fun t_ kt_ => X2.baloadBytes hx (j := i) (v := (.int (w k))) (by rw [e2]; exact Ar5.1) (State.isArrayOf_alike hZ.alike Ar5.2.1) Ar5.2.2 (own_in (i := k) S5 hi hkn) q5 (g := (mkF m 39 #[.val (.ref r0), .val (.int p1), .val (.int p2), .val (.ref r3), .val (.int z), .val (.int i)] [(.int i), (.ref r3), (.int (u (ss + k)))])) rfl rfl (hb hby d2_39) _ kt_) ?_
          show own_Go p e below s _ _ _ (T2.setTop (mkF m 40 #[.val (.ref r0), .val (.int p1), .val (.int p2), .val (.ref r3), .val (.int z), .val (.int i)] [(.int (w k)), (.int (u (ss + k)))]))
          by_cases hc40 : (u (ss + k)) = (w k)
          · skip
            have hi40 : ((u (ss + k))).toInt = ((w k)).toInt := congrArg Int32.toInt hc40
            refine own_go (fun t_ kt_ => XS.icmpNo X2.here hx rfl (hb hby d2_40) rfl (teq hc40).2 kt_) ?_
            show own_Go p e below s _ _ _ (T2.setTop (mkF m 43 #[.val (.ref r0), .val (.int p1), .val (.int p2), .val (.ref r3), .val (.int z), .val (.int i)] []))
            refine own_go (fun t_ kt_ => XS.iconst X2.here hx rfl (hb hby d2_43) kt_) ?_
            show own_Go p e below s _ _ _ (T2.setTop (mkF m 44 #[.val (.ref r0), .val (.int p1), .val (.int p2), .val (.ref r3), .val (.int z), .val (.int i)] [(.int (1 : Int32))]))
            refine own_go (fun t_ kt_ => XS.goto X2.here hx rfl (pc0 := 44) (pc' := 48) rfl (hb hby d2_44) (by decide) (by decide) kt_) ?_
            show own_Go p e below s _ _ _ (T2.setTop (mkF m 48 #[.val (.ref r0), .val (.int p1), .val (.int p2), .val (.ref r3), .val (.int z), .val (.int i)] [(.int (1 : Int32))]))
            refine own_go (fun t_ kt_ => XS.istore X2.here hx rfl (hb hby d2_48) rfl (l' := #[.val (.ref r0), .val (.int p1), .val (.int p2), .val (.ref r3), .val (.int (1 : Int32)), .val (.int i)]) rfl kt_) ?_
            show own_Go p e below s _ _ _ (T2.setTop (mkF m 50 #[.val (.ref r0), .val (.int p1), .val (.int p2), .val (.ref r3), .val (.int (1 : Int32)), .val (.int i)] []))
            refine own_go (fun t_ kt_ => XS.iinc X2.here hx rfl (hb hby d2_50) rfl (l' := #[.val (.ref r0), .val (.int p1), .val (.int p2), .val (.ref r3), .val (.int (1 : Int32)), .val (.int (i + (1 : Int32)))]) rfl kt_) ?_
            show own_Go p e below s _ _ _ (T2.setTop (mkF m 53 #[.val (.ref r0), .val (.int p1), .val (.int p2), .val (.ref r3), .val (.int (1 : Int32)), .val (.int (i + (1 : Int32)))] []))
            refine own_go (fun t_ kt_ => XS.goto X2.here hx rfl (pc0 := 53) (pc' := 18) rfl (hb hby d2_53) (by decide) (by decide) kt_) ?_
            show own_Go p e below s _ _ _ (T2.setTop (mkF m 18 #[.val (.ref r0), .val (.int p1), .val (.int p2), .val (.ref r3), .val (.int (1 : Int32)), .val (.int (i + (1 : Int32)))] []))
            exact ih (n - (k + 1)) (by omega) T2 _ X2 e2 N2  ((1 : Int32)) ((i + (1 : Int32))) ((k + 1)) (by rw [own_plus hi (show (1 : Int32).toInt = ((1 : Nat) : Int) from by decide) (by omega)]) (by omega) (by first | exact Or.inl ⟨rfl, hz2, own_up (P := fun j => u (ss + j) = w j) hz3 hc40⟩ | exact Or.inr ⟨rfl, fun q => hc40 (q.2 k hkn)⟩) (rfl)
          · skip
            have hi40 : ¬ ((u (ss + k))).toInt = ((w k)).toInt := fun q => hc40 (Int32.toInt_inj.mp q)
            refine own_go (fun t_ kt_ => XS.icmpYes X2.here hx rfl (pc0 := 40) (pc' := 47) rfl (hb hby d2_40) rfl (feq hc40).2 (by decide) (by decide) kt_) ?_
            show own_Go p e below s _ _ _ (T2.setTop (mkF m 47 #[.val (.ref r0), .val (.int p1), .val (.int p2), .val (.ref r3), .val (.int z), .val (.int i)] []))
            refine own_go (fun t_ kt_ => XS.iconst X2.here hx rfl (hb hby d2_47) kt_) ?_
            show own_Go p e below s _ _ _ (T2.setTop (mkF m 48 #[.val (.ref r0), .val (.int p1), .val (.int p2), .val (.ref r3), .val (.int z), .val (.int i)] [(.int (0 : Int32))]))
            refine own_go (fun t_ kt_ => XS.istore X2.here hx rfl (hb hby d2_48) rfl (l' := #[.val (.ref r0), .val (.int p1), .val (.int p2), .val (.ref r3), .val (.int (0 : Int32)), .val (.int i)]) rfl kt_) ?_
            show own_Go p e below s _ _ _ (T2.setTop (mkF m 50 #[.val (.ref r0), .val (.int p1), .val (.int p2), .val (.ref r3), .val (.int (0 : Int32)), .val (.int i)] []))
            refine own_go (fun t_ kt_ => XS.iinc X2.here hx rfl (hb hby d2_50) rfl (l' := #[.val (.ref r0), .val (.int p1), .val (.int p2), .val (.ref r3), .val (.int (0 : Int32)), .val (.int (i + (1 : Int32)))]) rfl kt_) ?_
            show own_Go p e below s _ _ _ (T2.setTop (mkF m 53 #[.val (.ref r0), .val (.int p1), .val (.int p2), .val (.ref r3), .val (.int (0 : Int32)), .val (.int (i + (1 : Int32)))] []))
            refine own_go (fun t_ kt_ => XS.goto X2.here hx rfl (pc0 := 53) (pc' := 18) rfl (hb hby d2_53) (by decide) (by decide) kt_) ?_
            show own_Go p e below s _ _ _ (T2.setTop (mkF m 18 #[.val (.ref r0), .val (.int p1), .val (.int p2), .val (.ref r3), .val (.int (0 : Int32)), .val (.int (i + (1 : Int32)))] []))
            exact ih (n - (k + 1)) (by omega) T2 _ X2 e2 N2  ((0 : Int32)) ((i + (1 : Int32))) ((k + 1)) (by rw [own_plus hi (show (1 : Int32).toInt = ((1 : Nat) : Int) from by decide) (by omega)]) (by omega) (by first | exact Or.inl ⟨rfl, hz2, own_up (P := fun j => u (ss + j) = w j) hz3 hc40⟩ | exact Or.inr ⟨rfl, fun q => hc40 (q.2 k hkn)⟩) (rfl)
        · skip
          have hi27 : ¬ i.toInt < (n.toInt32).toInt := fun q => hc27 (Int32.lt_iff_toInt_lt.mpr q)
          refine own_go (fun t_ kt_ => XS.icmpYes X2.here hx rfl (pc0 := 27) (pc' := 56) rfl (hb hby d2_27) rfl (flt hc27).2.1 (by decide) (by decide) kt_) ?_
          show own_Go p e below s _ _ _ (T2.setTop (mkF m 56 #[.val (.ref r0), .val (.int p1), .val (.int p2), .val (.ref r3), .val (.int z), .val (.int i)] []))
          have hkn : n ≤ k := by have := own_t32 (n := n) (by omega); omega
          exact J56 T2 _ X2 e2 N2  (z) (i) (by unfold own_sw; first | rw [if_pos ⟨by omega, fun j hj => hz3 j (by omega)⟩]; exact hz1 | (rcases hz with ⟨h1, -, -⟩ | ⟨h1, h2⟩; (exact absurd (h1.symm.trans hc20) (by decide)); rw [if_neg h2]; exact h1))
  refine own_go (fun t_ kt_ => XS.iloadN X0.here hx rfl (hb hby d2_0) rfl kt_) ?_
  show own_Go p e below s _ _ _ (s₁.setTop (mkF m 1 #[.val (.ref r0), .val (.int p1), .val (.int p2), .val (.ref r3), .unset, .unset] [(.int p2)]))
  refine own_go (fun t_ kt_ => XS.iloadN X0.here hx rfl (hb hby d2_1) rfl kt_) ?_
  show own_Go p e below s _ _ _ (s₁.setTop (mkF m 2 #[.val (.ref r0), .val (.int p1), .val (.int p2), .val (.ref r3), .unset, .unset] [(.int p1), (.int p2)]))
  refine own_go (fun t_ kt_ => XS.isub X0.here hx rfl (hb hby d2_2) rfl kt_) ?_
  show own_Go p e below s _ _ _ (s₁.setTop (mkF m 3 #[.val (.ref r0), .val (.int p1), .val (.int p2), .val (.ref r3), .unset, .unset] [(.int (p2 - p1))]))
  refine own_go (fun t_ kt_ => XS.aloadN X0.here hx rfl (hb hby d2_3) rfl rfl kt_) ?_
  show own_Go p e below s _ _ _ (s₁.setTop (mkF m 4 #[.val (.ref r0), .val (.int p1), .val (.int p2), .val (.ref r3), .unset, .unset] [(.ref r3), (.int (p2 - p1))]))
  obtain ⟨c6, Ar6, S6, G6⟩ := id A3
  have q6 : c6.slots.size.toInt32 = n.toInt32 := (congrArg Nat.toInt32 S6).trans rfl
  refine own_go (fun t_ kt_ => X0.arraylength hx (by rw [e0]; exact Ar6.1) (State.isArrayOf_alike hZ.alike Ar6.2.1) (g := (mkF m 4 #[.val (.ref r0), .val (.int p1), .val (.int p2), .val (.ref r3), .unset, .unset] [(.ref r3), (.int (p2 - p1))])) rfl rfl (hb hby d2_4) _ (by rw [q6]; exact kt_)) ?_
  show own_Go p e below s _ _ _ (s₁.setTop (mkF m 5 #[.val (.ref r0), .val (.int p1), .val (.int p2), .val (.ref r3), .unset, .unset] [(.int n.toInt32), (.int (p2 - p1))]))
  by_cases hc5 : (p2 - p1) < n.toInt32
  · skip
    have hi5 : ((p2 - p1)).toInt < (n.toInt32).toInt := Int32.lt_iff_toInt_lt.mp hc5
    refine own_go (fun t_ kt_ => XS.icmpYes X0.here hx rfl (pc0 := 5) (pc' := 12) rfl (hb hby d2_5) rfl (tlt hc5).1 (by decide) (by decide) kt_) ?_
    show own_Go p e below s _ _ _ (s₁.setTop (mkF m 12 #[.val (.ref r0), .val (.int p1), .val (.int p2), .val (.ref r3), .unset, .unset] []))
    have hd := own_sub (y := p2) (s := ss) (d := ee - ss) c1 (by omega) (by omega)
    have hn' := own_t32 (n := n) (by omega)
    refine own_go (fun t_ kt_ => XS.iconst X0.here hx rfl (hb hby d2_12) kt_) ?_
    show own_Go p e below s _ _ _ (s₁.setTop (mkF m 13 #[.val (.ref r0), .val (.int p1), .val (.int p2), .val (.ref r3), .unset, .unset] [(.int (0 : Int32))]))
    refine own_go (fun t_ kt_ => XS.istore X0.here hx rfl (hb hby d2_13) rfl (l' := #[.val (.ref r0), .val (.int p1), .val (.int p2), .val (.ref r3), .val (.int (0 : Int32)), .unset]) rfl kt_) ?_
    show own_Go p e below s _ _ _ (s₁.setTop (mkF m 15 #[.val (.ref r0), .val (.int p1), .val (.int p2), .val (.ref r3), .val (.int (0 : Int32)), .unset] []))
    refine own_go (fun t_ kt_ => XS.iconst X0.here hx rfl (hb hby d2_15) kt_) ?_
    show own_Go p e below s _ _ _ (s₁.setTop (mkF m 16 #[.val (.ref r0), .val (.int p1), .val (.int p2), .val (.ref r3), .val (.int (0 : Int32)), .unset] [(.int (0 : Int32))]))
    refine own_go (fun t_ kt_ => XS.istore X0.here hx rfl (hb hby d2_16) rfl (l' := #[.val (.ref r0), .val (.int p1), .val (.int p2), .val (.ref r3), .val (.int (0 : Int32)), .val (.int (0 : Int32))]) rfl kt_) ?_
    show own_Go p e below s _ _ _ (s₁.setTop (mkF m 18 #[.val (.ref r0), .val (.int p1), .val (.int p2), .val (.ref r3), .val (.int (0 : Int32)), .val (.int (0 : Int32))] []))
    exact J18 (n - 0) s₁ _ X0 e0 N0  ((0 : Int32)) ((0 : Int32)) (0) (by decide) (by omega) (by first | exact Or.inl ⟨rfl, by omega, fun j hj => absurd hj (Nat.not_lt_zero j)⟩ | exact Or.inr ⟨rfl, fun q => by omega⟩) (rfl)
  · skip
    have hi5 : ¬ ((p2 - p1)).toInt < (n.toInt32).toInt := fun q => hc5 (Int32.lt_iff_toInt_lt.mpr q)
    refine own_go (fun t_ kt_ => XS.icmpNo X0.here hx rfl (hb hby d2_5) rfl (flt hc5).1 kt_) ?_
    show own_Go p e below s _ _ _ (s₁.setTop (mkF m 8 #[.val (.ref r0), .val (.int p1), .val (.int p2), .val (.ref r3), .unset, .unset] []))
    have hd := own_sub (y := p2) (s := ss) (d := ee - ss) c1 (by omega) (by omega)
    have hn' := own_t32 (n := n) (by omega)
    refine own_go (fun t_ kt_ => XS.iconst X0.here hx rfl (hb hby d2_8) kt_) ?_
    show own_Go p e below s _ _ _ (s₁.setTop (mkF m 9 #[.val (.ref r0), .val (.int p1), .val (.int p2), .val (.ref r3), .unset, .unset] [(.int (1 : Int32))]))
    refine own_go (fun t_ kt_ => XS.goto X0.here hx rfl (pc0 := 9) (pc' := 13) rfl (hb hby d2_9) (by decide) (by decide) kt_) ?_
    show own_Go p e below s _ _ _ (s₁.setTop (mkF m 13 #[.val (.ref r0), .val (.int p1), .val (.int p2), .val (.ref r3), .unset, .unset] [(.int (1 : Int32))]))
    refine own_go (fun t_ kt_ => XS.istore X0.here hx rfl (hb hby d2_13) rfl (l' := #[.val (.ref r0), .val (.int p1), .val (.int p2), .val (.ref r3), .val (.int (1 : Int32)), .unset]) rfl kt_) ?_
    show own_Go p e below s _ _ _ (s₁.setTop (mkF m 15 #[.val (.ref r0), .val (.int p1), .val (.int p2), .val (.ref r3), .val (.int (1 : Int32)), .unset] []))
    refine own_go (fun t_ kt_ => XS.iconst X0.here hx rfl (hb hby d2_15) kt_) ?_
    show own_Go p e below s _ _ _ (s₁.setTop (mkF m 16 #[.val (.ref r0), .val (.int p1), .val (.int p2), .val (.ref r3), .val (.int (1 : Int32)), .unset] [(.int (0 : Int32))]))
    refine own_go (fun t_ kt_ => XS.istore X0.here hx rfl (hb hby d2_16) rfl (l' := #[.val (.ref r0), .val (.int p1), .val (.int p2), .val (.ref r3), .val (.int (1 : Int32)), .val (.int (0 : Int32))]) rfl kt_) ?_
    show own_Go p e below s _ _ _ (s₁.setTop (mkF m 18 #[.val (.ref r0), .val (.int p1), .val (.int p2), .val (.ref r3), .val (.int (1 : Int32)), .val (.int (0 : Int32))] []))
    exact J18 (n - 0) s₁ _ X0 e0 N0  ((1 : Int32)) ((0 : Int32)) (0) (by decide) (by omega) (by first | exact Or.inl ⟨rfl, by omega, fun j hj => absurd hj (Nat.not_lt_zero j)⟩ | exact Or.inr ⟨rfl, fun q => by omega⟩) (rfl)
theorem pd_0 : parseMethodDescriptor "(IBBBB)[B" = some ⟨[.int, .byte, .byte, .byte, .byte], some (.array .byte)⟩ := by decide +kernel
theorem pd_1 : parseMethodDescriptor "([BII[B)Z" = some ⟨[(.array .byte), .int, .int, (.array .byte)], some .boolean⟩ := by decide +kernel
theorem ef_0 (m : MethodId) (p0 : Int32) (p1 : Int32) (p2 : Int32) : entryFrame m #[(.int p0), (.int p1), (.int p2)] maxLocals = mkF m 0 #[.val (.int p0), .val (.int p1), .val (.int p2), .unset, .unset, .unset, .unset, .unset, .unset, .unset, .unset, .unset, .unset] [] := by first | (simp [entryFrame, mkF, argsToLocals, Value.category, maxLocals]; done) | rfl
def Q0 (Z : State) (p0 : Int32) (p1 : Int32) (p2 : Int32) (h0 : Heap) (n0 : Nat) (v : Option Value) (h : Heap) (L : List Loc) : Prop := v = some (.int 1) ∧ Fr n0 L
set_option maxRecDepth 65536 in
set_option maxHeartbeats 40000000 in
theorem rm0 (l : Launch) (Z : State) (a0 : Array Value) (hw : ∀ d ∈ tables_1, d.before a0 Z = true) (ws : List Jvm.Cond) (p0 : Int32) (p1 : Int32) (p2 : Int32) (h0 : Heap) (n0 : Nat) (Z0 : n0 ≤ h0.size) :
    MetFree l x (head1 (Jvm.Cond.code x code maxLocals ret :: ws) room_1) (fun a U => a = #[(.int p0), (.int p1), (.int p2)] ∧ Z.Warmed39 U.vm ∧ U.heap = h0) (fun _ _ _ _ _ => True) (fun _ U o U' => ∃ v L, o = .returned v ∧ Q0 Z p0 p1 p2 h0 n0 v U'.heap L ∧ FrameEnd U o U' L (room_1).cells (room_1).slots) := by
  refine MetFree.of_bodySF (plainFor_of_name pn_0) hisR ?_
  intro p e s m args below meth c s₁ Bd hml0 hP hK
  obtain ⟨rfl, hZ, hh⟩ := hP
  have hx := Bd.exec
  have hby := Bd.bytes
  have hml : c.maxLocals = 13 := hml0
  have hown : s.vm.findClass "com/example/ledgerstrike/ledgerstrike/request/LineReaderStartsWithPinLaw" = some m.cls := findClass_of_methodNamed Bd.named
  have hnm := (name_of_methodNamed Bd.named Bd.method).1
  have hlk : meth.locks = false := Bd.notSynchronized
  have X0 : Stand p l e room_1 s m #[(.int p0), (.int p1), (.int p2)] below meth c s₁ [] 0 0 := Stand.of_body Bd
  have e0 : s₁.heap = h0 := by rw [← hh, Bd.state]; rfl
  have N0 := Fr.nil n0
  have hret := Bd.returns
  show own_Go p e below s (Q0 Z p0 p1 p2 h0 n0) _ _ (s₁.setTop (entryFrame m #[(.int p0), (.int p1), (.int p2)] maxLocals))
  refine own_go (fun t k => castTop (ef_0 m p0 p1 p2) k) ?_
  show own_Go p e below s _ _ _ (s₁.setTop (mkF m 0 #[.val (.int p0), .val (.int p1), .val (.int p2), .unset, .unset, .unset, .unset, .unset, .unset, .unset, .unset, .unset, .unset] []))
  refine own_go (fun t_ kt_ => XS.iconst X0.here hx rfl (hb hby at_0) kt_) ?_
  show own_Go p e below s _ _ _ (s₁.setTop (mkF m 1 #[.val (.int p0), .val (.int p1), .val (.int p2), .unset, .unset, .unset, .unset, .unset, .unset, .unset, .unset, .unset, .unset] [(.int (4 : Int32))]))
  obtain ⟨T1, h1, k1, X1, e1, E1, A1, st1⟩ := newP X0 hx hZ (hw _ (List.mem_of_getElem? (i := 0) rfl)) e0 (g := (mkF m 1 #[.val (.int p0), .val (.int p1), .val (.int p2), .unset, .unset, .unset, .unset, .unset, .unset, .unset, .unset, .unset, .unset] [(.int (4 : Int32))])) rfl (hb hby at_1) rfl (by decide) (cap := 4) (by decide) (by decide) (by decide) (by decide)
  obtain ⟨b1, g1⟩ : ∃ z, z = h0.size := ⟨_, rfl⟩
  rw [← g1] at A1 st1
  refine own_go (fun t_ kt_ => st1 _ kt_) ?_
  have gt_b1 : n0 ≤ b1 := Nat.le_trans Z0 (Nat.le_of_eq g1.symm)
  have ZZ_1 : n0 ≤ h1.size := Nat.le_trans Z0 E1.1
  have V_b1 : own_Ary Z h1 b1 .byte 4 (fun _ => (.int (0 : Int32))) := own_Ary.new A1 (by decide)
  show own_Go p e below s _ _ _ (T1.setTop (mkF m 3 #[.val (.int p0), .val (.int p1), .val (.int p2), .unset, .unset, .unset, .unset, .unset, .unset, .unset, .unset, .unset, .unset] [(.ref b1)]))
  refine own_go (fun t_ kt_ => XS.dup X1.here hx rfl (hb hby at_3) rfl rfl kt_) ?_
  show own_Go p e below s _ _ _ (T1.setTop (mkF m 4 #[.val (.int p0), .val (.int p1), .val (.int p2), .unset, .unset, .unset, .unset, .unset, .unset, .unset, .unset, .unset, .unset] [(.ref b1), (.ref b1)]))
  refine own_go (fun t_ kt_ => XS.iconst X1.here hx rfl (hb hby at_4) kt_) ?_
  show own_Go p e below s _ _ _ (T1.setTop (mkF m 5 #[.val (.int p0), .val (.int p1), .val (.int p2), .unset, .unset, .unset, .unset, .unset, .unset, .unset, .unset, .unset, .unset] [(.int (0 : Int32)), (.ref b1), (.ref b1)]))
  refine own_go (fun t_ kt_ => XS.iloadN X1.here hx rfl (hb hby at_5) rfl kt_) ?_
  show own_Go p e below s _ _ _ (T1.setTop (mkF m 6 #[.val (.int p0), .val (.int p1), .val (.int p2), .unset, .unset, .unset, .unset, .unset, .unset, .unset, .unset, .unset, .unset] [(.int p0), (.int (0 : Int32)), (.ref b1), (.ref b1)]))
  refine own_go (fun t_ kt_ => XS.i2b X1.here hx rfl (hb hby at_6) rfl kt_) ?_
  show own_Go p e below s _ _ _ (T1.setTop (mkF m 7 #[.val (.int p0), .val (.int p1), .val (.int p2), .unset, .unset, .unset, .unset, .unset, .unset, .unset, .unset, .unset, .unset] [(.int (p0.toInt8.toInt32)), (.int (0 : Int32)), (.ref b1), (.ref b1)]))
  obtain ⟨c2, Ar2, S2, G2⟩ := id V_b1
  obtain ⟨T2, h2, X2, e2, W2, st2⟩ := stB X1 hx hZ e1 Ar2 (j := (0 : Int32)) (own_in (i := 0) S2 (by decide) (by decide)) (g := (mkF m 7 #[.val (.int p0), .val (.int p1), .val (.int p2), .unset, .unset, .unset, .unset, .unset, .unset, .unset, .unset, .unset, .unset] [(.int (p0.toInt8.toInt32)), (.int (0 : Int32)), (.ref b1), (.ref b1)])) rfl rfl (hb hby at_7)
  rw [own_cl (j := (0 : Int32)) (i := 0) (by decide)] at W2 X2
  refine own_go (fun t_ kt_ => st2 _ kt_) ?_
  have N2 := Fr.snoc X2 N0 gt_b1
  rw [(own_nb8 _ : nar .byte (p0.toInt8.toInt32) = (p0.toInt8.toInt32))] at W2
  have ZZ_2 : n0 ≤ h2.size := Nat.le_trans ZZ_1 (Nat.le_of_eq W2.size.symm)
  have V_b1_2 : own_Ary Z h2 b1 .byte 4 (own_set (fun _ => (.int (0 : Int32))) 0 (.int (p0.toInt8.toInt32))) := own_Ary.set Ar2 S2 G2 W2
  show own_Go p e below s _ _ _ (T2.setTop (mkF m 8 #[.val (.int p0), .val (.int p1), .val (.int p2), .unset, .unset, .unset, .unset, .unset, .unset, .unset, .unset, .unset, .unset] [(.ref b1)]))
  refine own_go (fun t_ kt_ => XS.dup X2.here hx rfl (hb hby at_8) rfl rfl kt_) ?_
  show own_Go p e below s _ _ _ (T2.setTop (mkF m 9 #[.val (.int p0), .val (.int p1), .val (.int p2), .unset, .unset, .unset, .unset, .unset, .unset, .unset, .unset, .unset, .unset] [(.ref b1), (.ref b1)]))
  refine own_go (fun t_ kt_ => XS.iconst X2.here hx rfl (hb hby at_9) kt_) ?_
  show own_Go p e below s _ _ _ (T2.setTop (mkF m 10 #[.val (.int p0), .val (.int p1), .val (.int p2), .unset, .unset, .unset, .unset, .unset, .unset, .unset, .unset, .unset, .unset] [(.int (1 : Int32)), (.ref b1), (.ref b1)]))
  refine own_go (fun t_ kt_ => XS.iloadN X2.here hx rfl (hb hby at_10) rfl kt_) ?_
  show own_Go p e below s _ _ _ (T2.setTop (mkF m 11 #[.val (.int p0), .val (.int p1), .val (.int p2), .unset, .unset, .unset, .unset, .unset, .unset, .unset, .unset, .unset, .unset] [(.int p0), (.int (1 : Int32)), (.ref b1), (.ref b1)]))
  refine own_go (fun t_ kt_ => XS.bipush X2.here hx rfl (hb hby at_11) kt_) ?_
  show own_Go p e below s _ _ _ (T2.setTop (mkF m 13 #[.val (.int p0), .val (.int p1), .val (.int p2), .unset, .unset, .unset, .unset, .unset, .unset, .unset, .unset, .unset, .unset] [(.int (8 : Int32)), (.int p0), (.int (1 : Int32)), (.ref b1), (.ref b1)]))
  refine own_go (fun t_ kt_ => XS.ishr X2.here hx rfl (hb hby at_13) rfl kt_) ?_
  show own_Go p e below s _ _ _ (T2.setTop (mkF m 14 #[.val (.int p0), .val (.int p1), .val (.int p2), .unset, .unset, .unset, .unset, .unset, .unset, .unset, .unset, .unset, .unset] [(.int (p0 >>> ((8 : Int32) &&& 31))), (.int (1 : Int32)), (.ref b1), (.ref b1)]))
  refine own_go (fun t_ kt_ => XS.i2b X2.here hx rfl (hb hby at_14) rfl kt_) ?_
  show own_Go p e below s _ _ _ (T2.setTop (mkF m 15 #[.val (.int p0), .val (.int p1), .val (.int p2), .unset, .unset, .unset, .unset, .unset, .unset, .unset, .unset, .unset, .unset] [(.int ((p0 >>> ((8 : Int32) &&& 31)).toInt8.toInt32)), (.int (1 : Int32)), (.ref b1), (.ref b1)]))
  obtain ⟨c3, Ar3, S3, G3⟩ := id V_b1_2
  obtain ⟨T3, h3, X3, e3, W3, st3⟩ := stB X2 hx hZ e2 Ar3 (j := (1 : Int32)) (own_in (i := 1) S3 (by decide) (by decide)) (g := (mkF m 15 #[.val (.int p0), .val (.int p1), .val (.int p2), .unset, .unset, .unset, .unset, .unset, .unset, .unset, .unset, .unset, .unset] [(.int ((p0 >>> ((8 : Int32) &&& 31)).toInt8.toInt32)), (.int (1 : Int32)), (.ref b1), (.ref b1)])) rfl rfl (hb hby at_15)
  rw [own_cl (j := (1 : Int32)) (i := 1) (by decide)] at W3 X3
  refine own_go (fun t_ kt_ => st3 _ kt_) ?_
  have N3 := Fr.snoc X3 N2 gt_b1
  rw [(own_nb8 _ : nar .byte ((p0 >>> ((8 : Int32) &&& 31)).toInt8.toInt32) = ((p0 >>> ((8 : Int32) &&& 31)).toInt8.toInt32))] at W3
  have ZZ_3 : n0 ≤ h3.size := Nat.le_trans ZZ_2 (Nat.le_of_eq W3.size.symm)
  have V_b1_3 : own_Ary Z h3 b1 .byte 4 (own_set (own_set (fun _ => (.int (0 : Int32))) 0 (.int (p0.toInt8.toInt32))) 1 (.int ((p0 >>> ((8 : Int32) &&& 31)).toInt8.toInt32))) := own_Ary.set Ar3 S3 G3 W3
  show own_Go p e below s _ _ _ (T3.setTop (mkF m 16 #[.val (.int p0), .val (.int p1), .val (.int p2), .unset, .unset, .unset, .unset, .unset, .unset, .unset, .unset, .unset, .unset] [(.ref b1)]))
  refine own_go (fun t_ kt_ => XS.dup X3.here hx rfl (hb hby at_16) rfl rfl kt_) ?_
  show own_Go p e below s _ _ _ (T3.setTop (mkF m 17 #[.val (.int p0), .val (.int p1), .val (.int p2), .unset, .unset, .unset, .unset, .unset, .unset, .unset, .unset, .unset, .unset] [(.ref b1), (.ref b1)]))
  refine own_go (fun t_ kt_ => XS.iconst X3.here hx rfl (hb hby at_17) kt_) ?_
  show own_Go p e below s _ _ _ (T3.setTop (mkF m 18 #[.val (.int p0), .val (.int p1), .val (.int p2), .unset, .unset, .unset, .unset, .unset, .unset, .unset, .unset, .unset, .unset] [(.int (2 : Int32)), (.ref b1), (.ref b1)]))
  refine own_go (fun t_ kt_ => XS.iloadN X3.here hx rfl (hb hby at_18) rfl kt_) ?_
  show own_Go p e below s _ _ _ (T3.setTop (mkF m 19 #[.val (.int p0), .val (.int p1), .val (.int p2), .unset, .unset, .unset, .unset, .unset, .unset, .unset, .unset, .unset, .unset] [(.int p0), (.int (2 : Int32)), (.ref b1), (.ref b1)]))
  refine own_go (fun t_ kt_ => XS.bipush X3.here hx rfl (hb hby at_19) kt_) ?_
  show own_Go p e below s _ _ _ (T3.setTop (mkF m 21 #[.val (.int p0), .val (.int p1), .val (.int p2), .unset, .unset, .unset, .unset, .unset, .unset, .unset, .unset, .unset, .unset] [(.int (16 : Int32)), (.int p0), (.int (2 : Int32)), (.ref b1), (.ref b1)]))
  refine own_go (fun t_ kt_ => XS.ishr X3.here hx rfl (hb hby at_21) rfl kt_) ?_
  show own_Go p e below s _ _ _ (T3.setTop (mkF m 22 #[.val (.int p0), .val (.int p1), .val (.int p2), .unset, .unset, .unset, .unset, .unset, .unset, .unset, .unset, .unset, .unset] [(.int (p0 >>> ((16 : Int32) &&& 31))), (.int (2 : Int32)), (.ref b1), (.ref b1)]))
  refine own_go (fun t_ kt_ => XS.i2b X3.here hx rfl (hb hby at_22) rfl kt_) ?_
  show own_Go p e below s _ _ _ (T3.setTop (mkF m 23 #[.val (.int p0), .val (.int p1), .val (.int p2), .unset, .unset, .unset, .unset, .unset, .unset, .unset, .unset, .unset, .unset] [(.int ((p0 >>> ((16 : Int32) &&& 31)).toInt8.toInt32)), (.int (2 : Int32)), (.ref b1), (.ref b1)]))
  obtain ⟨c4, Ar4, S4, G4⟩ := id V_b1_3
  obtain ⟨T4, h4, X4, e4, W4, st4⟩ := stB X3 hx hZ e3 Ar4 (j := (2 : Int32)) (own_in (i := 2) S4 (by decide) (by decide)) (g := (mkF m 23 #[.val (.int p0), .val (.int p1), .val (.int p2), .unset, .unset, .unset, .unset, .unset, .unset, .unset, .unset, .unset, .unset] [(.int ((p0 >>> ((16 : Int32) &&& 31)).toInt8.toInt32)), (.int (2 : Int32)), (.ref b1), (.ref b1)])) rfl rfl (hb hby at_23)
  rw [own_cl (j := (2 : Int32)) (i := 2) (by decide)] at W4 X4
  refine own_go (fun t_ kt_ => st4 _ kt_) ?_
  have N4 := Fr.snoc X4 N3 gt_b1
  rw [(own_nb8 _ : nar .byte ((p0 >>> ((16 : Int32) &&& 31)).toInt8.toInt32) = ((p0 >>> ((16 : Int32) &&& 31)).toInt8.toInt32))] at W4
  have ZZ_4 : n0 ≤ h4.size := Nat.le_trans ZZ_3 (Nat.le_of_eq W4.size.symm)
  have V_b1_4 : own_Ary Z h4 b1 .byte 4 (own_set (own_set (own_set (fun _ => (.int (0 : Int32))) 0 (.int (p0.toInt8.toInt32))) 1 (.int ((p0 >>> ((8 : Int32) &&& 31)).toInt8.toInt32))) 2 (.int ((p0 >>> ((16 : Int32) &&& 31)).toInt8.toInt32))) := own_Ary.set Ar4 S4 G4 W4
  show own_Go p e below s _ _ _ (T4.setTop (mkF m 24 #[.val (.int p0), .val (.int p1), .val (.int p2), .unset, .unset, .unset, .unset, .unset, .unset, .unset, .unset, .unset, .unset] [(.ref b1)]))
  refine own_go (fun t_ kt_ => XS.dup X4.here hx rfl (hb hby at_24) rfl rfl kt_) ?_
  show own_Go p e below s _ _ _ (T4.setTop (mkF m 25 #[.val (.int p0), .val (.int p1), .val (.int p2), .unset, .unset, .unset, .unset, .unset, .unset, .unset, .unset, .unset, .unset] [(.ref b1), (.ref b1)]))
  refine own_go (fun t_ kt_ => XS.iconst X4.here hx rfl (hb hby at_25) kt_) ?_
  show own_Go p e below s _ _ _ (T4.setTop (mkF m 26 #[.val (.int p0), .val (.int p1), .val (.int p2), .unset, .unset, .unset, .unset, .unset, .unset, .unset, .unset, .unset, .unset] [(.int (3 : Int32)), (.ref b1), (.ref b1)]))
  refine own_go (fun t_ kt_ => XS.iloadN X4.here hx rfl (hb hby at_26) rfl kt_) ?_
  show own_Go p e below s _ _ _ (T4.setTop (mkF m 27 #[.val (.int p0), .val (.int p1), .val (.int p2), .unset, .unset, .unset, .unset, .unset, .unset, .unset, .unset, .unset, .unset] [(.int p0), (.int (3 : Int32)), (.ref b1), (.ref b1)]))
  refine own_go (fun t_ kt_ => XS.bipush X4.here hx rfl (hb hby at_27) kt_) ?_
  show own_Go p e below s _ _ _ (T4.setTop (mkF m 29 #[.val (.int p0), .val (.int p1), .val (.int p2), .unset, .unset, .unset, .unset, .unset, .unset, .unset, .unset, .unset, .unset] [(.int (24 : Int32)), (.int p0), (.int (3 : Int32)), (.ref b1), (.ref b1)]))
  refine own_go (fun t_ kt_ => XS.ishr X4.here hx rfl (hb hby at_29) rfl kt_) ?_
  show own_Go p e below s _ _ _ (T4.setTop (mkF m 30 #[.val (.int p0), .val (.int p1), .val (.int p2), .unset, .unset, .unset, .unset, .unset, .unset, .unset, .unset, .unset, .unset] [(.int (p0 >>> ((24 : Int32) &&& 31))), (.int (3 : Int32)), (.ref b1), (.ref b1)]))
  refine own_go (fun t_ kt_ => XS.i2b X4.here hx rfl (hb hby at_30) rfl kt_) ?_
  show own_Go p e below s _ _ _ (T4.setTop (mkF m 31 #[.val (.int p0), .val (.int p1), .val (.int p2), .unset, .unset, .unset, .unset, .unset, .unset, .unset, .unset, .unset, .unset] [(.int ((p0 >>> ((24 : Int32) &&& 31)).toInt8.toInt32)), (.int (3 : Int32)), (.ref b1), (.ref b1)]))
  obtain ⟨c5, Ar5, S5, G5⟩ := id V_b1_4
  obtain ⟨T5, h5, X5, e5, W5, st5⟩ := stB X4 hx hZ e4 Ar5 (j := (3 : Int32)) (own_in (i := 3) S5 (by decide) (by decide)) (g := (mkF m 31 #[.val (.int p0), .val (.int p1), .val (.int p2), .unset, .unset, .unset, .unset, .unset, .unset, .unset, .unset, .unset, .unset] [(.int ((p0 >>> ((24 : Int32) &&& 31)).toInt8.toInt32)), (.int (3 : Int32)), (.ref b1), (.ref b1)])) rfl rfl (hb hby at_31)
  rw [own_cl (j := (3 : Int32)) (i := 3) (by decide)] at W5 X5
  refine own_go (fun t_ kt_ => st5 _ kt_) ?_
  have N5 := Fr.snoc X5 N4 gt_b1
  rw [(own_nb8 _ : nar .byte ((p0 >>> ((24 : Int32) &&& 31)).toInt8.toInt32) = ((p0 >>> ((24 : Int32) &&& 31)).toInt8.toInt32))] at W5
  have ZZ_5 : n0 ≤ h5.size := Nat.le_trans ZZ_4 (Nat.le_of_eq W5.size.symm)
  have V_b1_5 : own_Ary Z h5 b1 .byte 4 (own_set (own_set (own_set (own_set (fun _ => (.int (0 : Int32))) 0 (.int (p0.toInt8.toInt32))) 1 (.int ((p0 >>> ((8 : Int32) &&& 31)).toInt8.toInt32))) 2 (.int ((p0 >>> ((16 : Int32) &&& 31)).toInt8.toInt32))) 3 (.int ((p0 >>> ((24 : Int32) &&& 31)).toInt8.toInt32))) := own_Ary.set Ar5 S5 G5 W5
  show own_Go p e below s _ _ _ (T5.setTop (mkF m 32 #[.val (.int p0), .val (.int p1), .val (.int p2), .unset, .unset, .unset, .unset, .unset, .unset, .unset, .unset, .unset, .unset] [(.ref b1)]))
  obtain ⟨u, hu⟩ : ∃ u : Nat → Int32, u = own_pf (p0.toInt8.toInt32) ((p0 >>> ((8 : Int32) &&& 31)).toInt8.toInt32) ((p0 >>> ((16 : Int32) &&& 31)).toInt8.toInt32) ((p0 >>> ((24 : Int32) &&& 31)).toInt8.toInt32) := ⟨_, rfl⟩
  have VL : own_Ary Z h5 b1 .byte 4 (fun j => .int (u j)) := V_b1_5.congr (by
    intro j hj
    rw [hu]
    rcases (by omega : j = 0 ∨ j = 1 ∨ j = 2 ∨ j = 3) with rfl | rfl | rfl | rfl <;> rfl)
  refine own_go (fun t_ kt_ => XS.astoreN X5.here hx rfl (hb hby at_32) rfl rfl (l' := #[.val (.int p0), .val (.int p1), .val (.int p2), .val (.ref b1), .unset, .unset, .unset, .unset, .unset, .unset, .unset, .unset, .unset]) rfl kt_) ?_
  show own_Go p e below s _ _ _ (T5.setTop (mkF m 33 #[.val (.int p0), .val (.int p1), .val (.int p2), .val (.ref b1), .unset, .unset, .unset, .unset, .unset, .unset, .unset, .unset, .unset] []))
  refine own_go (fun t_ kt_ => XS.iloadN X5.here hx rfl (hb hby at_33) rfl kt_) ?_
  show own_Go p e below s _ _ _ (T5.setTop (mkF m 34 #[.val (.int p0), .val (.int p1), .val (.int p2), .val (.ref b1), .unset, .unset, .unset, .unset, .unset, .unset, .unset, .unset, .unset] [(.int p1)]))
  refine own_go (fun t_ kt_ => XS.i2b X5.here hx rfl (hb hby at_34) rfl kt_) ?_
  show own_Go p e below s _ _ _ (T5.setTop (mkF m 35 #[.val (.int p0), .val (.int p1), .val (.int p2), .val (.ref b1), .unset, .unset, .unset, .unset, .unset, .unset, .unset, .unset, .unset] [(.int (p1.toInt8.toInt32))]))
  refine own_go (fun t_ kt_ => XS.istore X5.here hx rfl (hb hby at_35) rfl (l' := #[.val (.int p0), .val (.int p1), .val (.int p2), .val (.ref b1), .val (.int (p1.toInt8.toInt32)), .unset, .unset, .unset, .unset, .unset, .unset, .unset, .unset]) rfl kt_) ?_
  show own_Go p e below s _ _ _ (T5.setTop (mkF m 37 #[.val (.int p0), .val (.int p1), .val (.int p2), .val (.ref b1), .val (.int (p1.toInt8.toInt32)), .unset, .unset, .unset, .unset, .unset, .unset, .unset, .unset] []))
  obtain ⟨c0, hc0⟩ : ∃ z, z = (p1.toInt8.toInt32) := ⟨_, rfl⟩
  rw [← hc0]
  show own_Go p e below s _ _ _ (T5.setTop (mkF m 37 #[.val (.int p0), .val (.int p1), .val (.int p2), .val (.ref b1), .val (.int c0), .unset, .unset, .unset, .unset, .unset, .unset, .unset, .unset] []))
  have nc0 : nar .byte c0 = c0 := by rw [hc0]; exact own_nb8 _
  refine own_go (fun t_ kt_ => XS.iloadN X5.here hx rfl (hb hby at_37) rfl kt_) ?_
  show own_Go p e below s _ _ _ (T5.setTop (mkF m 38 #[.val (.int p0), .val (.int p1), .val (.int p2), .val (.ref b1), .val (.int c0), .unset, .unset, .unset, .unset, .unset, .unset, .unset, .unset] [(.int p1)]))
  refine own_go (fun t_ kt_ => XS.bipush X5.here hx rfl (hb hby at_38) kt_) ?_
  show own_Go p e below s _ _ _ (T5.setTop (mkF m 40 #[.val (.int p0), .val (.int p1), .val (.int p2), .val (.ref b1), .val (.int c0), .unset, .unset, .unset, .unset, .unset, .unset, .unset, .unset] [(.int (8 : Int32)), (.int p1)]))
  refine own_go (fun t_ kt_ => XS.ishr X5.here hx rfl (hb hby at_40) rfl kt_) ?_
  show own_Go p e below s _ _ _ (T5.setTop (mkF m 41 #[.val (.int p0), .val (.int p1), .val (.int p2), .val (.ref b1), .val (.int c0), .unset, .unset, .unset, .unset, .unset, .unset, .unset, .unset] [(.int (p1 >>> ((8 : Int32) &&& 31)))]))
  refine own_go (fun t_ kt_ => XS.i2b X5.here hx rfl (hb hby at_41) rfl kt_) ?_
  show own_Go p e below s _ _ _ (T5.setTop (mkF m 42 #[.val (.int p0), .val (.int p1), .val (.int p2), .val (.ref b1), .val (.int c0), .unset, .unset, .unset, .unset, .unset, .unset, .unset, .unset] [(.int ((p1 >>> ((8 : Int32) &&& 31)).toInt8.toInt32))]))
  refine own_go (fun t_ kt_ => XS.istore X5.here hx rfl (hb hby at_42) rfl (l' := #[.val (.int p0), .val (.int p1), .val (.int p2), .val (.ref b1), .val (.int c0), .val (.int ((p1 >>> ((8 : Int32) &&& 31)).toInt8.toInt32)), .unset, .unset, .unset, .unset, .unset, .unset, .unset]) rfl kt_) ?_
  show own_Go p e below s _ _ _ (T5.setTop (mkF m 44 #[.val (.int p0), .val (.int p1), .val (.int p2), .val (.ref b1), .val (.int c0), .val (.int ((p1 >>> ((8 : Int32) &&& 31)).toInt8.toInt32)), .unset, .unset, .unset, .unset, .unset, .unset, .unset] []))
  obtain ⟨c1, hc1⟩ : ∃ z, z = ((p1 >>> ((8 : Int32) &&& 31)).toInt8.toInt32) := ⟨_, rfl⟩
  rw [← hc1]
  show own_Go p e below s _ _ _ (T5.setTop (mkF m 44 #[.val (.int p0), .val (.int p1), .val (.int p2), .val (.ref b1), .val (.int c0), .val (.int c1), .unset, .unset, .unset, .unset, .unset, .unset, .unset] []))
  have nc1 : nar .byte c1 = c1 := by rw [hc1]; exact own_nb8 _
  refine own_go (fun t_ kt_ => XS.iloadN X5.here hx rfl (hb hby at_44) rfl kt_) ?_
  show own_Go p e below s _ _ _ (T5.setTop (mkF m 45 #[.val (.int p0), .val (.int p1), .val (.int p2), .val (.ref b1), .val (.int c0), .val (.int c1), .unset, .unset, .unset, .unset, .unset, .unset, .unset] [(.int p1)]))
  refine own_go (fun t_ kt_ => XS.bipush X5.here hx rfl (hb hby at_45) kt_) ?_
  show own_Go p e below s _ _ _ (T5.setTop (mkF m 47 #[.val (.int p0), .val (.int p1), .val (.int p2), .val (.ref b1), .val (.int c0), .val (.int c1), .unset, .unset, .unset, .unset, .unset, .unset, .unset] [(.int (16 : Int32)), (.int p1)]))
  refine own_go (fun t_ kt_ => XS.ishr X5.here hx rfl (hb hby at_47) rfl kt_) ?_
  show own_Go p e below s _ _ _ (T5.setTop (mkF m 48 #[.val (.int p0), .val (.int p1), .val (.int p2), .val (.ref b1), .val (.int c0), .val (.int c1), .unset, .unset, .unset, .unset, .unset, .unset, .unset] [(.int (p1 >>> ((16 : Int32) &&& 31)))]))
  refine own_go (fun t_ kt_ => XS.i2b X5.here hx rfl (hb hby at_48) rfl kt_) ?_
  show own_Go p e below s _ _ _ (T5.setTop (mkF m 49 #[.val (.int p0), .val (.int p1), .val (.int p2), .val (.ref b1), .val (.int c0), .val (.int c1), .unset, .unset, .unset, .unset, .unset, .unset, .unset] [(.int ((p1 >>> ((16 : Int32) &&& 31)).toInt8.toInt32))]))
  refine own_go (fun t_ kt_ => XS.istore X5.here hx rfl (hb hby at_49) rfl (l' := #[.val (.int p0), .val (.int p1), .val (.int p2), .val (.ref b1), .val (.int c0), .val (.int c1), .val (.int ((p1 >>> ((16 : Int32) &&& 31)).toInt8.toInt32)), .unset, .unset, .unset, .unset, .unset, .unset]) rfl kt_) ?_
  show own_Go p e below s _ _ _ (T5.setTop (mkF m 51 #[.val (.int p0), .val (.int p1), .val (.int p2), .val (.ref b1), .val (.int c0), .val (.int c1), .val (.int ((p1 >>> ((16 : Int32) &&& 31)).toInt8.toInt32)), .unset, .unset, .unset, .unset, .unset, .unset] []))
  obtain ⟨c2, hc2⟩ : ∃ z, z = ((p1 >>> ((16 : Int32) &&& 31)).toInt8.toInt32) := ⟨_, rfl⟩
  rw [← hc2]
  show own_Go p e below s _ _ _ (T5.setTop (mkF m 51 #[.val (.int p0), .val (.int p1), .val (.int p2), .val (.ref b1), .val (.int c0), .val (.int c1), .val (.int c2), .unset, .unset, .unset, .unset, .unset, .unset] []))
  have nc2 : nar .byte c2 = c2 := by rw [hc2]; exact own_nb8 _
  refine own_go (fun t_ kt_ => XS.iloadN X5.here hx rfl (hb hby at_51) rfl kt_) ?_
  show own_Go p e below s _ _ _ (T5.setTop (mkF m 52 #[.val (.int p0), .val (.int p1), .val (.int p2), .val (.ref b1), .val (.int c0), .val (.int c1), .val (.int c2), .unset, .unset, .unset, .unset, .unset, .unset] [(.int p1)]))
  refine own_go (fun t_ kt_ => XS.bipush X5.here hx rfl (hb hby at_52) kt_) ?_
  show own_Go p e below s _ _ _ (T5.setTop (mkF m 54 #[.val (.int p0), .val (.int p1), .val (.int p2), .val (.ref b1), .val (.int c0), .val (.int c1), .val (.int c2), .unset, .unset, .unset, .unset, .unset, .unset] [(.int (24 : Int32)), (.int p1)]))
  refine own_go (fun t_ kt_ => XS.ishr X5.here hx rfl (hb hby at_54) rfl kt_) ?_
  show own_Go p e below s _ _ _ (T5.setTop (mkF m 55 #[.val (.int p0), .val (.int p1), .val (.int p2), .val (.ref b1), .val (.int c0), .val (.int c1), .val (.int c2), .unset, .unset, .unset, .unset, .unset, .unset] [(.int (p1 >>> ((24 : Int32) &&& 31)))]))
  refine own_go (fun t_ kt_ => XS.i2b X5.here hx rfl (hb hby at_55) rfl kt_) ?_
  show own_Go p e below s _ _ _ (T5.setTop (mkF m 56 #[.val (.int p0), .val (.int p1), .val (.int p2), .val (.ref b1), .val (.int c0), .val (.int c1), .val (.int c2), .unset, .unset, .unset, .unset, .unset, .unset] [(.int ((p1 >>> ((24 : Int32) &&& 31)).toInt8.toInt32))]))
  refine own_go (fun t_ kt_ => XS.istore X5.here hx rfl (hb hby at_56) rfl (l' := #[.val (.int p0), .val (.int p1), .val (.int p2), .val (.ref b1), .val (.int c0), .val (.int c1), .val (.int c2), .val (.int ((p1 >>> ((24 : Int32) &&& 31)).toInt8.toInt32)), .unset, .unset, .unset, .unset, .unset]) rfl kt_) ?_
  show own_Go p e below s _ _ _ (T5.setTop (mkF m 58 #[.val (.int p0), .val (.int p1), .val (.int p2), .val (.ref b1), .val (.int c0), .val (.int c1), .val (.int c2), .val (.int ((p1 >>> ((24 : Int32) &&& 31)).toInt8.toInt32)), .unset, .unset, .unset, .unset, .unset] []))
  obtain ⟨c3, hc3⟩ : ∃ z, z = ((p1 >>> ((24 : Int32) &&& 31)).toInt8.toInt32) := ⟨_, rfl⟩
  rw [← hc3]
  show own_Go p e below s _ _ _ (T5.setTop (mkF m 58 #[.val (.int p0), .val (.int p1), .val (.int p2), .val (.ref b1), .val (.int c0), .val (.int c1), .val (.int c2), .val (.int c3), .unset, .unset, .unset, .unset, .unset] []))
  have nc3 : nar .byte c3 = c3 := by rw [hc3]; exact own_nb8 _
  refine own_go (fun t_ kt_ => XS.iloadN X5.here hx rfl (hb hby at_58) rfl kt_) ?_
  show own_Go p e below s _ _ _ (T5.setTop (mkF m 59 #[.val (.int p0), .val (.int p1), .val (.int p2), .val (.ref b1), .val (.int c0), .val (.int c1), .val (.int c2), .val (.int c3), .unset, .unset, .unset, .unset, .unset] [(.int p2)]))
  refine own_go (fun t_ kt_ => XS.bipush X5.here hx rfl (hb hby at_59) kt_) ?_
  show own_Go p e below s _ _ _ (T5.setTop (mkF m 61 #[.val (.int p0), .val (.int p1), .val (.int p2), .val (.ref b1), .val (.int c0), .val (.int c1), .val (.int c2), .val (.int c3), .unset, .unset, .unset, .unset, .unset] [(.int (7 : Int32)), (.int p2)]))
  refine own_go (fun t_ kt_ => XS.iand X5.here hx rfl (hb hby at_61) rfl kt_) ?_
  show own_Go p e below s _ _ _ (T5.setTop (mkF m 62 #[.val (.int p0), .val (.int p1), .val (.int p2), .val (.ref b1), .val (.int c0), .val (.int c1), .val (.int c2), .val (.int c3), .unset, .unset, .unset, .unset, .unset] [(.int (p2 &&& (7 : Int32)))]))
  refine own_go (fun t_ kt_ => XS.iconst X5.here hx rfl (hb hby at_62) kt_) ?_
  show own_Go p e below s _ _ _ (T5.setTop (mkF m 63 #[.val (.int p0), .val (.int p1), .val (.int p2), .val (.ref b1), .val (.int c0), .val (.int c1), .val (.int c2), .val (.int c3), .unset, .unset, .unset, .unset, .unset] [(.int (5 : Int32)), (.int (p2 &&& (7 : Int32)))]))
  refine own_go (fun t_ kt_ => iremM X5 hx rfl (hb hby at_63) rfl (by decide) kt_) ?_
  show own_Go p e below s _ _ _ (T5.setTop (mkF m 64 #[.val (.int p0), .val (.int p1), .val (.int p2), .val (.ref b1), .val (.int c0), .val (.int c1), .val (.int c2), .val (.int c3), .unset, .unset, .unset, .unset, .unset] [(.int ((p2 &&& (7 : Int32)) % (5 : Int32)))]))
  refine own_go (fun t_ kt_ => XS.istore X5.here hx rfl (hb hby at_64) rfl (l' := #[.val (.int p0), .val (.int p1), .val (.int p2), .val (.ref b1), .val (.int c0), .val (.int c1), .val (.int c2), .val (.int c3), .val (.int ((p2 &&& (7 : Int32)) % (5 : Int32))), .unset, .unset, .unset, .unset]) rfl kt_) ?_
  show own_Go p e below s _ _ _ (T5.setTop (mkF m 66 #[.val (.int p0), .val (.int p1), .val (.int p2), .val (.ref b1), .val (.int c0), .val (.int c1), .val (.int c2), .val (.int c3), .val (.int ((p2 &&& (7 : Int32)) % (5 : Int32))), .unset, .unset, .unset, .unset] []))
  obtain ⟨nn, hnn⟩ : ∃ z, z = ((p2 &&& (7 : Int32)) % (5 : Int32)) := ⟨_, rfl⟩
  rw [← hnn]
  show own_Go p e below s _ _ _ (T5.setTop (mkF m 66 #[.val (.int p0), .val (.int p1), .val (.int p2), .val (.ref b1), .val (.int c0), .val (.int c1), .val (.int c2), .val (.int c3), .val (.int nn), .unset, .unset, .unset, .unset] []))
  obtain ⟨n, hn, hn4⟩ : ∃ n : Nat, nn.toInt = (n : Int) ∧ n ≤ 4 := by rw [hnn]; exact own_q7 _
  refine own_go (fun t_ kt_ => XS.iloadN X5.here hx rfl (hb hby at_66) rfl kt_) ?_
  show own_Go p e below s _ _ _ (T5.setTop (mkF m 67 #[.val (.int p0), .val (.int p1), .val (.int p2), .val (.ref b1), .val (.int c0), .val (.int c1), .val (.int c2), .val (.int c3), .val (.int nn), .unset, .unset, .unset, .unset] [(.int p2)]))
  refine own_go (fun t_ kt_ => XS.iconst X5.here hx rfl (hb hby at_67) kt_) ?_
  show own_Go p e below s _ _ _ (T5.setTop (mkF m 68 #[.val (.int p0), .val (.int p1), .val (.int p2), .val (.ref b1), .val (.int c0), .val (.int c1), .val (.int c2), .val (.int c3), .val (.int nn), .unset, .unset, .unset, .unset] [(.int (3 : Int32)), (.int p2)]))
  refine own_go (fun t_ kt_ => XS.iushr X5.here hx rfl (hb hby at_68) rfl kt_) ?_
  show own_Go p e below s _ _ _ (T5.setTop (mkF m 69 #[.val (.int p0), .val (.int p1), .val (.int p2), .val (.ref b1), .val (.int c0), .val (.int c1), .val (.int c2), .val (.int c3), .val (.int nn), .unset, .unset, .unset, .unset] [(.int ((p2.toUInt32 >>> ((3 : Int32) &&& 31).toUInt32).toInt32))]))
  refine own_go (fun t_ kt_ => XS.bipush X5.here hx rfl (hb hby at_69) kt_) ?_
  show own_Go p e below s _ _ _ (T5.setTop (mkF m 71 #[.val (.int p0), .val (.int p1), .val (.int p2), .val (.ref b1), .val (.int c0), .val (.int c1), .val (.int c2), .val (.int c3), .val (.int nn), .unset, .unset, .unset, .unset] [(.int (7 : Int32)), (.int ((p2.toUInt32 >>> ((3 : Int32) &&& 31).toUInt32).toInt32))]))
  refine own_go (fun t_ kt_ => XS.iand X5.here hx rfl (hb hby at_71) rfl kt_) ?_
  show own_Go p e below s _ _ _ (T5.setTop (mkF m 72 #[.val (.int p0), .val (.int p1), .val (.int p2), .val (.ref b1), .val (.int c0), .val (.int c1), .val (.int c2), .val (.int c3), .val (.int nn), .unset, .unset, .unset, .unset] [(.int (((p2.toUInt32 >>> ((3 : Int32) &&& 31).toUInt32).toInt32) &&& (7 : Int32)))]))
  refine own_go (fun t_ kt_ => XS.iconst X5.here hx rfl (hb hby at_72) kt_) ?_
  show own_Go p e below s _ _ _ (T5.setTop (mkF m 73 #[.val (.int p0), .val (.int p1), .val (.int p2), .val (.ref b1), .val (.int c0), .val (.int c1), .val (.int c2), .val (.int c3), .val (.int nn), .unset, .unset, .unset, .unset] [(.int (5 : Int32)), (.int (((p2.toUInt32 >>> ((3 : Int32) &&& 31).toUInt32).toInt32) &&& (7 : Int32)))]))
  refine own_go (fun t_ kt_ => iremM X5 hx rfl (hb hby at_73) rfl (by decide) kt_) ?_
  show own_Go p e below s _ _ _ (T5.setTop (mkF m 74 #[.val (.int p0), .val (.int p1), .val (.int p2), .val (.ref b1), .val (.int c0), .val (.int c1), .val (.int c2), .val (.int c3), .val (.int nn), .unset, .unset, .unset, .unset] [(.int ((((p2.toUInt32 >>> ((3 : Int32) &&& 31).toUInt32).toInt32) &&& (7 : Int32)) % (5 : Int32)))]))
  refine own_go (fun t_ kt_ => XS.istore X5.here hx rfl (hb hby at_74) rfl (l' := #[.val (.int p0), .val (.int p1), .val (.int p2), .val (.ref b1), .val (.int c0), .val (.int c1), .val (.int c2), .val (.int c3), .val (.int nn), .val (.int ((((p2.toUInt32 >>> ((3 : Int32) &&& 31).toUInt32).toInt32) &&& (7 : Int32)) % (5 : Int32))), .unset, .unset, .unset]) rfl kt_) ?_
  show own_Go p e below s _ _ _ (T5.setTop (mkF m 76 #[.val (.int p0), .val (.int p1), .val (.int p2), .val (.ref b1), .val (.int c0), .val (.int c1), .val (.int c2), .val (.int c3), .val (.int nn), .val (.int ((((p2.toUInt32 >>> ((3 : Int32) &&& 31).toUInt32).toInt32) &&& (7 : Int32)) % (5 : Int32))), .unset, .unset, .unset] []))
  obtain ⟨sv, hsv⟩ : ∃ z, z = ((((p2.toUInt32 >>> ((3 : Int32) &&& 31).toUInt32).toInt32) &&& (7 : Int32)) % (5 : Int32)) := ⟨_, rfl⟩
  rw [← hsv]
  show own_Go p e below s _ _ _ (T5.setTop (mkF m 76 #[.val (.int p0), .val (.int p1), .val (.int p2), .val (.ref b1), .val (.int c0), .val (.int c1), .val (.int c2), .val (.int c3), .val (.int nn), .val (.int sv), .unset, .unset, .unset] []))
  obtain ⟨ss, hs, hs4⟩ : ∃ n : Nat, sv.toInt = (n : Int) ∧ n ≤ 4 := by rw [hsv]; exact own_q7 _
  refine own_go (fun t_ kt_ => XS.iload X5.here hx rfl (hb hby at_76) rfl kt_) ?_
  show own_Go p e below s _ _ _ (T5.setTop (mkF m 78 #[.val (.int p0), .val (.int p1), .val (.int p2), .val (.ref b1), .val (.int c0), .val (.int c1), .val (.int c2), .val (.int c3), .val (.int nn), .val (.int sv), .unset, .unset, .unset] [(.int sv)]))
  refine own_go (fun t_ kt_ => XS.iloadN X5.here hx rfl (hb hby at_78) rfl kt_) ?_
  show own_Go p e below s _ _ _ (T5.setTop (mkF m 79 #[.val (.int p0), .val (.int p1), .val (.int p2), .val (.ref b1), .val (.int c0), .val (.int c1), .val (.int c2), .val (.int c3), .val (.int nn), .val (.int sv), .unset, .unset, .unset] [(.int p2), (.int sv)]))
  refine own_go (fun t_ kt_ => XS.bipush X5.here hx rfl (hb hby at_79) kt_) ?_
  show own_Go p e below s _ _ _ (T5.setTop (mkF m 81 #[.val (.int p0), .val (.int p1), .val (.int p2), .val (.ref b1), .val (.int c0), .val (.int c1), .val (.int c2), .val (.int c3), .val (.int nn), .val (.int sv), .unset, .unset, .unset] [(.int (6 : Int32)), (.int p2), (.int sv)]))
  refine own_go (fun t_ kt_ => XS.iushr X5.here hx rfl (hb hby at_81) rfl kt_) ?_
  show own_Go p e below s _ _ _ (T5.setTop (mkF m 82 #[.val (.int p0), .val (.int p1), .val (.int p2), .val (.ref b1), .val (.int c0), .val (.int c1), .val (.int c2), .val (.int c3), .val (.int nn), .val (.int sv), .unset, .unset, .unset] [(.int ((p2.toUInt32 >>> ((6 : Int32) &&& 31).toUInt32).toInt32)), (.int sv)]))
  refine own_go (fun t_ kt_ => XS.bipush X5.here hx rfl (hb hby at_82) kt_) ?_
  show own_Go p e below s _ _ _ (T5.setTop (mkF m 84 #[.val (.int p0), .val (.int p1), .val (.int p2), .val (.ref b1), .val (.int c0), .val (.int c1), .val (.int c2), .val (.int c3), .val (.int nn), .val (.int sv), .unset, .unset, .unset] [(.int (7 : Int32)), (.int ((p2.toUInt32 >>> ((6 : Int32) &&& 31).toUInt32).toInt32)), (.int sv)]))
  refine own_go (fun t_ kt_ => XS.iand X5.here hx rfl (hb hby at_84) rfl kt_) ?_
  show own_Go p e below s _ _ _ (T5.setTop (mkF m 85 #[.val (.int p0), .val (.int p1), .val (.int p2), .val (.ref b1), .val (.int c0), .val (.int c1), .val (.int c2), .val (.int c3), .val (.int nn), .val (.int sv), .unset, .unset, .unset] [(.int (((p2.toUInt32 >>> ((6 : Int32) &&& 31).toUInt32).toInt32) &&& (7 : Int32))), (.int sv)]))
  refine own_go (fun t_ kt_ => XS.iconst X5.here hx rfl (hb hby at_85) kt_) ?_
  show own_Go p e below s _ _ _ (T5.setTop (mkF m 86 #[.val (.int p0), .val (.int p1), .val (.int p2), .val (.ref b1), .val (.int c0), .val (.int c1), .val (.int c2), .val (.int c3), .val (.int nn), .val (.int sv), .unset, .unset, .unset] [(.int (5 : Int32)), (.int (((p2.toUInt32 >>> ((6 : Int32) &&& 31).toUInt32).toInt32) &&& (7 : Int32))), (.int sv)]))
  refine own_go (fun t_ kt_ => XS.iload X5.here hx rfl (hb hby at_86) rfl kt_) ?_
  show own_Go p e below s _ _ _ (T5.setTop (mkF m 88 #[.val (.int p0), .val (.int p1), .val (.int p2), .val (.ref b1), .val (.int c0), .val (.int c1), .val (.int c2), .val (.int c3), .val (.int nn), .val (.int sv), .unset, .unset, .unset] [(.int sv), (.int (5 : Int32)), (.int (((p2.toUInt32 >>> ((6 : Int32) &&& 31).toUInt32).toInt32) &&& (7 : Int32))), (.int sv)]))
  refine own_go (fun t_ kt_ => XS.isub X5.here hx rfl (hb hby at_88) rfl kt_) ?_
  show own_Go p e below s _ _ _ (T5.setTop (mkF m 89 #[.val (.int p0), .val (.int p1), .val (.int p2), .val (.ref b1), .val (.int c0), .val (.int c1), .val (.int c2), .val (.int c3), .val (.int nn), .val (.int sv), .unset, .unset, .unset] [(.int ((5 : Int32) - sv)), (.int (((p2.toUInt32 >>> ((6 : Int32) &&& 31).toUInt32).toInt32) &&& (7 : Int32))), (.int sv)]))
  refine own_go (fun t_ kt_ => iremM X5 hx rfl (hb hby at_89) rfl (own_five0 hs hs4) kt_) ?_
  show own_Go p e below s _ _ _ (T5.setTop (mkF m 90 #[.val (.int p0), .val (.int p1), .val (.int p2), .val (.ref b1), .val (.int c0), .val (.int c1), .val (.int c2), .val (.int c3), .val (.int nn), .val (.int sv), .unset, .unset, .unset] [(.int ((((p2.toUInt32 >>> ((6 : Int32) &&& 31).toUInt32).toInt32) &&& (7 : Int32)) % ((5 : Int32) - sv))), (.int sv)]))
  refine own_go (fun t_ kt_ => XS.iadd X5.here hx rfl (hb hby at_90) rfl kt_) ?_
  show own_Go p e below s _ _ _ (T5.setTop (mkF m 91 #[.val (.int p0), .val (.int p1), .val (.int p2), .val (.ref b1), .val (.int c0), .val (.int c1), .val (.int c2), .val (.int c3), .val (.int nn), .val (.int sv), .unset, .unset, .unset] [(.int (sv + ((((p2.toUInt32 >>> ((6 : Int32) &&& 31).toUInt32).toInt32) &&& (7 : Int32)) % ((5 : Int32) - sv))))]))
  refine own_go (fun t_ kt_ => XS.istore X5.here hx rfl (hb hby at_91) rfl (l' := #[.val (.int p0), .val (.int p1), .val (.int p2), .val (.ref b1), .val (.int c0), .val (.int c1), .val (.int c2), .val (.int c3), .val (.int nn), .val (.int sv), .val (.int (sv + ((((p2.toUInt32 >>> ((6 : Int32) &&& 31).toUInt32).toInt32) &&& (7 : Int32)) % ((5 : Int32) - sv)))), .unset, .unset]) rfl kt_) ?_
  show own_Go p e below s _ _ _ (T5.setTop (mkF m 93 #[.val (.int p0), .val (.int p1), .val (.int p2), .val (.ref b1), .val (.int c0), .val (.int c1), .val (.int c2), .val (.int c3), .val (.int nn), .val (.int sv), .val (.int (sv + ((((p2.toUInt32 >>> ((6 : Int32) &&& 31).toUInt32).toInt32) &&& (7 : Int32)) % ((5 : Int32) - sv)))), .unset, .unset] []))
  obtain ⟨ev, hev⟩ : ∃ z, z = (sv + ((((p2.toUInt32 >>> ((6 : Int32) &&& 31).toUInt32).toInt32) &&& (7 : Int32)) % ((5 : Int32) - sv))) := ⟨_, rfl⟩
  rw [← hev]
  show own_Go p e below s _ _ _ (T5.setTop (mkF m 93 #[.val (.int p0), .val (.int p1), .val (.int p2), .val (.ref b1), .val (.int c0), .val (.int c1), .val (.int c2), .val (.int c3), .val (.int nn), .val (.int sv), .val (.int ev), .unset, .unset] []))
  obtain ⟨dd, he, he4⟩ : ∃ d : Nat, ev.toInt = ((ss + d : Nat) : Int) ∧ ss + d ≤ 4 := by rw [hev]; exact own_end hs hs4
  have hd := own_sub hs he he4
  obtain ⟨w, hw'⟩ : ∃ w : Nat → Int32, w = own_pf c0 c1 c2 c3 := ⟨_, rfl⟩
  have w0 : w 0 = c0 := by rw [hw']; rfl
  have w1 : w 1 = c1 := by rw [hw']; rfl
  have w2 : w 2 = c2 := by rw [hw']; rfl
  have w3 : w 3 = c3 := by rw [hw']; rfl
  refine own_go (fun t_ kt_ => XS.iload X5.here hx rfl (hb hby at_93) rfl kt_) ?_
  show own_Go p e below s _ _ _ (T5.setTop (mkF m 95 #[.val (.int p0), .val (.int p1), .val (.int p2), .val (.ref b1), .val (.int c0), .val (.int c1), .val (.int c2), .val (.int c3), .val (.int nn), .val (.int sv), .val (.int ev), .unset, .unset] [(.int nn)]))
  refine own_go (fun t_ kt_ => XS.iload X5.here hx rfl (hb hby at_95) rfl kt_) ?_
  show own_Go p e below s _ _ _ (T5.setTop (mkF m 97 #[.val (.int p0), .val (.int p1), .val (.int p2), .val (.ref b1), .val (.int c0), .val (.int c1), .val (.int c2), .val (.int c3), .val (.int nn), .val (.int sv), .val (.int ev), .unset, .unset] [(.int c0), (.int nn)]))
  refine own_go (fun t_ kt_ => XS.iload X5.here hx rfl (hb hby at_97) rfl kt_) ?_
  show own_Go p e below s _ _ _ (T5.setTop (mkF m 99 #[.val (.int p0), .val (.int p1), .val (.int p2), .val (.ref b1), .val (.int c0), .val (.int c1), .val (.int c2), .val (.int c3), .val (.int nn), .val (.int sv), .val (.int ev), .unset, .unset] [(.int c1), (.int c0), (.int nn)]))
  refine own_go (fun t_ kt_ => XS.iload X5.here hx rfl (hb hby at_99) rfl kt_) ?_
  show own_Go p e below s _ _ _ (T5.setTop (mkF m 101 #[.val (.int p0), .val (.int p1), .val (.int p2), .val (.ref b1), .val (.int c0), .val (.int c1), .val (.int c2), .val (.int c3), .val (.int nn), .val (.int sv), .val (.int ev), .unset, .unset] [(.int c2), (.int c1), (.int c0), (.int nn)]))
  refine own_go (fun t_ kt_ => XS.iload X5.here hx rfl (hb hby at_101) rfl kt_) ?_
  show own_Go p e below s _ _ _ (T5.setTop (mkF m 103 #[.val (.int p0), .val (.int p1), .val (.int p2), .val (.ref b1), .val (.int c0), .val (.int c1), .val (.int c2), .val (.int c3), .val (.int nn), .val (.int sv), .val (.int ev), .unset, .unset] [(.int c3), (.int c2), (.int c1), (.int c0), (.int nn)]))
  obtain ⟨_, _, ⟨T6, L6, k6, n6⟩, -, X6, ⟨Lc6, hQ6, l6, y6, z6⟩, st6⟩ := Jvm.LawKit.callS X5 hx (y := (⟨"com/example/ledgerstrike/ledgerstrike/request/LineReaderStartsWithPinLaw", "prefix", "(IBBBB)[B"⟩ : MethodName)) hown (mvT hZ (hw _ (List.mem_of_getElem? (i := 1) rfl))) (mvT hZ (hw _ (List.mem_of_getElem? (i := 2) rfl))) (mvT hZ (hw _ (List.mem_of_getElem? (i := 3) rfl))) (mvT hZ (hw _ (List.mem_of_getElem? (i := 4) rfl))) (by decide) (backOf (W := 0) (rm1 l Z a0 hw [] (nn) (c0) (c1) (c2) (c3) h5 n0 ZZ_5 nc0 nc1 nc2 nc3 ⟨by omega, by omega⟩) hZ (hw _ (List.mem_of_getElem? (i := 4) rfl)) (hw _ (List.mem_of_getElem? (i := 3) rfl)) (by decide) (by decide)) (g := (mkF m 103 #[.val (.int p0), .val (.int p1), .val (.int p2), .val (.ref b1), .val (.int c0), .val (.int c1), .val (.int c2), .val (.int c3), .val (.int nn), .val (.int sv), .val (.int ev), .unset, .unset] [(.int c3), (.int c2), (.int c1), (.int c0), (.int nn)])) rfl (by rw [hml]; rfl) (argsL := [(.int nn), (.int c0), (.int c1), (.int c2), (.int c3)]) (rest := []) (lenOf pd_0 rfl) rfl (by show 2 * 0 + _ ≤ _; exact Nat.le_of_eq rfl) (hb hby at_103) (fun _ _ => ⟨rfl, e5, (by decide : 1 + 1 ≤ _), (by decide : 4 + 4 ≤ _)⟩)
  dsimp only [Pt.U, Pt.locs, Pt.cells, Pt.slots] at X6 l6 y6 z6 st6 hQ6
  subst l6 y6 z6
  obtain ⟨bp, rfl, Nq6, Kq6, gq6, Vq6⟩ := hQ6
  have N6 := Fr.app N5 Nq6
  refine own_go (fun t_ kt_ => st6 _ kt_) ?_
  obtain ⟨h6, e6⟩ : ∃ z, T6.heap = z := ⟨_, rfl⟩
  rw [e6] at Kq6 Vq6
  have ZZ_6 : n0 ≤ h6.size := Nat.le_trans ZZ_5 Kq6.1
  have V_b1_6 : own_Ary Z h6 b1 .byte 4 (fun j => .int (u j)) := VL.keep Kq6 nin0
  have VP : own_Ary Z h6 bp .byte n (fun j => .int (w j)) := by rw [hw', ← (by omega : nn.toInt.toNat = n)]; exact Vq6
  show own_Go p e below s _ _ _ (T6.setTop (mkF m 106 #[.val (.int p0), .val (.int p1), .val (.int p2), .val (.ref b1), .val (.int c0), .val (.int c1), .val (.int c2), .val (.int c3), .val (.int nn), .val (.int sv), .val (.int ev), .unset, .unset] [(.ref bp)]))
  refine own_go (fun t_ kt_ => XS.astore X6.here hx rfl (hb hby at_106) rfl rfl (l' := #[.val (.int p0), .val (.int p1), .val (.int p2), .val (.ref b1), .val (.int c0), .val (.int c1), .val (.int c2), .val (.int c3), .val (.int nn), .val (.int sv), .val (.int ev), .val (.ref bp), .unset]) rfl kt_) ?_
  show own_Go p e below s _ _ _ (T6.setTop (mkF m 108 #[.val (.int p0), .val (.int p1), .val (.int p2), .val (.ref b1), .val (.int c0), .val (.int c1), .val (.int c2), .val (.int c3), .val (.int nn), .val (.int sv), .val (.int ev), .val (.ref bp), .unset] []))
  have J189 : ∀ (T7 : State) (locs7 : List Loc) (X7 : Stand p l e room_1 s m #[(.int p0), (.int p1), (.int p2)] below meth c T7 locs7 2 8) (e7 : T7.heap = h6) (N7 : Fr n0 locs7) (z : Int32) (hz : z = own_sw u w ss (ss + dd - ss) n), own_Go p e below s (Q0 Z p0 p1 p2 h0 n0) (room_1).cells (room_1).slots (T7.setTop (mkF m 189 #[.val (.int p0), .val (.int p1), .val (.int p2), .val (.ref b1), .val (.int c0), .val (.int c1), .val (.int c2), .val (.int c3), .val (.int nn), .val (.int sv), .val (.int ev), .val (.ref bp), .unset] [(.int z)])) := by
    intro T7 locs7 X7 e7 N7 z hz
    refine own_go (fun t_ kt_ => XS.istore X7.here hx rfl (hb hby at_189) rfl (l' := #[.val (.int p0), .val (.int p1), .val (.int p2), .val (.ref b1), .val (.int c0), .val (.int c1), .val (.int c2), .val (.int c3), .val (.int nn), .val (.int sv), .val (.int ev), .val (.ref bp), .val (.int z)]) rfl kt_) ?_
    show own_Go p e below s _ _ _ (T7.setTop (mkF m 191 #[.val (.int p0), .val (.int p1), .val (.int p2), .val (.ref b1), .val (.int c0), .val (.int c1), .val (.int c2), .val (.int c3), .val (.int nn), .val (.int sv), .val (.int ev), .val (.ref bp), .val (.int z)] []))
    refine own_go (fun t_ kt_ => XS.aloadN X7.here hx rfl (hb hby at_191) rfl rfl kt_) ?_
    show own_Go p e below s _ _ _ (T7.setTop (mkF m 192 #[.val (.int p0), .val (.int p1), .val (.int p2), .val (.ref b1), .val (.int c0), .val (.int c1), .val (.int c2), .val (.int c3), .val (.int nn), .val (.int sv), .val (.int ev), .val (.ref bp), .val (.int z)] [(.ref b1)]))
    refine own_go (fun t_ kt_ => XS.iload X7.here hx rfl (hb hby at_192) rfl kt_) ?_
    show own_Go p e below s _ _ _ (T7.setTop (mkF m 194 #[.val (.int p0), .val (.int p1), .val (.int p2), .val (.ref b1), .val (.int c0), .val (.int c1), .val (.int c2), .val (.int c3), .val (.int nn), .val (.int sv), .val (.int ev), .val (.ref bp), .val (.int z)] [(.int sv), (.ref b1)]))
    refine own_go (fun t_ kt_ => XS.iload X7.here hx rfl (hb hby at_194) rfl kt_) ?_
    show own_Go p e below s _ _ _ (T7.setTop (mkF m 196 #[.val (.int p0), .val (.int p1), .val (.int p2), .val (.ref b1), .val (.int c0), .val (.int c1), .val (.int c2), .val (.int c3), .val (.int nn), .val (.int sv), .val (.int ev), .val (.ref bp), .val (.int z)] [(.int ev), (.int sv), (.ref b1)]))
    refine own_go (fun t_ kt_ => XS.aload X7.here hx rfl (hb hby at_196) rfl rfl kt_) ?_
    show own_Go p e below s _ _ _ (T7.setTop (mkF m 198 #[.val (.int p0), .val (.int p1), .val (.int p2), .val (.ref b1), .val (.int c0), .val (.int c1), .val (.int c2), .val (.int c3), .val (.int nn), .val (.int sv), .val (.int ev), .val (.ref bp), .val (.int z)] [(.ref bp), (.int ev), (.int sv), (.ref b1)]))
    obtain ⟨_, _, ⟨T8, L8, k8, n8⟩, -, X8, ⟨Lc8, hQ8, l8, y8, z8⟩, st8⟩ := Jvm.LawKit.callS X7 hx (y := (⟨"com/example/ledgerstrike/ledgerstrike/request/LineReader", "startsWith", "([BII[B)Z"⟩ : MethodName)) hown (mvT hZ (hw _ (List.mem_of_getElem? (i := 5) rfl))) (mvT hZ (hw _ (List.mem_of_getElem? (i := 6) rfl))) (mvT hZ (hw _ (List.mem_of_getElem? (i := 7) rfl))) (mvT hZ (hw _ (List.mem_of_getElem? (i := 8) rfl))) (by decide) (backOf (W := 0) (rm2 l Z a0 hw [] (b1) (sv) (ev) (bp) (u) (w) (n) (ss) (ss + dd) h6 n0 ZZ_6 V_b1_6 VP hs he ⟨by omega, by omega, hn4⟩) hZ (hw _ (List.mem_of_getElem? (i := 8) rfl)) (hw _ (List.mem_of_getElem? (i := 7) rfl)) (by decide) (by decide)) (g := (mkF m 198 #[.val (.int p0), .val (.int p1), .val (.int p2), .val (.ref b1), .val (.int c0), .val (.int c1), .val (.int c2), .val (.int c3), .val (.int nn), .val (.int sv), .val (.int ev), .val (.ref bp), .val (.int z)] [(.ref bp), (.int ev), (.int sv), (.ref b1)])) rfl (by rw [hml]; rfl) (argsL := [(.ref b1), (.int sv), (.int ev), (.ref bp)]) (rest := []) (lenOf pd_1 rfl) rfl (by show 2 * 0 + _ ≤ _; exact Nat.le_of_eq rfl) (hb hby at_198) (fun _ _ => ⟨rfl, e7, (by decide : 2 + 0 ≤ _), (by decide : 8 + 0 ≤ _)⟩)
    dsimp only [Pt.U, Pt.locs, Pt.cells, Pt.slots] at X8 l8 y8 z8 st8 hQ8
    subst l8 y8 z8
    obtain ⟨rfl, Nq8, eh8⟩ := hQ8
    have N8 := Fr.app N7 Nq8
    refine own_go (fun t_ kt_ => st8 _ kt_) ?_
    have e8 : T8.heap = h6 := eh8
    show own_Go p e below s _ _ _ (T8.setTop (mkF m 201 #[.val (.int p0), .val (.int p1), .val (.int p2), .val (.ref b1), .val (.int c0), .val (.int c1), .val (.int c2), .val (.int c3), .val (.int nn), .val (.int sv), .val (.int ev), .val (.ref bp), .val (.int z)] [(.int (own_sw u w ss (ss + dd - ss) n))]))
    refine own_go (fun t_ kt_ => XS.iload X8.here hx rfl (hb hby at_201) rfl kt_) ?_
    show own_Go p e below s _ _ _ (T8.setTop (mkF m 203 #[.val (.int p0), .val (.int p1), .val (.int p2), .val (.ref b1), .val (.int c0), .val (.int c1), .val (.int c2), .val (.int c3), .val (.int nn), .val (.int sv), .val (.int ev), .val (.ref bp), .val (.int z)] [(.int z), (.int (own_sw u w ss (ss + dd - ss) n))]))
    refine own_go (fun t_ kt_ => XS.icmpNo X8.here hx rfl (hb hby at_203) rfl (teq hz.symm).2 kt_) ?_
    show own_Go p e below s _ _ _ (T8.setTop (mkF m 206 #[.val (.int p0), .val (.int p1), .val (.int p2), .val (.ref b1), .val (.int c0), .val (.int c1), .val (.int c2), .val (.int c3), .val (.int nn), .val (.int sv), .val (.int ev), .val (.ref bp), .val (.int z)] []))
    refine own_go (fun t_ kt_ => XS.iconst X8.here hx rfl (hb hby at_206) kt_) ?_
    show own_Go p e below s _ _ _ (T8.setTop (mkF m 207 #[.val (.int p0), .val (.int p1), .val (.int p2), .val (.ref b1), .val (.int c0), .val (.int c1), .val (.int c2), .val (.int c3), .val (.int nn), .val (.int sv), .val (.int ev), .val (.ref bp), .val (.int z)] [(.int (1 : Int32))]))
    refine own_go (fun t_ kt_ => XS.goto X8.here hx rfl (pc0 := 207) (pc' := 211) rfl (hb hby at_207) (by decide) (by decide) kt_) ?_
    show own_Go p e below s _ _ _ (T8.setTop (mkF m 211 #[.val (.int p0), .val (.int p1), .val (.int p2), .val (.ref b1), .val (.int c0), .val (.int c1), .val (.int c2), .val (.int c3), .val (.int nn), .val (.int sv), .val (.int ev), .val (.ref bp), .val (.int z)] [(.int (1 : Int32))]))
    refine own_ret X8 (v := some (.int (1 : Int32))) (fun h => by rw [hret] at h; cases h) hlk ?_ (by decide) (by decide) (fun fs hr => retN X8 hx (t := .boolean) hret (by simp) (hb hby at_211) hr)
    show Q0 Z p0 p1 p2 h0 n0 (some (.int (1 : Int32))) T8.heap _
    rw [e8]
    exact ⟨rfl, N8⟩
  have J188 : ∀ (T9 : State) (locs9 : List Loc) (X9 : Stand p l e room_1 s m #[(.int p0), (.int p1), (.int p2)] below meth c T9 locs9 2 8) (e9 : T9.heap = h6) (N9 : Fr n0 locs9) (hfin : ¬ (n ≤ dd ∧ ∀ j, j < n → u (ss + j) = w j)), own_Go p e below s (Q0 Z p0 p1 p2 h0 n0) (room_1).cells (room_1).slots (T9.setTop (mkF m 188 #[.val (.int p0), .val (.int p1), .val (.int p2), .val (.ref b1), .val (.int c0), .val (.int c1), .val (.int c2), .val (.int c3), .val (.int nn), .val (.int sv), .val (.int ev), .val (.ref bp), .unset] [])) := by
    intro T9 locs9 X9 e9 N9 hfin
    refine own_go (fun t_ kt_ => XS.iconst X9.here hx rfl (hb hby at_188) kt_) ?_
    show own_Go p e below s _ _ _ (T9.setTop (mkF m 189 #[.val (.int p0), .val (.int p1), .val (.int p2), .val (.ref b1), .val (.int c0), .val (.int c1), .val (.int c2), .val (.int c3), .val (.int nn), .val (.int sv), .val (.int ev), .val (.ref bp), .unset] [(.int (0 : Int32))]))
    exact J189 T9 _ X9 e9 N9  ((0 : Int32)) (by rw [Nat.add_sub_cancel_left]; unfold own_sw; first | rw [if_pos hfin] | rw [if_neg hfin])
  have J184 : ∀ (T10 : State) (locs10 : List Loc) (X10 : Stand p l e room_1 s m #[(.int p0), (.int p1), (.int p2)] below meth c T10 locs10 2 8) (e10 : T10.heap = h6) (N10 : Fr n0 locs10) (hq4 : n ≤ dd ∧ (∀ j, j < n → j < 4 → u (ss + j) = w j)), own_Go p e below s (Q0 Z p0 p1 p2 h0 n0) (room_1).cells (room_1).slots (T10.setTop (mkF m 184 #[.val (.int p0), .val (.int p1), .val (.int p2), .val (.ref b1), .val (.int c0), .val (.int c1), .val (.int c2), .val (.int c3), .val (.int nn), .val (.int sv), .val (.int ev), .val (.ref bp), .unset] [])) := by
    intro T10 locs10 X10 e10 N10 hq4
    have hfin : n ≤ dd ∧ ∀ j, j < n → u (ss + j) = w j := ⟨hq4.1, fun j hj => hq4.2 j hj (by omega)⟩
    refine own_go (fun t_ kt_ => XS.iconst X10.here hx rfl (hb hby at_184) kt_) ?_
    show own_Go p e below s _ _ _ (T10.setTop (mkF m 185 #[.val (.int p0), .val (.int p1), .val (.int p2), .val (.ref b1), .val (.int c0), .val (.int c1), .val (.int c2), .val (.int c3), .val (.int nn), .val (.int sv), .val (.int ev), .val (.ref bp), .unset] [(.int (1 : Int32))]))
    refine own_go (fun t_ kt_ => XS.goto X10.here hx rfl (pc0 := 185) (pc' := 189) rfl (hb hby at_185) (by decide) (by decide) kt_) ?_
    show own_Go p e below s _ _ _ (T10.setTop (mkF m 189 #[.val (.int p0), .val (.int p1), .val (.int p2), .val (.ref b1), .val (.int c0), .val (.int c1), .val (.int c2), .val (.int c3), .val (.int nn), .val (.int sv), .val (.int ev), .val (.ref bp), .unset] [(.int (1 : Int32))]))
    exact J189 T10 _ X10 e10 N10  ((1 : Int32)) (by rw [Nat.add_sub_cancel_left]; unfold own_sw; first | rw [if_pos hfin] | rw [if_neg hfin])
  have J167 : ∀ (T11 : State) (locs11 : List Loc) (X11 : Stand p l e room_1 s m #[(.int p0), (.int p1), (.int p2)] below meth c T11 locs11 2 8) (e11 : T11.heap = h6) (N11 : Fr n0 locs11) (hq3 : n ≤ dd ∧ (∀ j, j < n → j < 3 → u (ss + j) = w j)), own_Go p e below s (Q0 Z p0 p1 p2 h0 n0) (room_1).cells (room_1).slots (T11.setTop (mkF m 167 #[.val (.int p0), .val (.int p1), .val (.int p2), .val (.ref b1), .val (.int c0), .val (.int c1), .val (.int c2), .val (.int c3), .val (.int nn), .val (.int sv), .val (.int ev), .val (.ref bp), .unset] [])) := by
    intro T11 locs11 X11 e11 N11 hq3
    refine own_go (fun t_ kt_ => XS.iload X11.here hx rfl (hb hby at_167) rfl kt_) ?_
    show own_Go p e below s _ _ _ (T11.setTop (mkF m 169 #[.val (.int p0), .val (.int p1), .val (.int p2), .val (.ref b1), .val (.int c0), .val (.int c1), .val (.int c2), .val (.int c3), .val (.int nn), .val (.int sv), .val (.int ev), .val (.ref bp), .unset] [(.int nn)]))
    refine own_go (fun t_ kt_ => XS.iconst X11.here hx rfl (hb hby at_169) kt_) ?_
    show own_Go p e below s _ _ _ (T11.setTop (mkF m 170 #[.val (.int p0), .val (.int p1), .val (.int p2), .val (.ref b1), .val (.int c0), .val (.int c1), .val (.int c2), .val (.int c3), .val (.int nn), .val (.int sv), .val (.int ev), .val (.ref bp), .unset] [(.int (4 : Int32)), (.int nn)]))
    by_cases hc170 : nn < (4 : Int32)
    · skip
      have hi170 : nn.toInt < 4 := Int32.lt_iff_toInt_lt.mp hc170
      refine own_go (fun t_ kt_ => XS.icmpYes X11.here hx rfl (pc0 := 170) (pc' := 184) rfl (hb hby at_170) rfl (tlt hc170).1 (by decide) (by decide) kt_) ?_
      show own_Go p e below s _ _ _ (T11.setTop (mkF m 184 #[.val (.int p0), .val (.int p1), .val (.int p2), .val (.ref b1), .val (.int c0), .val (.int c1), .val (.int c2), .val (.int c3), .val (.int nn), .val (.int sv), .val (.int ev), .val (.ref bp), .unset] []))
      exact J184 T11 _ X11 e11 N11   (⟨by omega, own_step hq3.2 (by first | exact Or.inr (hc181.trans w3.symm) | exact Or.inl (by omega))⟩)
    · skip
      have hi170 : ¬ nn.toInt < 4 := fun q => hc170 (Int32.lt_iff_toInt_lt.mpr q)
      refine own_go (fun t_ kt_ => XS.icmpNo X11.here hx rfl (hb hby at_170) rfl (flt hc170).1 kt_) ?_
      show own_Go p e below s _ _ _ (T11.setTop (mkF m 173 #[.val (.int p0), .val (.int p1), .val (.int p2), .val (.ref b1), .val (.int c0), .val (.int c1), .val (.int c2), .val (.int c3), .val (.int nn), .val (.int sv), .val (.int ev), .val (.ref bp), .unset] []))
      refine own_go (fun t_ kt_ => XS.aloadN X11.here hx rfl (hb hby at_173) rfl rfl kt_) ?_
      show own_Go p e below s _ _ _ (T11.setTop (mkF m 174 #[.val (.int p0), .val (.int p1), .val (.int p2), .val (.ref b1), .val (.int c0), .val (.int c1), .val (.int c2), .val (.int c3), .val (.int nn), .val (.int sv), .val (.int ev), .val (.ref bp), .unset] [(.ref b1)]))
      refine own_go (fun t_ kt_ => XS.iload X11.here hx rfl (hb hby at_174) rfl kt_) ?_
      show own_Go p e below s _ _ _ (T11.setTop (mkF m 176 #[.val (.int p0), .val (.int p1), .val (.int p2), .val (.ref b1), .val (.int c0), .val (.int c1), .val (.int c2), .val (.int c3), .val (.int nn), .val (.int sv), .val (.int ev), .val (.ref bp), .unset] [(.int sv), (.ref b1)]))
      refine own_go (fun t_ kt_ => XS.iconst X11.here hx rfl (hb hby at_176) kt_) ?_
      show own_Go p e below s _ _ _ (T11.setTop (mkF m 177 #[.val (.int p0), .val (.int p1), .val (.int p2), .val (.ref b1), .val (.int c0), .val (.int c1), .val (.int c2), .val (.int c3), .val (.int nn), .val (.int sv), .val (.int ev), .val (.ref bp), .unset] [(.int (3 : Int32)), (.int sv), (.ref b1)]))
      refine own_go (fun t_ kt_ => XS.iadd X11.here hx rfl (hb hby at_177) rfl kt_) ?_
      show own_Go p e below s _ _ _ (T11.setTop (mkF m 178 #[.val (.int p0), .val (.int p1), .val (.int p2), .val (.ref b1), .val (.int c0), .val (.int c1), .val (.int c2), .val (.int c3), .val (.int nn), .val (.int sv), .val (.int ev), .val (.ref bp), .unset] [(.int (sv + (3 : Int32))), (.ref b1)]))
      obtain ⟨c12, Ar12, S12, G12⟩ := id V_b1_6
      have q12 : c12.slots[((sv + (3 : Int32))).toNatClampNeg]? = some (.int (u (ss + 3))) := by rw [own_cl (j := (sv + (3 : Int32))) (i := (ss + 3)) (own_plus hs (show (3 : Int32).toInt = ((3 : Nat) : Int) from by decide) (by omega))]; exact (G12 _ (by omega)).trans (congrArg some (rfl))
      refine own_go (fun t_ kt_ => X11.baloadBytes hx (j := (sv + (3 : Int32))) (v := (.int (u (ss + 3)))) (by rw [e11]; exact Ar12.1) (State.isArrayOf_alike hZ.alike Ar12.2.1) Ar12.2.2 (own_in (i := (ss + 3)) S12 (own_plus hs (show (3 : Int32).toInt = ((3 : Nat) : Int) from by decide) (by omega)) (by omega)) q12 (g := (mkF m 178 #[.val (.int p0), .val (.int p1), .val (.int p2), .val (.ref b1), .val (.int c0), .val (.int c1), .val (.int c2), .val (.int c3), .val (.int nn), .val (.int sv), .val (.int ev), .val (.ref bp), .unset] [(.int (sv + (3 : Int32))), (.ref b1)])) rfl rfl (hb hby at_178) _ kt_) ?_
      show own_Go p e below s _ _ _ (T11.setTop (mkF m 179 #[.val (.int p0), .val (.int p1), .val (.int p2), .val (.ref b1), .val (.int c0), .val (.int c1), .val (.int c2), .val (.int c3), .val (.int nn), .val (.int sv), .val (.int ev), .val (.ref bp), .unset] [(.int (u (ss + 3)))]))
      refine own_go (fun t_ kt_ => XS.iload X11.here hx rfl (hb hby at_179) rfl kt_) ?_
      show own_Go p e below s _ _ _ (T11.setTop (mkF m 181 #[.val (.int p0), .val (.int p1), .val (.int p2), .val (.ref b1), .val (.int c0), .val (.int c1), .val (.int c2), .val (.int c3), .val (.int nn), .val (.int sv), .val (.int ev), .val (.ref bp), .unset] [(.int c3), (.int (u (ss + 3)))]))
      by_cases hc181 : (u (ss + 3)) = c3
      · skip
        have hi181 : ((u (ss + 3))).toInt = c3.toInt := congrArg Int32.toInt hc181
        refine own_go (fun t_ kt_ => XS.icmpNo X11.here hx rfl (hb hby at_181) rfl (teq hc181).2 kt_) ?_
        show own_Go p e below s _ _ _ (T11.setTop (mkF m 184 #[.val (.int p0), .val (.int p1), .val (.int p2), .val (.ref b1), .val (.int c0), .val (.int c1), .val (.int c2), .val (.int c3), .val (.int nn), .val (.int sv), .val (.int ev), .val (.ref bp), .unset] []))
        exact J184 T11 _ X11 e11 N11   (⟨by omega, own_step hq3.2 (by first | exact Or.inr (hc181.trans w3.symm) | exact Or.inl (by omega))⟩)
      · skip
        have hi181 : ¬ ((u (ss + 3))).toInt = c3.toInt := fun q => hc181 (Int32.toInt_inj.mp q)
        refine own_go (fun t_ kt_ => XS.icmpYes X11.here hx rfl (pc0 := 181) (pc' := 188) rfl (hb hby at_181) rfl (feq hc181).2 (by decide) (by decide) kt_) ?_
        show own_Go p e below s _ _ _ (T11.setTop (mkF m 188 #[.val (.int p0), .val (.int p1), .val (.int p2), .val (.ref b1), .val (.int c0), .val (.int c1), .val (.int c2), .val (.int c3), .val (.int nn), .val (.int sv), .val (.int ev), .val (.ref bp), .unset] []))
        exact J188 T11 _ X11 e11 N11   (by first | (intro q; omega) | (intro q; have h0 := q.2 0 (by omega); exact hc130 (h0.trans w0)) | (intro q; have h0 := q.2 1 (by omega); exact hc147 (h0.trans w1)) | (intro q; have h0 := q.2 2 (by omega); exact hc164 (h0.trans w2)) | (intro q; have h0 := q.2 3 (by omega); exact hc181 (h0.trans w3)))
  have J150 : ∀ (T13 : State) (locs13 : List Loc) (X13 : Stand p l e room_1 s m #[(.int p0), (.int p1), (.int p2)] below meth c T13 locs13 2 8) (e13 : T13.heap = h6) (N13 : Fr n0 locs13) (hq2 : n ≤ dd ∧ (∀ j, j < n → j < 2 → u (ss + j) = w j)), own_Go p e below s (Q0 Z p0 p1 p2 h0 n0) (room_1).cells (room_1).slots (T13.setTop (mkF m 150 #[.val (.int p0), .val (.int p1), .val (.int p2), .val (.ref b1), .val (.int c0), .val (.int c1), .val (.int c2), .val (.int c3), .val (.int nn), .val (.int sv), .val (.int ev), .val (.ref bp), .unset] [])) := by
    intro T13 locs13 X13 e13 N13 hq2
    refine own_go (fun t_ kt_ => XS.iload X13.here hx rfl (hb hby at_150) rfl kt_) ?_
    show own_Go p e below s _ _ _ (T13.setTop (mkF m 152 #[.val (.int p0), .val (.int p1), .val (.int p2), .val (.ref b1), .val (.int c0), .val (.int c1), .val (.int c2), .val (.int c3), .val (.int nn), .val (.int sv), .val (.int ev), .val (.ref bp), .unset] [(.int nn)]))
    refine own_go (fun t_ kt_ => XS.iconst X13.here hx rfl (hb hby at_152) kt_) ?_
    show own_Go p e below s _ _ _ (T13.setTop (mkF m 153 #[.val (.int p0), .val (.int p1), .val (.int p2), .val (.ref b1), .val (.int c0), .val (.int c1), .val (.int c2), .val (.int c3), .val (.int nn), .val (.int sv), .val (.int ev), .val (.ref bp), .unset] [(.int (3 : Int32)), (.int nn)]))
    by_cases hc153 : nn < (3 : Int32)
    · skip
      have hi153 : nn.toInt < 3 := Int32.lt_iff_toInt_lt.mp hc153
      refine own_go (fun t_ kt_ => XS.icmpYes X13.here hx rfl (pc0 := 153) (pc' := 167) rfl (hb hby at_153) rfl (tlt hc153).1 (by decide) (by decide) kt_) ?_
      show own_Go p e below s _ _ _ (T13.setTop (mkF m 167 #[.val (.int p0), .val (.int p1), .val (.int p2), .val (.ref b1), .val (.int c0), .val (.int c1), .val (.int c2), .val (.int c3), .val (.int nn), .val (.int sv), .val (.int ev), .val (.ref bp), .unset] []))
      exact J167 T13 _ X13 e13 N13   (⟨by omega, own_step hq2.2 (by first | exact Or.inr (hc164.trans w2.symm) | exact Or.inl (by omega))⟩)
    · skip
      have hi153 : ¬ nn.toInt < 3 := fun q => hc153 (Int32.lt_iff_toInt_lt.mpr q)
      refine own_go (fun t_ kt_ => XS.icmpNo X13.here hx rfl (hb hby at_153) rfl (flt hc153).1 kt_) ?_
      show own_Go p e below s _ _ _ (T13.setTop (mkF m 156 #[.val (.int p0), .val (.int p1), .val (.int p2), .val (.ref b1), .val (.int c0), .val (.int c1), .val (.int c2), .val (.int c3), .val (.int nn), .val (.int sv), .val (.int ev), .val (.ref bp), .unset] []))
      refine own_go (fun t_ kt_ => XS.aloadN X13.here hx rfl (hb hby at_156) rfl rfl kt_) ?_
      show own_Go p e below s _ _ _ (T13.setTop (mkF m 157 #[.val (.int p0), .val (.int p1), .val (.int p2), .val (.ref b1), .val (.int c0), .val (.int c1), .val (.int c2), .val (.int c3), .val (.int nn), .val (.int sv), .val (.int ev), .val (.ref bp), .unset] [(.ref b1)]))
      refine own_go (fun t_ kt_ => XS.iload X13.here hx rfl (hb hby at_157) rfl kt_) ?_
      show own_Go p e below s _ _ _ (T13.setTop (mkF m 159 #[.val (.int p0), .val (.int p1), .val (.int p2), .val (.ref b1), .val (.int c0), .val (.int c1), .val (.int c2), .val (.int c3), .val (.int nn), .val (.int sv), .val (.int ev), .val (.ref bp), .unset] [(.int sv), (.ref b1)]))
      refine own_go (fun t_ kt_ => XS.iconst X13.here hx rfl (hb hby at_159) kt_) ?_
      show own_Go p e below s _ _ _ (T13.setTop (mkF m 160 #[.val (.int p0), .val (.int p1), .val (.int p2), .val (.ref b1), .val (.int c0), .val (.int c1), .val (.int c2), .val (.int c3), .val (.int nn), .val (.int sv), .val (.int ev), .val (.ref bp), .unset] [(.int (2 : Int32)), (.int sv), (.ref b1)]))
      refine own_go (fun t_ kt_ => XS.iadd X13.here hx rfl (hb hby at_160) rfl kt_) ?_
      show own_Go p e below s _ _ _ (T13.setTop (mkF m 161 #[.val (.int p0), .val (.int p1), .val (.int p2), .val (.ref b1), .val (.int c0), .val (.int c1), .val (.int c2), .val (.int c3), .val (.int nn), .val (.int sv), .val (.int ev), .val (.ref bp), .unset] [(.int (sv + (2 : Int32))), (.ref b1)]))
      obtain ⟨c14, Ar14, S14, G14⟩ := id V_b1_6
      have q14 : c14.slots[((sv + (2 : Int32))).toNatClampNeg]? = some (.int (u (ss + 2))) := by rw [own_cl (j := (sv + (2 : Int32))) (i := (ss + 2)) (own_plus hs (show (2 : Int32).toInt = ((2 : Nat) : Int) from by decide) (by omega))]; exact (G14 _ (by omega)).trans (congrArg some (rfl))
      refine own_go (fun t_ kt_ => X13.baloadBytes hx (j := (sv + (2 : Int32))) (v := (.int (u (ss + 2)))) (by rw [e13]; exact Ar14.1) (State.isArrayOf_alike hZ.alike Ar14.2.1) Ar14.2.2 (own_in (i := (ss + 2)) S14 (own_plus hs (show (2 : Int32).toInt = ((2 : Nat) : Int) from by decide) (by omega)) (by omega)) q14 (g := (mkF m 161 #[.val (.int p0), .val (.int p1), .val (.int p2), .val (.ref b1), .val (.int c0), .val (.int c1), .val (.int c2), .val (.int c3), .val (.int nn), .val (.int sv), .val (.int ev), .val (.ref bp), .unset] [(.int (sv + (2 : Int32))), (.ref b1)])) rfl rfl (hb hby at_161) _ kt_) ?_
      show own_Go p e below s _ _ _ (T13.setTop (mkF m 162 #[.val (.int p0), .val (.int p1), .val (.int p2), .val (.ref b1), .val (.int c0), .val (.int c1), .val (.int c2), .val (.int c3), .val (.int nn), .val (.int sv), .val (.int ev), .val (.ref bp), .unset] [(.int (u (ss + 2)))]))
      refine own_go (fun t_ kt_ => XS.iload X13.here hx rfl (hb hby at_162) rfl kt_) ?_
      show own_Go p e below s _ _ _ (T13.setTop (mkF m 164 #[.val (.int p0), .val (.int p1), .val (.int p2), .val (.ref b1), .val (.int c0), .val (.int c1), .val (.int c2), .val (.int c3), .val (.int nn), .val (.int sv), .val (.int ev), .val (.ref bp), .unset] [(.int c2), (.int (u (ss + 2)))]))
      by_cases hc164 : (u (ss + 2)) = c2
      · skip
        have hi164 : ((u (ss + 2))).toInt = c2.toInt := congrArg Int32.toInt hc164
        refine own_go (fun t_ kt_ => XS.icmpNo X13.here hx rfl (hb hby at_164) rfl (teq hc164).2 kt_) ?_
        show own_Go p e below s _ _ _ (T13.setTop (mkF m 167 #[.val (.int p0), .val (.int p1), .val (.int p2), .val (.ref b1), .val (.int c0), .val (.int c1), .val (.int c2), .val (.int c3), .val (.int nn), .val (.int sv), .val (.int ev), .val (.ref bp), .unset] []))
        exact J167 T13 _ X13 e13 N13   (⟨by omega, own_step hq2.2 (by first | exact Or.inr (hc164.trans w2.symm) | exact Or.inl (by omega))⟩)
      · skip
        have hi164 : ¬ ((u (ss + 2))).toInt = c2.toInt := fun q => hc164 (Int32.toInt_inj.mp q)
        refine own_go (fun t_ kt_ => XS.icmpYes X13.here hx rfl (pc0 := 164) (pc' := 188) rfl (hb hby at_164) rfl (feq hc164).2 (by decide) (by decide) kt_) ?_
        show own_Go p e below s _ _ _ (T13.setTop (mkF m 188 #[.val (.int p0), .val (.int p1), .val (.int p2), .val (.ref b1), .val (.int c0), .val (.int c1), .val (.int c2), .val (.int c3), .val (.int nn), .val (.int sv), .val (.int ev), .val (.ref bp), .unset] []))
        exact J188 T13 _ X13 e13 N13   (by first | (intro q; omega) | (intro q; have h0 := q.2 0 (by omega); exact hc130 (h0.trans w0)) | (intro q; have h0 := q.2 1 (by omega); exact hc147 (h0.trans w1)) | (intro q; have h0 := q.2 2 (by omega); exact hc164 (h0.trans w2)) | (intro q; have h0 := q.2 3 (by omega); exact hc181 (h0.trans w3)))
  have J133 : ∀ (T15 : State) (locs15 : List Loc) (X15 : Stand p l e room_1 s m #[(.int p0), (.int p1), (.int p2)] below meth c T15 locs15 2 8) (e15 : T15.heap = h6) (N15 : Fr n0 locs15) (hq1 : n ≤ dd ∧ (∀ j, j < n → j < 1 → u (ss + j) = w j)), own_Go p e below s (Q0 Z p0 p1 p2 h0 n0) (room_1).cells (room_1).slots (T15.setTop (mkF m 133 #[.val (.int p0), .val (.int p1), .val (.int p2), .val (.ref b1), .val (.int c0), .val (.int c1), .val (.int c2), .val (.int c3), .val (.int nn), .val (.int sv), .val (.int ev), .val (.ref bp), .unset] [])) := by
    intro T15 locs15 X15 e15 N15 hq1
    refine own_go (fun t_ kt_ => XS.iload X15.here hx rfl (hb hby at_133) rfl kt_) ?_
    show own_Go p e below s _ _ _ (T15.setTop (mkF m 135 #[.val (.int p0), .val (.int p1), .val (.int p2), .val (.ref b1), .val (.int c0), .val (.int c1), .val (.int c2), .val (.int c3), .val (.int nn), .val (.int sv), .val (.int ev), .val (.ref bp), .unset] [(.int nn)]))
    refine own_go (fun t_ kt_ => XS.iconst X15.here hx rfl (hb hby at_135) kt_) ?_
    show own_Go p e below s _ _ _ (T15.setTop (mkF m 136 #[.val (.int p0), .val (.int p1), .val (.int p2), .val (.ref b1), .val (.int c0), .val (.int c1), .val (.int c2), .val (.int c3), .val (.int nn), .val (.int sv), .val (.int ev), .val (.ref bp), .unset] [(.int (2 : Int32)), (.int nn)]))
    by_cases hc136 : nn < (2 : Int32)
    · skip
      have hi136 : nn.toInt < 2 := Int32.lt_iff_toInt_lt.mp hc136
      refine own_go (fun t_ kt_ => XS.icmpYes X15.here hx rfl (pc0 := 136) (pc' := 150) rfl (hb hby at_136) rfl (tlt hc136).1 (by decide) (by decide) kt_) ?_
      show own_Go p e below s _ _ _ (T15.setTop (mkF m 150 #[.val (.int p0), .val (.int p1), .val (.int p2), .val (.ref b1), .val (.int c0), .val (.int c1), .val (.int c2), .val (.int c3), .val (.int nn), .val (.int sv), .val (.int ev), .val (.ref bp), .unset] []))
      exact J150 T15 _ X15 e15 N15   (⟨by omega, own_step hq1.2 (by first | exact Or.inr (hc147.trans w1.symm) | exact Or.inl (by omega))⟩)
    · skip
      have hi136 : ¬ nn.toInt < 2 := fun q => hc136 (Int32.lt_iff_toInt_lt.mpr q)
      refine own_go (fun t_ kt_ => XS.icmpNo X15.here hx rfl (hb hby at_136) rfl (flt hc136).1 kt_) ?_
      show own_Go p e below s _ _ _ (T15.setTop (mkF m 139 #[.val (.int p0), .val (.int p1), .val (.int p2), .val (.ref b1), .val (.int c0), .val (.int c1), .val (.int c2), .val (.int c3), .val (.int nn), .val (.int sv), .val (.int ev), .val (.ref bp), .unset] []))
      refine own_go (fun t_ kt_ => XS.aloadN X15.here hx rfl (hb hby at_139) rfl rfl kt_) ?_
      show own_Go p e below s _ _ _ (T15.setTop (mkF m 140 #[.val (.int p0), .val (.int p1), .val (.int p2), .val (.ref b1), .val (.int c0), .val (.int c1), .val (.int c2), .val (.int c3), .val (.int nn), .val (.int sv), .val (.int ev), .val (.ref bp), .unset] [(.ref b1)]))
      refine own_go (fun t_ kt_ => XS.iload X15.here hx rfl (hb hby at_140) rfl kt_) ?_
      show own_Go p e below s _ _ _ (T15.setTop (mkF m 142 #[.val (.int p0), .val (.int p1), .val (.int p2), .val (.ref b1), .val (.int c0), .val (.int c1), .val (.int c2), .val (.int c3), .val (.int nn), .val (.int sv), .val (.int ev), .val (.ref bp), .unset] [(.int sv), (.ref b1)]))
      refine own_go (fun t_ kt_ => XS.iconst X15.here hx rfl (hb hby at_142) kt_) ?_
      show own_Go p e below s _ _ _ (T15.setTop (mkF m 143 #[.val (.int p0), .val (.int p1), .val (.int p2), .val (.ref b1), .val (.int c0), .val (.int c1), .val (.int c2), .val (.int c3), .val (.int nn), .val (.int sv), .val (.int ev), .val (.ref bp), .unset] [(.int (1 : Int32)), (.int sv), (.ref b1)]))
      refine own_go (fun t_ kt_ => XS.iadd X15.here hx rfl (hb hby at_143) rfl kt_) ?_
      show own_Go p e below s _ _ _ (T15.setTop (mkF m 144 #[.val (.int p0), .val (.int p1), .val (.int p2), .val (.ref b1), .val (.int c0), .val (.int c1), .val (.int c2), .val (.int c3), .val (.int nn), .val (.int sv), .val (.int ev), .val (.ref bp), .unset] [(.int (sv + (1 : Int32))), (.ref b1)]))
      obtain ⟨c16, Ar16, S16, G16⟩ := id V_b1_6
      have q16 : c16.slots[((sv + (1 : Int32))).toNatClampNeg]? = some (.int (u (ss + 1))) := by rw [own_cl (j := (sv + (1 : Int32))) (i := (ss + 1)) (own_plus hs (show (1 : Int32).toInt = ((1 : Nat) : Int) from by decide) (by omega))]; exact (G16 _ (by omega)).trans (congrArg some (rfl))
      refine own_go (fun t_ kt_ => X15.baloadBytes hx (j := (sv + (1 : Int32))) (v := (.int (u (ss + 1)))) (by rw [e15]; exact Ar16.1) (State.isArrayOf_alike hZ.alike Ar16.2.1) Ar16.2.2 (own_in (i := (ss + 1)) S16 (own_plus hs (show (1 : Int32).toInt = ((1 : Nat) : Int) from by decide) (by omega)) (by omega)) q16 (g := (mkF m 144 #[.val (.int p0), .val (.int p1), .val (.int p2), .val (.ref b1), .val (.int c0), .val (.int c1), .val (.int c2), .val (.int c3), .val (.int nn), .val (.int sv), .val (.int ev), .val (.ref bp), .unset] [(.int (sv + (1 : Int32))), (.ref b1)])) rfl rfl (hb hby at_144) _ kt_) ?_
      show own_Go p e below s _ _ _ (T15.setTop (mkF m 145 #[.val (.int p0), .val (.int p1), .val (.int p2), .val (.ref b1), .val (.int c0), .val (.int c1), .val (.int c2), .val (.int c3), .val (.int nn), .val (.int sv), .val (.int ev), .val (.ref bp), .unset] [(.int (u (ss + 1)))]))
      refine own_go (fun t_ kt_ => XS.iload X15.here hx rfl (hb hby at_145) rfl kt_) ?_
      show own_Go p e below s _ _ _ (T15.setTop (mkF m 147 #[.val (.int p0), .val (.int p1), .val (.int p2), .val (.ref b1), .val (.int c0), .val (.int c1), .val (.int c2), .val (.int c3), .val (.int nn), .val (.int sv), .val (.int ev), .val (.ref bp), .unset] [(.int c1), (.int (u (ss + 1)))]))
      by_cases hc147 : (u (ss + 1)) = c1
      · skip
        have hi147 : ((u (ss + 1))).toInt = c1.toInt := congrArg Int32.toInt hc147
        refine own_go (fun t_ kt_ => XS.icmpNo X15.here hx rfl (hb hby at_147) rfl (teq hc147).2 kt_) ?_
        show own_Go p e below s _ _ _ (T15.setTop (mkF m 150 #[.val (.int p0), .val (.int p1), .val (.int p2), .val (.ref b1), .val (.int c0), .val (.int c1), .val (.int c2), .val (.int c3), .val (.int nn), .val (.int sv), .val (.int ev), .val (.ref bp), .unset] []))
        exact J150 T15 _ X15 e15 N15   (⟨by omega, own_step hq1.2 (by first | exact Or.inr (hc147.trans w1.symm) | exact Or.inl (by omega))⟩)
      · skip
        have hi147 : ¬ ((u (ss + 1))).toInt = c1.toInt := fun q => hc147 (Int32.toInt_inj.mp q)
        refine own_go (fun t_ kt_ => XS.icmpYes X15.here hx rfl (pc0 := 147) (pc' := 188) rfl (hb hby at_147) rfl (feq hc147).2 (by decide) (by decide) kt_) ?_
        show own_Go p e below s _ _ _ (T15.setTop (mkF m 188 #[.val (.int p0), .val (.int p1), .val (.int p2), .val (.ref b1), .val (.int c0), .val (.int c1), .val (.int c2), .val (.int c3), .val (.int nn), .val (.int sv), .val (.int ev), .val (.ref bp), .unset] []))
        exact J188 T15 _ X15 e15 N15   (by first | (intro q; omega) | (intro q; have h0 := q.2 0 (by omega); exact hc130 (h0.trans w0)) | (intro q; have h0 := q.2 1 (by omega); exact hc147 (h0.trans w1)) | (intro q; have h0 := q.2 2 (by omega); exact hc164 (h0.trans w2)) | (intro q; have h0 := q.2 3 (by omega); exact hc181 (h0.trans w3)))
  refine own_go (fun t_ kt_ => XS.iload X6.here hx rfl (hb hby at_108) rfl kt_) ?_
  show own_Go p e below s _ _ _ (T6.setTop (mkF m 110 #[.val (.int p0), .val (.int p1), .val (.int p2), .val (.ref b1), .val (.int c0), .val (.int c1), .val (.int c2), .val (.int c3), .val (.int nn), .val (.int sv), .val (.int ev), .val (.ref bp), .unset] [(.int nn)]))
  refine own_go (fun t_ kt_ => XS.iload X6.here hx rfl (hb hby at_110) rfl kt_) ?_
  show own_Go p e below s _ _ _ (T6.setTop (mkF m 112 #[.val (.int p0), .val (.int p1), .val (.int p2), .val (.ref b1), .val (.int c0), .val (.int c1), .val (.int c2), .val (.int c3), .val (.int nn), .val (.int sv), .val (.int ev), .val (.ref bp), .unset] [(.int ev), (.int nn)]))
  refine own_go (fun t_ kt_ => XS.iload X6.here hx rfl (hb hby at_112) rfl kt_) ?_
  show own_Go p e below s _ _ _ (T6.setTop (mkF m 114 #[.val (.int p0), .val (.int p1), .val (.int p2), .val (.ref b1), .val (.int c0), .val (.int c1), .val (.int c2), .val (.int c3), .val (.int nn), .val (.int sv), .val (.int ev), .val (.ref bp), .unset] [(.int sv), (.int ev), (.int nn)]))
  refine own_go (fun t_ kt_ => XS.isub X6.here hx rfl (hb hby at_114) rfl kt_) ?_
  show own_Go p e below s _ _ _ (T6.setTop (mkF m 115 #[.val (.int p0), .val (.int p1), .val (.int p2), .val (.ref b1), .val (.int c0), .val (.int c1), .val (.int c2), .val (.int c3), .val (.int nn), .val (.int sv), .val (.int ev), .val (.ref bp), .unset] [(.int (ev - sv)), (.int nn)]))
  by_cases hc115 : (ev - sv) < nn
  · skip
    have hi115 : ((ev - sv)).toInt < nn.toInt := Int32.lt_iff_toInt_lt.mp hc115
    refine own_go (fun t_ kt_ => XS.icmpYes X6.here hx rfl (pc0 := 115) (pc' := 188) rfl (hb hby at_115) rfl (tlt hc115).2.2.1 (by decide) (by decide) kt_) ?_
    show own_Go p e below s _ _ _ (T6.setTop (mkF m 188 #[.val (.int p0), .val (.int p1), .val (.int p2), .val (.ref b1), .val (.int c0), .val (.int c1), .val (.int c2), .val (.int c3), .val (.int nn), .val (.int sv), .val (.int ev), .val (.ref bp), .unset] []))
    exact J188 T6 _ X6 e6 N6   (by first | (intro q; omega) | (intro q; have h0 := q.2 0 (by omega); exact hc130 (h0.trans w0)) | (intro q; have h0 := q.2 1 (by omega); exact hc147 (h0.trans w1)) | (intro q; have h0 := q.2 2 (by omega); exact hc164 (h0.trans w2)) | (intro q; have h0 := q.2 3 (by omega); exact hc181 (h0.trans w3)))
  · skip
    have hi115 : ¬ ((ev - sv)).toInt < nn.toInt := fun q => hc115 (Int32.lt_iff_toInt_lt.mpr q)
    refine own_go (fun t_ kt_ => XS.icmpNo X6.here hx rfl (hb hby at_115) rfl (flt hc115).2.2.1 kt_) ?_
    show own_Go p e below s _ _ _ (T6.setTop (mkF m 118 #[.val (.int p0), .val (.int p1), .val (.int p2), .val (.ref b1), .val (.int c0), .val (.int c1), .val (.int c2), .val (.int c3), .val (.int nn), .val (.int sv), .val (.int ev), .val (.ref bp), .unset] []))
    refine own_go (fun t_ kt_ => XS.iload X6.here hx rfl (hb hby at_118) rfl kt_) ?_
    show own_Go p e below s _ _ _ (T6.setTop (mkF m 120 #[.val (.int p0), .val (.int p1), .val (.int p2), .val (.ref b1), .val (.int c0), .val (.int c1), .val (.int c2), .val (.int c3), .val (.int nn), .val (.int sv), .val (.int ev), .val (.ref bp), .unset] [(.int nn)]))
    refine own_go (fun t_ kt_ => XS.iconst X6.here hx rfl (hb hby at_120) kt_) ?_
    show own_Go p e below s _ _ _ (T6.setTop (mkF m 121 #[.val (.int p0), .val (.int p1), .val (.int p2), .val (.ref b1), .val (.int c0), .val (.int c1), .val (.int c2), .val (.int c3), .val (.int nn), .val (.int sv), .val (.int ev), .val (.ref bp), .unset] [(.int (1 : Int32)), (.int nn)]))
    by_cases hc121 : nn < (1 : Int32)
    · skip
      have hi121 : nn.toInt < 1 := Int32.lt_iff_toInt_lt.mp hc121
      refine own_go (fun t_ kt_ => XS.icmpYes X6.here hx rfl (pc0 := 121) (pc' := 133) rfl (hb hby at_121) rfl (tlt hc121).1 (by decide) (by decide) kt_) ?_
      show own_Go p e below s _ _ _ (T6.setTop (mkF m 133 #[.val (.int p0), .val (.int p1), .val (.int p2), .val (.ref b1), .val (.int c0), .val (.int c1), .val (.int c2), .val (.int c3), .val (.int nn), .val (.int sv), .val (.int ev), .val (.ref bp), .unset] []))
      exact J133 T6 _ X6 e6 N6   (⟨by omega, own_step (fun j _ h => absurd h (Nat.not_lt_zero j)) (by first | exact Or.inr (hc130.trans w0.symm) | exact Or.inl (by omega))⟩)
    · skip
      have hi121 : ¬ nn.toInt < 1 := fun q => hc121 (Int32.lt_iff_toInt_lt.mpr q)
      refine own_go (fun t_ kt_ => XS.icmpNo X6.here hx rfl (hb hby at_121) rfl (flt hc121).1 kt_) ?_
      show own_Go p e below s _ _ _ (T6.setTop (mkF m 124 #[.val (.int p0), .val (.int p1), .val (.int p2), .val (.ref b1), .val (.int c0), .val (.int c1), .val (.int c2), .val (.int c3), .val (.int nn), .val (.int sv), .val (.int ev), .val (.ref bp), .unset] []))
      refine own_go (fun t_ kt_ => XS.aloadN X6.here hx rfl (hb hby at_124) rfl rfl kt_) ?_
      show own_Go p e below s _ _ _ (T6.setTop (mkF m 125 #[.val (.int p0), .val (.int p1), .val (.int p2), .val (.ref b1), .val (.int c0), .val (.int c1), .val (.int c2), .val (.int c3), .val (.int nn), .val (.int sv), .val (.int ev), .val (.ref bp), .unset] [(.ref b1)]))
      refine own_go (fun t_ kt_ => XS.iload X6.here hx rfl (hb hby at_125) rfl kt_) ?_
      show own_Go p e below s _ _ _ (T6.setTop (mkF m 127 #[.val (.int p0), .val (.int p1), .val (.int p2), .val (.ref b1), .val (.int c0), .val (.int c1), .val (.int c2), .val (.int c3), .val (.int nn), .val (.int sv), .val (.int ev), .val (.ref bp), .unset] [(.int sv), (.ref b1)]))
      obtain ⟨c17, Ar17, S17, G17⟩ := id V_b1_6
      have q17 : c17.slots[(sv).toNatClampNeg]? = some (.int (u ss)) := by rw [own_cl (j := sv) (i := ss) hs]; exact (G17 _ (by omega)).trans (congrArg some (rfl))
      refine own_go (fun t_ kt_ => X6.baloadBytes hx (j := sv) (v := (.int (u ss))) (by rw [e6]; exact Ar17.1) (State.isArrayOf_alike hZ.alike Ar17.2.1) Ar17.2.2 (own_in (i := ss) S17 hs (by omega)) q17 (g := (mkF m 127 #[.val (.int p0), .val (.int p1), .val (.int p2), .val (.ref b1), .val (.int c0), .val (.int c1), .val (.int c2), .val (.int c3), .val (.int nn), .val (.int sv), .val (.int ev), .val (.ref bp), .unset] [(.int sv), (.ref b1)])) rfl rfl (hb hby at_127) _ kt_) ?_
      show own_Go p e below s _ _ _ (T6.setTop (mkF m 128 #[.val (.int p0), .val (.int p1), .val (.int p2), .val (.ref b1), .val (.int c0), .val (.int c1), .val (.int c2), .val (.int c3), .val (.int nn), .val (.int sv), .val (.int ev), .val (.ref bp), .unset] [(.int (u ss))]))
      refine own_go (fun t_ kt_ => XS.iload X6.here hx rfl (hb hby at_128) rfl kt_) ?_
      show own_Go p e below s _ _ _ (T6.setTop (mkF m 130 #[.val (.int p0), .val (.int p1), .val (.int p2), .val (.ref b1), .val (.int c0), .val (.int c1), .val (.int c2), .val (.int c3), .val (.int nn), .val (.int sv), .val (.int ev), .val (.ref bp), .unset] [(.int c0), (.int (u ss))]))
      by_cases hc130 : (u ss) = c0
      · skip
        have hi130 : ((u ss)).toInt = c0.toInt := congrArg Int32.toInt hc130
        refine own_go (fun t_ kt_ => XS.icmpNo X6.here hx rfl (hb hby at_130) rfl (teq hc130).2 kt_) ?_
        show own_Go p e below s _ _ _ (T6.setTop (mkF m 133 #[.val (.int p0), .val (.int p1), .val (.int p2), .val (.ref b1), .val (.int c0), .val (.int c1), .val (.int c2), .val (.int c3), .val (.int nn), .val (.int sv), .val (.int ev), .val (.ref bp), .unset] []))
        exact J133 T6 _ X6 e6 N6   (⟨by omega, own_step (fun j _ h => absurd h (Nat.not_lt_zero j)) (by first | exact Or.inr (hc130.trans w0.symm) | exact Or.inl (by omega))⟩)
      · skip
        have hi130 : ¬ ((u ss)).toInt = c0.toInt := fun q => hc130 (Int32.toInt_inj.mp q)
        refine own_go (fun t_ kt_ => XS.icmpYes X6.here hx rfl (pc0 := 130) (pc' := 188) rfl (hb hby at_130) rfl (feq hc130).2 (by decide) (by decide) kt_) ?_
        show own_Go p e below s _ _ _ (T6.setTop (mkF m 188 #[.val (.int p0), .val (.int p1), .val (.int p2), .val (.ref b1), .val (.int c0), .val (.int c1), .val (.int c2), .val (.int c3), .val (.int nn), .val (.int sv), .val (.int ev), .val (.ref bp), .unset] []))
        exact J188 T6 _ X6 e6 N6   (by first | (intro q; omega) | (intro q; have h0 := q.2 0 (by omega); exact hc130 (h0.trans w0)) | (intro q; have h0 := q.2 1 (by omega); exact hc147 (h0.trans w1)) | (intro q; have h0 := q.2 2 (by omega); exact hc164 (h0.trans w2)) | (intro q; have h0 := q.2 3 (by omega); exact hc181 (h0.trans w3)))
set_option maxRecDepth 65536 in
set_option maxHeartbeats 40000000 in
theorem comes_1 {Post : Tables → Env → Array Value → State → Outcome → State → Prop} (hpost : ∀ tb e args s v u, (limb_1_1.after args s (.returned v) u = true ∧ limb_1_2.after args s (.returned v) u = true ∧ True) → FrameEnd s (.returned v) u (Jvm.fieldLocs frame_1_writes args s ++ Jvm.arrayLocs frame_1_arrays args s ++ Jvm.staticLocs frame_1_statics s) 16 128 → Post tb e args s (.returned v) u) :
    ArmFor flags0 classFile x code maxLocals ret World_1 tables_1 room_1 Calls_1 rest_1 Pre_1 Post := by
  intro l hfl _ _ p e ha hc hk s m args below hf hA hF happ hP
  obtain ⟨hcalls, hrest, hpre⟩ := hP
  obtain ⟨-, -, -, hnamed, -, -, -, hat⟩ := (Spec.applies_iff hf).mp happ
  obtain ⟨hg, hn⟩ := and_e (Cond.before_iff.mp (show (Jvm.Cond.and given_1 narrow_1).before args s = true from hpre))
  obtain ⟨g1, g2⟩ := and_e hg
  obtain ⟨g3, g4⟩ := and_e g2
  obtain ⟨g5, g6⟩ := and_e g4
  obtain ⟨w0, w1, w2, rfl⟩ : ∃ w0 w1 w2 : Value, args = #[w0, w1, w2] := by
    have hs : args.size = 3 := by simpa [Cond.value, given_1] using g1
    obtain ⟨L⟩ := args
    match L, hs with
    | [w0, w1, w2], _ => exact ⟨w0, w1, w2, rfl⟩
  have hw := fun d (hd : d ∈ tables_1) => atoms_spec (ws := Jvm.Cond.code x code maxLocals ret :: tables_1) hat d (List.mem_cons_of_mem _ hd)
  have hfit : Fit s := fun {y c} hc i hi => by
    obtain ⟨ha, rfl⟩ := Array.getElem?_eq_some_iff.mp hc
    have q := List.all_eq_true.mp ((Array.all_eq_true_iff_forall_mem.mp hF) _ (Array.getElem_mem ha)) i (List.mem_range.mpr hi)
    simpa [Array.getElem?_eq_getElem hi] using q
  obtain ⟨i0, ei0⟩ := is_v g3
  obtain rfl : w0 = (.int i0) := Option.some.inj ei0
  obtain ⟨i1, ei1⟩ := is_v g5
  obtain rfl : w1 = (.int i1) := Option.some.inj ei1
  obtain ⟨i2, ei2⟩ := is_v g6
  obtain rfl : w2 = (.int i2) := Option.some.inj ei2
  obtain ⟨n, o, h1, h2, h3, _, L, rfl, ⟨rfl, N⟩, hq⟩ := rm0 l s _ hw tables_1 i0 i1 i2  s.heap s.heap.size (Nat.le_refl _)  p e ha hc hk s m _ below hf ((Spec.applies_iff_loose hf).mp happ).1 ⟨rfl, State.Warmed39.refl s, rfl⟩ trivial
  refine ⟨n, _, h1, h2, h3, hpost _ _ _ _ _ _ ⟨Cond.after_iff.mpr rfl, Cond.after_iff.mpr (eq_i res_at (Term.int_eval (1)) rfl), trivial⟩ ⟨hq.1, hq.2.1, (hq.2.2.sift fun y hy => Or.inr (N y hy)).mono (by decide) (by decide)⟩⟩
theorem main_1_1 : Claimed_1_1 := comes_1 fun _ _ _ _ _ _ h hF => ⟨h.1, hF⟩
theorem main_1_2 : Claimed_1_2 := comes_1 fun _ _ _ _ _ _ h hF => ⟨h.2.1, hF⟩
end Jvm.Pilot.@@N@@
namespace Jvm.Pilot.@@N@@
open Jvm Jvm.ClassFile Sem Op Lib Jvm.Free Jvm.Stand Jvm.Pilot.@@N@@.Jvm.D
/-! MADE BY PROGRAM (witnessworld.py) out of the Statement's table words and the real class files: 11 classes; the members and pool entries that the words name. The judged class is class 1, her method 1. -/
namespace start1
open Jvm.ClassFile
def u (s : String) : CpInfo := .utf8 (stringToUtf16 s)
/-- a pool by its gaps: so many unusable entries, then the entry; so many at the end -/
def gap : Nat → List CpInfo → List CpInfo
  | 0, r => r
  | n + 1, r => .unusable :: gap n r
def poolList (es : List (Nat × CpInfo)) (last : Nat) : List CpInfo := es.foldr (fun e r => gap e.1 (e.2 :: r)) (gap last [])
def pool (es : List (Nat × CpInfo)) (last : Nat) : Array CpInfo := ⟨poolList es last⟩
def fileOf (pool : Array CpInfo) (this : Nat) (attrs : Array Attribute := #[]) (ms : Array MethodInfo := #[]) (fl : Nat := 33) (sup : Nat := 0) (ifs : Array Nat := #[]) (fds : Array FieldInfo := #[]) : ClassFile where
  minorVersion := 0
  majorVersion := 65
  constantPool := pool
  accessFlags := fl
  thisClass := this
  superClass := sup
  interfaces := ifs
  fields := fds
  methods := ms
  attributes := attrs
def plain (name : String) (sup : Option ClassId) : Class where
  name := name
  kind := .ordinary
  loader := none
  accessFlags := 33
  super := sup
  interfaces := #[]
  cf := none
  fields := #[]
  methods := #[]
  instanceTypes := #[]
  staticTypes := #[]
  resolved := #[]
  callSites := []
  init := .initialized
  statics := none
  mirror := none

def pool0 : Array CpInfo := pool [(5, u "<init>"), (0, u "()V"), (1, .class_ 10), (1, u "java/lang/Object")] 113

def k0m0 : Method := { name := "<init>", desc := "()V", sig := { parameters := [], returnType := none }, accessFlags := 1, code := none }
/-- java/lang/Object -/
def k0 : Class := { plain "java/lang/Object" none with
  accessFlags := 33
  interfaces := #[]
  cf := some (fileOf pool0 8 #[] #[{ accessFlags := 1, nameIndex := 5, descriptorIndex := 6, attributes := #[] }] 33 0 #[] #[])
  fields := #[]
  methods := #[k0m0]
  instanceTypes := #[]
  staticTypes := #[]
  resolved := Array.replicate 124 none
  statics := none }

def pool1 : Array CpInfo := pool [(2, .class_ 4), (1, u "java/lang/Object"), (0, u "<init>"), (0, u "()V"), (0, .methodref 8 9), (0, .class_ 10), (0, .nameAndType 11 12), (0, u "com/example/ledgerstrike/ledgerstrike/request/LineReaderStartsWithPinLaw"), (0, u "prefix"), (0, u "(IBBBB)[B"), (0, .methodref 14 15), (0, .class_ 16), (0, .nameAndType 17 18), (0, u "com/example/ledgerstrike/ledgerstrike/request/LineReader"), (0, u "startsWith"), (0, u "([BII[B)Z"), (2, u "law"), (0, u "(III)Z")] 5

def k1m0 : Method := { name := "<init>", desc := "()V", sig := { parameters := [], returnType := none }, accessFlags := 1, code := none }
def k1c1 : Code := { maxStack := 5, maxLocals := 13, code := code, exceptionTable := #[], attributes := #[] }
def k1m1 : Method := { name := "law", desc := "(III)Z", sig := { parameters := [.int, .int, .int], returnType := some .boolean }, accessFlags := 9, code := some k1c1 }
def k1c2 : Code := { maxStack := 4, maxLocals := 5, code := method_3_code, exceptionTable := #[], attributes := #[] }
def k1m2 : Method := { name := "prefix", desc := "(IBBBB)[B", sig := { parameters := [.int, .byte, .byte, .byte, .byte], returnType := some (.array .byte) }, accessFlags := 10, code := some k1c2 }
/-- com/example/ledgerstrike/ledgerstrike/request/LineReaderStartsWithPinLaw -/
def k1 : Class := { plain "com/example/ledgerstrike/ledgerstrike/request/LineReaderStartsWithPinLaw" (some 0) with
  accessFlags := 49
  interfaces := #[]
  cf := some (fileOf pool1 8 #[] #[{ accessFlags := 1, nameIndex := 5, descriptorIndex := 6, attributes := #[] }, { accessFlags := 9, nameIndex := 21, descriptorIndex := 22, attributes := #[] }, { accessFlags := 10, nameIndex := 11, descriptorIndex := 12, attributes := #[] }] 49 2 #[] #[])
  fields := #[]
  methods := #[k1m0, k1m1, k1m2]
  instanceTypes := #[]
  staticTypes := #[]
  resolved := Array.replicate 28 none
  statics := none }

def pool2 : Array CpInfo := pool [(1, .class_ 2), (0, u "java/lang/AutoCloseable"), (0, .class_ 4), (0, u "java/lang/Object")] 7

/-- java/lang/AutoCloseable -/
def k2 : Class := { plain "java/lang/AutoCloseable" (some 0) with
  accessFlags := 1537
  interfaces := #[]
  cf := some (fileOf pool2 1 #[] #[] 1537 3 #[] #[])
  fields := #[]
  methods := #[]
  instanceTypes := #[]
  staticTypes := #[]
  resolved := Array.replicate 12 none
  statics := none }

def pool3 : Array CpInfo := pool [(1, .class_ 2), (0, u "java/io/Closeable"), (0, .class_ 4), (0, u "java/lang/Object"), (0, .class_ 6), (0, u "java/lang/AutoCloseable")] 7

/-- java/io/Closeable -/
def k3 : Class := { plain "java/io/Closeable" (some 0) with
  accessFlags := 1537
  interfaces := #[2]
  cf := some (fileOf pool3 1 #[] #[] 1537 3 #[5] #[])
  fields := #[]
  methods := #[]
  instanceTypes := #[]
  staticTypes := #[]
  resolved := Array.replicate 14 none
  statics := none }

def pool4 : Array CpInfo := pool [(2, .class_ 4), (1, u "java/lang/Object"), (3, .class_ 10), (1, u "com/example/ledgerstrike/ledgerstrike/request/LineReader"), (0, u "in"), (0, u "Ljava/io/InputStream;"), (8, u "buffer"), (0, u "[B"), (2, u "position"), (0, u "I"), (2, u "limit"), (6, u "ended"), (0, u "Z"), (6, u "start"), (2, u "end"), (11, u "startsWith"), (0, u "([BII[B)Z"), (21, .class_ 83), (0, u "java/io/Closeable")] 16

def k4c0 : Code := { maxStack := 3, maxLocals := 6, code := prog_45_method_9_code, exceptionTable := #[], attributes := #[] }
def k4m0 : Method := { name := "startsWith", desc := "([BII[B)Z", sig := { parameters := [(.array .byte), .int, .int, (.array .byte)], returnType := some .boolean }, accessFlags := 9, code := some k4c0 }
/-- com/example/ledgerstrike/ledgerstrike/request/LineReader -/
def k4 : Class := { plain "com/example/ledgerstrike/ledgerstrike/request/LineReader" (some 0) with
  accessFlags := 49
  interfaces := #[3]
  cf := some (fileOf pool4 8 #[] #[{ accessFlags := 9, nameIndex := 59, descriptorIndex := 60, attributes := #[] }] 49 2 #[82] #[{ accessFlags := 18, nameIndex := 11, descriptorIndex := 12, attributes := #[] }, { accessFlags := 2, nameIndex := 21, descriptorIndex := 22, attributes := #[] }, { accessFlags := 2, nameIndex := 25, descriptorIndex := 26, attributes := #[] }, { accessFlags := 2, nameIndex := 29, descriptorIndex := 26, attributes := #[] }, { accessFlags := 2, nameIndex := 44, descriptorIndex := 26, attributes := #[] }, { accessFlags := 2, nameIndex := 47, descriptorIndex := 26, attributes := #[] }, { accessFlags := 2, nameIndex := 36, descriptorIndex := 37, attributes := #[] }])
  fields := #[{ name := "in", type := (.object "java/io/InputStream"), accessFlags := 18, slot := 0, constantValue := 0 }, { name := "buffer", type := (.array .byte), accessFlags := 2, slot := 1, constantValue := 0 }, { name := "position", type := .int, accessFlags := 2, slot := 2, constantValue := 0 }, { name := "limit", type := .int, accessFlags := 2, slot := 3, constantValue := 0 }, { name := "start", type := .int, accessFlags := 2, slot := 4, constantValue := 0 }, { name := "end", type := .int, accessFlags := 2, slot := 5, constantValue := 0 }, { name := "ended", type := .boolean, accessFlags := 2, slot := 6, constantValue := 0 }]
  methods := #[k4m0]
  instanceTypes := #[(.object "java/io/InputStream"), (.array .byte), .int, .int, .int, .int, .boolean]
  staticTypes := #[]
  resolved := Array.replicate 100 none
  statics := none }

def pool5 : Array CpInfo := pool [(1, u "java/lang/Cloneable"), (0, .class_ 1), (0, u "java/lang/Object"), (0, .class_ 3)] 3

/-- java/lang/Cloneable -/
def k5 : Class := { plain "java/lang/Cloneable" (some 0) with
  accessFlags := 1537
  interfaces := #[]
  cf := some (fileOf pool5 2 #[] #[] 1537 4 #[] #[])
  fields := #[]
  methods := #[]
  instanceTypes := #[]
  staticTypes := #[]
  resolved := Array.replicate 8 none
  statics := none }

def pool6 : Array CpInfo := pool [(1, u "java/io/Serializable"), (0, .class_ 1), (0, u "java/lang/Object"), (0, .class_ 3)] 3

/-- java/io/Serializable -/
def k6 : Class := { plain "java/io/Serializable" (some 0) with
  accessFlags := 1537
  interfaces := #[]
  cf := some (fileOf pool6 2 #[] #[] 1537 4 #[] #[])
  fields := #[]
  methods := #[]
  instanceTypes := #[]
  staticTypes := #[]
  resolved := Array.replicate 8 none
  statics := none }

/-- the primitive byte -/
def k7 : Class := { plain "byte" none with kind := .primitive 'B', accessFlags := 0x411 }
/-- [B -/
def k8 : Class := { plain "[B" (some 0) with kind := .array 7 .byte, interfaces := #[5, 6], accessFlags := 1041 }

/-- the primitive int -/
def k9 : Class := { plain "int" none with kind := .primitive 'I', accessFlags := 0x411 }
/-- [I -/
def k10 : Class := { plain "[I" (some 0) with kind := .array 9 .int, interfaces := #[5, 6], accessFlags := 1041 }

def heap : Heap := #[]
def classes : Array Class := #[k0, k1, k2, k3, k4, k5, k6, k7, k8, k9, k10]
def interned : List (Array UInt16 × Addr) := []
def slotsUsed : Nat := 0
def theMethod : MethodId := ⟨1, 1⟩
def args0 : Array Value := #[.int 5, .int 3, .int 2]
def aboutOver (below : List Frame) : State where
  vm := { classes := classes, interned := interned.toArray }
  heap := heap
  slotsUsed := slotsUsed
  threads := #[{ frames := .invoking theMethod args0 :: below }]
def below0 : List Frame := [.native { method := ⟨0, 0⟩, args := #[] }]
def about1 : State := aboutOver below0
def p0 : Program := .bare "" "" ""
def e0 : Env := launch0.env 0 0 0
theorem w_frames : about1.frames = Frame.invoking theMethod args0 :: below0 := rfl
set_option maxRecDepth 65536 in
theorem w_args : argsFit about1.vm theMethod args0 = true := by decide +kernel
set_option maxRecDepth 65536 in
theorem w_heap : heapFits about1 = true := by decide +kernel
set_option maxRecDepth 65536 in
theorem w_runnable : about1.curStatus? = some .runnable := by decide +kernel
set_option maxRecDepth 65536 in
theorem w_alone : about1.alone = true := by decide +kernel
set_option maxRecDepth 65536 in
theorem w_named : about1.methodNamed? x = some theMethod := by decide +kernel
set_option maxRecDepth 65536 in
theorem w_hears : about1.hears theMethod below0 = true := by decide +kernel
set_option maxRecDepth 65536 in
theorem w_ripe : about1.ripe theMethod args0 below0 = true := by decide +kernel
theorem w_running : about1.status = .running := rfl
set_option maxRecDepth 65536 in
theorem w_room : about1.hasRoom e0.platform room_1 = true :=
  launch0.hasRoom_least _ room_1 (by decide +kernel) (by decide +kernel) (by decide +kernel) (by decide +kernel) (by decide +kernel) (by decide +kernel)
theorem allAtoms_all (ts : List Jvm.Cond) (a : Array Jvm.Value) (st : Jvm.State) : (allAtoms ts).before a st = ts.all (fun c => c.before a st) := by
  induction ts with
  | nil => rfl
  | cons c t ih =>
    show (Jvm.Cond.and c (allAtoms t)).before a st = _
    rw [Jvm.Cond.before_and, ih, List.all_cons]
def words1 : List Jvm.Cond := Jvm.Cond.code x code maxLocals ret :: tables_1
/-- a 'code' word, met by the world's own term for the bytes: nothing is compared byte by byte -/
theorem code_word {y : MethodName} {bytes : ByteArray} {mx : Nat} {rt : Option FieldType} {a : Array Value} {s : State} {m : MethodId} {meth : Method} {c : Code} (h1 : s.methodNamed? y = some m) (h2 : s.vm.method? m = some meth) (h3 : meth.code = some c) (h4 : c.code = bytes)
    (h5 : (c.maxLocals == mx && c.exceptionTable.isEmpty && decide (c.maxStack ≤ mostOperands) && decide (meth.sig.returnType = rt) && !meth.locks && decide (parseMethodDescriptor y.desc = some meth.sig)) = true) : (Jvm.Cond.code y bytes mx rt).before a s = true := by
  simp only [Bool.and_eq_true, beq_iff_eq, Bool.not_eq_true', decide_eq_true_eq] at h5
  obtain ⟨⟨⟨⟨⟨g1, g2⟩, g3⟩, g4⟩, g5⟩, g6⟩ := h5
  simp [Cond.before, Cond.holds, Cond.value, h1, h2, h3, h4, g1, g2, g3, g4, g5, g6]
def isCode : Jvm.Cond → Bool
  | .code _ _ _ _ => true
  | _ => false
theorem all_split {L : List Jvm.Cond} {P : Jvm.Cond → Bool} (h1 : L.all (fun c => isCode c || P c) = true) (h2 : ∀ c ∈ L.filter isCode, P c = true) : L.all P = true := by
  refine List.all_eq_true.mpr fun c hc => ?_
  have h := List.all_eq_true.mp h1 c hc
  rcases Bool.eq_false_or_eq_true (isCode c) with hi | hi
  · exact h2 c (List.mem_filter.mpr ⟨hc, hi⟩)
  · simpa [hi] using h
set_option maxRecDepth 65536 in
theorem w_c0 : (Jvm.Cond.code x code maxLocals ret).before args0 about1 = true := code_word (m := ⟨1, 1⟩) (meth := k1m1) (c := k1c1) (by decide +kernel) rfl rfl rfl (by decide +kernel)
set_option maxRecDepth 65536 in
theorem w_c1 : (Jvm.Cond.code ({ cls := "com/example/ledgerstrike/ledgerstrike/request/LineReaderStartsWithPinLaw", name := "prefix", desc := "(IBBBB)[B" } : Jvm.MethodName) method_3_code (5 : Nat) (Option.some (Jvm.ClassFile.FieldType.array Jvm.ClassFile.FieldType.byte))).before args0 about1 = true := code_word (m := ⟨1, 2⟩) (meth := k1m2) (c := k1c2) (by decide +kernel) rfl rfl rfl (by decide +kernel)
set_option maxRecDepth 65536 in
theorem w_c2 : (Jvm.Cond.code ({ cls := "com/example/ledgerstrike/ledgerstrike/request/LineReader", name := "startsWith", desc := "([BII[B)Z" } : Jvm.MethodName) prog_45_method_9_code (6 : Nat) (Option.some Jvm.ClassFile.FieldType.boolean)).before args0 about1 = true := code_word (m := ⟨4, 0⟩) (meth := k4m0) (c := k4c0) (by decide +kernel) rfl rfl rfl (by decide +kernel)
def codes1 : List Jvm.Cond := [Jvm.Cond.code x code maxLocals ret, Jvm.Cond.code ({ cls := "com/example/ledgerstrike/ledgerstrike/request/LineReaderStartsWithPinLaw", name := "prefix", desc := "(IBBBB)[B" } : Jvm.MethodName) method_3_code (5 : Nat) (Option.some (Jvm.ClassFile.FieldType.array Jvm.ClassFile.FieldType.byte)), Jvm.Cond.code ({ cls := "com/example/ledgerstrike/ledgerstrike/request/LineReader", name := "startsWith", desc := "([BII[B)Z" } : Jvm.MethodName) prog_45_method_9_code (6 : Nat) (Option.some Jvm.ClassFile.FieldType.boolean)]
set_option maxRecDepth 65536 in
theorem codes_eq : words1.filter isCode = codes1 := rfl
theorem w_codes : ∀ c ∈ words1.filter isCode, c.before args0 about1 = true := by
  rw [codes_eq]
  intro c hc
  simp only [codes1, List.mem_cons, List.not_mem_nil, or_false] at hc
  rcases hc with rfl | rfl | rfl
  · exact w_c0
  · exact w_c1
  · exact w_c2
set_option maxRecDepth 65536 in
theorem w_t1 : words1.all (fun c => isCode c || c.before args0 about1) = true := by decide +kernel
theorem w_tables : (allAtoms (Jvm.Cond.code x code maxLocals ret :: tables_1)).before args0 about1 = true := by
  rw [allAtoms_all]
  show words1.all (fun c => c.before args0 about1) = true
  refine all_split ?_ w_codes
  rw [w_t1]
set_option maxRecDepth 65536 in
theorem w_case : (Jvm.Cond.and given_1 narrow_1).before args0 about1 = true := by decide +kernel
theorem w_applies : (headSpec (Jvm.Cond.code x code maxLocals ret :: tables_1) room_1).applies x e0.platform about1 = true :=
  (Spec.applies_iff w_frames).mpr ⟨w_running, w_runnable, w_alone, w_named, w_hears, w_ripe, w_room, w_tables⟩
theorem atStart : AtStart classFile x code maxLocals ret World_1 tables_1 room_1 Calls_1 rest_1 Pre_1 launch0 p0 e0 about1 theMethod args0 below0 :=
  ⟨lists_1, trivial, launch0.admits_env _ _ _, launch0.least_env, fairChoices_fair.cas, fairChoices_fair.clock, w_frames, w_args, w_heap, w_applies, trivial, trivial, w_case⟩
end start1
theorem witness_1 : WitnessClaimed_1 := ⟨start1.p0, start1.e0, start1.about1, start1.theMethod, start1.args0, start1.below0, start1.atStart⟩
end Jvm.Pilot.@@N@@
