import JvmDerived
import JvmDerived.Pilot.@@N@@Statement
import JvmDerived.Pilot.@@N@@Code
set_option linter.unusedVariables false
set_option linter.unusedSimpArgs false
namespace Jvm.RoadKit
open Sem ClassFile Op Lib Jvm.Stand Jvm.Free Jvm.LawKit
section New
variable {p : Program} {l : Launch} {e : Env} {R : Room} {s : State} {m : MethodId} {args : Array Value} {below : List Frame} {meth : Method} {c : Code} {T : State} {locs : List Loc} {cells slots : Nat}
theorem retI (X : Stand p l e R s m args below meth c T locs cells slots) (hx : p.tables.exec = Jvm.exec) {pc : Nat} {Ls : Array Slot} {z : Int32} {rest : List Value} (hret : meth.sig.returnType = some .int) (hd : decode c.code pc = .ok (.ireturn, 1)) {fs : List Frame}
    (hl : ∀ (f : JFrame) (acts : List Action), f.method = m → f.locked = none → f.entered = [] → (doReturn e (T.setTop f) acts (some (.int z))).1 = T.setFrames fs) : Steps p.tables e below (T.setTop (mkF m pc Ls (.int z :: rest))) (T.setFrames fs) := by
  have hm' : T.vm.method? m = some meth := X.method'
  have hn : narrow .int (.int z) = .int z := rfl
  show Steps p.tables e below (T.setTop { method := m, pc := pc, locals := Ls, stack := _ :: rest, locked := none }) _
  jvm_step X.here [X.here.top, hx, hd, hm', hret, hn]
  first | (intro acts; rw [hl _ acts rfl rfl rfl]) | rw [hl _ _ rfl rfl rfl]
  exact Steps.refl _
theorem own_lrem {g : JFrame} {target : State} (X : Stand p l e R s m args below meth c T locs cells slots) (hx : p.tables.exec = Jvm.exec) (hg : g.method = m) {x y : Int64} {rest : List Value} (hd : decode c.code g.pc = .ok (.lrem, 1)) (hs : g.stack = .long y :: .long x :: rest) (hy : y ≠ 0)
    (hr : Steps p.tables e below (T.setTop { g with pc := g.pc + 1, stack := .long (x % y) :: rest }) target) : Steps p.tables e below (T.setTop g) target :=
  XS.lrem X.here hx hg hd hs hy (by first | exact hr | (rw [lrem_mod]; exact hr))
end New
end Jvm.RoadKit
namespace Jvm.Pilot.@@N@@
open Jvm Jvm.ClassFile Sem Op Lib Jvm.Free Jvm.Stand Jvm.LawKit Jvm.RoadKit Bundle Jvm.Pilot.@@N@@.Jvm.D
/-- from the state A the body returns with QQ -/
def own_Go (p : Program) (e : Env) (below : List Frame) (s : State) (QQ : Option Value → Heap → List Loc → Prop) (k n : Nat) (A : State) : Prop :=
  ∃ U o, Steps p.tables e below A U ∧ U.status = .running ∧ Ended U below o ∧ ∃ v L, o = .returned v ∧ QQ v U.heap L ∧ FrameEnd s o U L k n
theorem own_go {p : Program} {e : Env} {below : List Frame} {s : State} {QQ : Option Value → Heap → List Loc → Prop} {k n : Nat} {A B : State} (h : ∀ t, Steps p.tables e below B t → Steps p.tables e below A t) (g : own_Go p e below s QQ k n B) : own_Go p e below s QQ k n A := by
  obtain ⟨U, o, h1, r⟩ := g
  exact ⟨U, o, h U h1, r⟩
theorem own_ret {p : Program} {l : Launch} {e : Env} {R : Room} {s : State} {m : MethodId} {args : Array Value} {below : List Frame} {meth : Method} {c : Code} {T : State} {locs : List Loc} {cells slots : Nat} {QQ : Option Value → Heap → List Loc → Prop} {k n : Nat} {A : State}
    (X : Stand p l e R s m args below meth c T locs cells slots) {v : Option Value} (hv : meth.sig.returnType = none → v = none) (hlk : meth.locks = false) (hQ : QQ v T.heap locs) (hk : cells ≤ k) (hn : slots ≤ n)
    (st : ∀ fs, (∀ (f : JFrame) (acts : List Action), f.method = m → f.locked = none → f.entered = [] → (doReturn e (T.setTop f) acts v).1 = T.setFrames fs) → Steps p.tables e below A (T.setFrames fs)) : own_Go p e below s QQ k n A := by
  obtain ⟨fs, hr, hrun, hended, hW, hsame⟩ := X.leave hv hlk
  exact ⟨_, _, st fs hr, hrun, hended, _, _, rfl, hQ, ⟨_, rfl⟩, hW, hsame.mono hk hn⟩
def own_GoW (p : Program) (e : Env) (below : List Frame) (s : State) (QQ : Option Value → Heap → List Loc → Prop) (k n : Nat) (A : State) : Prop :=
  ∃ U o, Steps p.tables e below A U ∧ U.status = .running ∧ Ended U below o ∧ ∃ v L, o = .returned v ∧ QQ v U.heap L ∧ ReturnedEndW s o U L k n
theorem own_goW {p : Program} {e : Env} {below : List Frame} {s : State} {QQ : Option Value → Heap → List Loc → Prop} {k n : Nat} {A B : State} (h : ∀ t, Steps p.tables e below B t → Steps p.tables e below A t) (g : own_GoW p e below s QQ k n B) : own_GoW p e below s QQ k n A := by
  obtain ⟨U, o, h1, r⟩ := g
  exact ⟨U, o, h U h1, r⟩
theorem own_retW {p : Program} {l : Launch} {e : Env} {R : Room} {s : State} {vm₁ : Vm} {m : MethodId} {args : Array Value} {below : List Frame} {meth : Method} {c : Code} {T : State} {locs : List Loc} {cells slots : Nat} {QQ : Option Value → Heap → List Loc → Prop} {k n : Nat} {A : State}
    (X : Stand p l e R (s.setVm vm₁) m args below meth c T locs cells slots) {n1 : Nat} (hS : s.Since vm₁ n1) (hn1 : n1 ≤ T.heap.size) {v : Option Value} (hv : meth.sig.returnType = none → v = none) (hlk : meth.locks = false) (hQ : QQ v T.heap locs) (hk : cells ≤ k) (hn : slots ≤ n)
    (st : ∀ fs, (∀ (f : JFrame) (acts : List Action), f.method = m → f.locked = none → f.entered = [] → (doReturn e (T.setTop f) acts v).1 = T.setFrames fs) → Steps p.tables e below A (T.setFrames fs)) : own_GoW p e below s QQ k n A := by
  obtain ⟨fs, hr, hrun, hended, hq⟩ := X.leaveW hS hn1 hv hlk
  exact ⟨_, _, st fs hr, hrun, hended, _, _, rfl, hQ, hq.1, hq.2.1, hq.2.2.1, hq.2.2.2.mono hk hn⟩
/-- an array by what its places hold -/
def own_Ary (Z : State) (h : Heap) (a : Addr) (ty : FieldType) (n : Nat) (f : Nat → Value) : Prop := ∃ c : Cell, Arr Z h a c ty ∧ c.slots.size = n ∧ ∀ j, j < n → c.slots[j]? = some (f j)
def own_set (f : Nat → Value) (i : Nat) (v : Value) : Nat → Value := fun j => if j = i then v else f j
section
variable {Z : State} {h h' : Heap} {a b : Addr} {ty : FieldType} {n : Nat} {f : Nat → Value}
theorem own_Ary.lt (F : own_Ary Z h a ty n f) : a < h.size := by obtain ⟨c, A, -⟩ := F; exact A.lt
theorem own_Ary.ext (F : own_Ary Z h a ty n f) (E : Ext h h') : own_Ary Z h' a ty n f := by obtain ⟨c, A, r⟩ := F; exact ⟨c, A.ext E, r⟩
theorem own_Ary.other {sl : Nat} {v : Value} (F : own_Ary Z h b ty n f) (W : Wr h h' a sl v) (q : b ≠ a) : own_Ary Z h' b ty n f := by obtain ⟨c, A, r⟩ := F; exact ⟨c, A.other W q, r⟩
theorem own_Ary.keep {ws : List Addr} (F : own_Ary Z h a ty n f) (K : Keep h h' ws) (q : a ∉ ws) : own_Ary Z h' a ty n f := by obtain ⟨c, A, r⟩ := F; exact ⟨c, ⟨K.2.1 a c A.1 q, A.2⟩, r⟩
theorem own_Ary.new {k : ClassId} {z : Int32} (A : Arr Z h a (newA k ty z) ty) (hz : z.toNatClampNeg = n) : own_Ary Z h a ty n (fun _ => defaultValue ty) :=
  ⟨_, A, by rw [sz_new]; exact hz, fun j hj => by simp [newA, hz, hj]⟩
theorem own_Ary.set {c : Cell} {i : Nat} {v : Value} (A : Arr Z h a c ty) (S : c.slots.size = n) (G : ∀ j, j < n → c.slots[j]? = some (f j)) (W : Wr h h' a i v) : own_Ary Z h' a ty n (own_set f i v) := by
  refine ⟨_, A.same W, by rw [sz_set]; exact S, fun j hj => ?_⟩
  simp only [Cell.setSlot, Array.getElem?_setIfInBounds, own_set]
  by_cases q : j = i
  · subst q; simp [S, hj]
  · have q' : ¬ i = j := fun z => q z.symm
    simp [q, q', G j hj]
theorem own_Ary.congr {g : Nat → Value} (F : own_Ary Z h a ty n f) (q : ∀ j, j < n → f j = g j) : own_Ary Z h a ty n g := by
  obtain ⟨c, A, S, G⟩ := F; exact ⟨c, A, S, fun j hj => by rw [G j hj, q j hj]⟩
theorem own_sta_keep {C m d : String} {v : Value} (F : Sta Z h C m d v) (K : Keep h h' []) : Sta Z h' C m d v := by
  obtain ⟨cf, i, k, g, st, cell, h1, h2, h3, h4, h5, r⟩ := F
  exact ⟨cf, i, k, g, st, cell, h1, h2, h3, h4, K.2.1 _ _ h5 nin0, r⟩
theorem own_cl {j : Int32} {i : Nat} (q : j.toInt = (i : Int)) : j.toNatClampNeg = i := by
  show j.toInt.toNat = i
  rw [q]; rfl
theorem own_in {c : Cell} {j : Int32} {i : Nat} (S : c.slots.size = n) (q : j.toInt = (i : Int)) (hi : i < n) : ¬ (j < 0 ∨ c.slots.size ≤ j.toNatClampNeg) := by
  rw [own_cl q, S]
  have h0 : (0 : Int32).toInt = 0 := by decide
  intro z
  rcases z with z | z
  · have := Int32.lt_iff_toInt_lt.mp z; omega
  · omega
end
def own_Dg (N d : Nat) : Prop := 1 ≤ d ∧ d ≤ 19 ∧ N < 10 ^ d ∧ (d = 1 ∨ 10 ^ (d - 1) ≤ N)
theorem own_Dg_uniq {N d e : Nat} (h : own_Dg N d) (h' : own_Dg N e) : d = e := by
  obtain ⟨h1, h2, h3, h4⟩ := h
  obtain ⟨k1, k2, k3, k4⟩ := h'
  rcases Nat.lt_trichotomy d e with q | q | q
  · have : 10 ^ d ≤ 10 ^ (e - 1) := Nat.pow_le_pow_right (by decide) (by omega)
    rcases k4 with k4 | k4 <;> omega
  · exact q
  · have : 10 ^ e ≤ 10 ^ (d - 1) := Nat.pow_le_pow_right (by decide) (by omega)
    rcases h4 with h4 | h4 <;> omega
def own_c (N : Nat) : Nat → Nat
  | 0 => 1
  | k + 1 => own_c N k + if 10 ^ (k + 1) ≤ N then 1 else 0
theorem own_cP (N : Nat) : ∀ k, (N < 10 ^ (k + 1) → 1 ≤ own_c N k ∧ own_c N k ≤ k + 1 ∧ N < 10 ^ (own_c N k) ∧ (own_c N k = 1 ∨ 10 ^ (own_c N k - 1) ≤ N)) ∧ (¬ N < 10 ^ (k + 1) → own_c N k = k + 1)
  | 0 => ⟨fun h => ⟨Nat.le_refl _, Nat.le_refl _, h, Or.inl rfl⟩, fun _ => rfl⟩
  | k + 1 => by
    obtain ⟨i1, i2⟩ := own_cP N k
    by_cases q : 10 ^ (k + 1) ≤ N
    · have e : own_c N (k + 1) = k + 2 := by
        show own_c N k + (if 10 ^ (k + 1) ≤ N then 1 else 0) = k + 2
        rw [if_pos q, i2 (by omega)]
      rw [e]
      exact ⟨fun h => ⟨by omega, by omega, h, Or.inr q⟩, fun _ => rfl⟩
    · have e : own_c N (k + 1) = own_c N k := by
        show own_c N k + (if 10 ^ (k + 1) ≤ N then 1 else 0) = own_c N k
        rw [if_neg q]; rfl
      rw [e]
      have z := i1 (by omega)
      refine ⟨fun _ => ⟨z.1, by omega, z.2.2⟩, fun h => ?_⟩
      have : 10 ^ (k + 1) ≤ 10 ^ (k + 1 + 1) := Nat.pow_le_pow_right (by decide) (by omega)
      omega
theorem own_cD {N : Nat} (h : N < 10 ^ 19) : own_Dg N (own_c N 18) := by
  obtain ⟨a, b, c, d⟩ := (own_cP N 18).1 h
  exact ⟨a, by omega, c, d⟩
theorem own_cle (N : Nat) : ∀ k, own_c N k ≤ k + 1
  | 0 => Nat.le_refl _
  | k + 1 => by
    have := own_cle N k
    show own_c N k + (if 10 ^ (k + 1) ≤ N then 1 else 0) ≤ k + 1 + 1
    split <;> omega
theorem own_cs {a z : Int32} {N k : Nat} (hk : k ≤ 17) (h : a.toInt = (own_c N k : Int)) (hz : z = if 10 ^ (k + 1) ≤ N then 1 else 0) : (a + z).toInt = (own_c N (k + 1) : Int) := by
  have h1 := c_iadd a z
  have h2 := rng32 (a + z)
  have h3 := own_cle N k
  have e0 : (0 : Int32).toInt = 0 := by decide
  have e1 : (1 : Int32).toInt = 1 := by decide
  show (a + z).toInt = ((own_c N k + (if 10 ^ (k + 1) ≤ N then 1 else 0) : Nat) : Int)
  by_cases q : 10 ^ (k + 1) ≤ N
  · rw [if_pos q] at hz ⊢
    rw [hz] at h1 h2 ⊢; rw [e1] at h1
    omega
  · rw [if_neg q] at hz ⊢
    rw [hz] at h1 h2 ⊢; rw [e0] at h1
    omega
def own_dig (N k : Nat) : Int32 := Int32.ofNat (48 + N / 10 ^ k % 10)
theorem own_digI (N k : Nat) : (own_dig N k).toInt = ((48 + N / 10 ^ k % 10 : Nat) : Int) := Int32.toInt_ofNat_of_lt (by omega)
theorem own_plus {x : Int32} {s : Nat} {i : Int32} {k : Nat} (h : x.toInt = (s : Int)) (h' : i.toInt = (k : Int)) (q : s + k ≤ 100) : (x + i).toInt = ((s + k : Nat) : Int) := by
  have h1 := c_iadd x i
  have h3 := rng32 (x + i)
  omega
theorem own_subI {x y : Int32} (h : -1000 ≤ x.toInt ∧ x.toInt ≤ 1000) (h' : -1000 ≤ y.toInt ∧ y.toInt ≤ 1000) : (x - y).toInt = x.toInt - y.toInt := by
  have h1 := c_isub x y
  have h3 := rng32 (x - y)
  omega
theorem own_addI {x y : Int32} (h : -1000 ≤ x.toInt ∧ x.toInt ≤ 1000) (h' : -1000 ≤ y.toInt ∧ y.toInt ≤ 1000) : (x + y).toInt = x.toInt + y.toInt := by
  have h1 := c_iadd x y
  have h3 := rng32 (x + y)
  omega
theorem own_l1 : (1 : Int32).toInt = 1 := by decide
theorem own_l4 : (4 : Int32).toInt = 4 := by decide
theorem own_lm1 : (Int32.ofInt (-1)).toInt = -1 := by decide
theorem own_dec {ix : Int32} {a : Int} (h : ix.toInt = a) (hb : -1000 ≤ a ∧ a ≤ 1000) : (ix + Int32.ofInt (-1)).toInt = a - 1 := by
  have q := own_addI (x := ix) (y := Int32.ofInt (-1)) (by omega) (by have := own_lm1; omega)
  rw [own_lm1, h] at q
  rw [q]; rfl
theorem own_div10 {x : Int64} {m : Nat} (h : x.toInt = (m : Int)) : (x / (10 : Int64)).toInt = ((m / 10 : Nat) : Int) := by
  have := (c_ldiv x 10 10 (by decide) (by decide)).1 (by omega)
  omega
theorem own_divp {x y : Int64} {m k : Nat} (h : x.toInt = (m : Int)) (h' : y.toInt = ((10 ^ k : Nat) : Int)) : (x / y).toInt = ((m / 10 ^ k : Nat) : Int) := by
  have hy : y ≠ -1 := fun q => by
    rw [q, show (-1 : Int64).toInt = -1 from by decide] at h'
    have h0 := Int.natCast_nonneg (10 ^ k)
    rw [← h'] at h0
    exact absurd h0 (by decide)
  have := (c_ldiv x y _ h' hy).1 (by omega)
  rw [this, h]
  exact (Int.natCast_ediv m (10 ^ k)).symm
theorem own_rem10 {x : Int64} {m : Nat} (h : x.toInt = (m : Int)) : (x % (10 : Int64)).toInt = ((m % 10 : Nat) : Int) := by
  rw [Int64.toInt_mod, (tr _ _).1 (by omega), h, show (10 : Int64).toInt = 10 from by decide]
  omega
theorem own_p0 {N k : Nat} {y : Int64} (h' : y.toInt = ((10 ^ k : Nat) : Int)) : y ≠ 0 := fun q => by
  rw [q, show (0 : Int64).toInt = 0 from by decide] at h'
  have hp : 0 < 10 ^ k := Nat.pow_pos (by decide)
  obtain ⟨P, hP⟩ : ∃ P, P = 10 ^ k := ⟨_, rfl⟩
  rw [← hP] at h' hp
  omega
theorem own_i1 {N k p : Nat} (e : 10 ^ k = p) (h : p ≤ N) : (1 : Int32) = if 10 ^ k ≤ N then 1 else 0 := by rw [if_pos (e ▸ h)]
theorem own_i0 {N k p : Nat} (e : 10 ^ k = p) (h : ¬ p ≤ N) : (0 : Int32) = if 10 ^ k ≤ N then 1 else 0 := by rw [if_neg (e ▸ h)]
theorem own_48 {x : Int64} {m : Nat} (h : x.toInt = (m : Int)) : ((48 : Int64) + x % (10 : Int64)).toInt = ((48 + m % 10 : Nat) : Int) := by
  have h1 := own_rem10 h
  have h2 := c_ladd 48 (x % 10)
  have h3 := rng64 (48 + x % 10)
  have h4 : (48 : Int64).toInt = 48 := by decide
  rw [h4, h1] at h2
  omega
theorem own_b8 {x : Int64} {m : Nat} (h : x.toInt = ((48 + m % 10 : Nat) : Int)) : nar .byte (x.toInt32.toInt8.toInt32) = Int32.ofNat (48 + m % 10) := by
  apply Int32.toInt_inj.mp
  rw [Int32.toInt_ofNat_of_lt (by omega)]
  show (((x.toInt32.toInt8.toInt32)).toInt8.toInt32).toInt = _
  rw [Int8.toInt8_toInt32]
  have h1 := c_l2i x
  have h2 := c_i2b x.toInt32
  omega
theorem own_nb8 (x : Int32) : nar .byte (x.toInt8.toInt32) = x.toInt8.toInt32 := by
  show (x.toInt8.toInt32).toInt8.toInt32 = x.toInt8.toInt32
  rw [Int8.toInt8_toInt32]
theorem own_cmp {x : Int32} {y : Int64} {N k : Nat} (h : y.toInt = ((N / 10 ^ k : Nat) : Int)) : x.toInt64 = ((48 : Int64) + y % (10 : Int64)) ↔ x = own_dig N k := by
  have h1 := own_48 h
  have h2 := own_digI N k
  have h3 := c_i2l x
  constructor
  · intro q; apply Int32.toInt_inj.mp; rw [h2, ← h3, q, h1]
  · intro q; apply Int64.toInt_inj.mp; rw [h1, h3, q, h2]
theorem own_up {P : Nat → Prop} {k : Nat} (h : ∀ j, j < k → P j) (q : P k) : ∀ j, j < k + 1 → P j := fun j hj => by
  by_cases e : j = k
  · subst e; exact q
  · exact h j (by omega)
theorem own_dd (N k : Nat) : N / 10 ^ k / 10 = N / 10 ^ (k + 1) := by rw [Nat.div_div_eq_div_mul, Nat.pow_succ]
theorem own_lt0 {N k : Nat} (h : ¬ 0 < N / 10 ^ k) : N < 10 ^ k := by
  rcases Nat.lt_or_ge N (10 ^ k) with q | q
  · exact q
  · exact absurd (Nat.div_pos q (Nat.pow_pos (by decide))) h
theorem own_ge0 {N k : Nat} (h : 0 < N / 10 ^ k) : 10 ^ k ≤ N := by
  rcases Nat.lt_or_ge N (10 ^ k) with q | q
  · rw [Nat.div_eq_of_lt q] at h; omega
  · exact q
theorem own_big {N k : Nat} (h : 10 ^ k ≤ N) (q : N < 10 ^ 19) : k ≤ 18 := by
  rcases Nat.lt_or_ge k 19 with z | z
  · omega
  · have : 10 ^ 19 ≤ 10 ^ k := Nat.pow_le_pow_right (by decide) z
    omega
theorem own_nat {x : Int64} (h : 1 ≤ x.toInt) : x.toInt = (x.toInt.toNat : Int) ∧ x.toInt.toNat < 10 ^ 19 ∧ 1 ≤ x.toInt.toNat := by
  have := rng64 x
  have e : (10 : Nat) ^ 19 = 10000000000000000000 := by decide
  rw [e]
  omega
def own_Ok (u : Nat → Int32) (ss d N : Nat) (ev : Int) : Prop := ((ss + d : Nat) : Int) < ev ∧ u (ss + d) = (44 : Int32) ∧ ∀ k, k < d → u (ss + d - 1 - k) = own_dig N k
theorem pn_0 : plainName "com/example/ledgerstrike/ledgerstrike/journal/JournalFormatAfterNumberPinLaw" = true := by first | (simp [plainName, overriddenIn]; done) | decide +kernel
theorem d1_0 : decode method_3_code 0 = .ok (.iconst 1, 1) := by decide +kernel
theorem d1_1 : decode method_3_code 1 = .ok (.lload_n 0, 1) := by decide +kernel
theorem d1_2 : decode method_3_code 2 = .ok (.ldc2_w 21, 3) := by decide +kernel
theorem d1_5 : decode method_3_code 5 = .ok (.lcmp, 1) := by decide +kernel
theorem d1_14 : decode method_3_code 14 = .ok (.iadd, 1) := by decide +kernel
theorem d1_15 : decode method_3_code 15 = .ok (.lload_n 0, 1) := by decide +kernel
theorem d1_16 : decode method_3_code 16 = .ok (.ldc2_w 23, 3) := by decide +kernel
theorem d1_19 : decode method_3_code 19 = .ok (.lcmp, 1) := by decide +kernel
theorem d1_28 : decode method_3_code 28 = .ok (.iadd, 1) := by decide +kernel
theorem d1_29 : decode method_3_code 29 = .ok (.lload_n 0, 1) := by decide +kernel
theorem d1_30 : decode method_3_code 30 = .ok (.ldc2_w 25, 3) := by decide +kernel
theorem d1_33 : decode method_3_code 33 = .ok (.lcmp, 1) := by decide +kernel
theorem d1_42 : decode method_3_code 42 = .ok (.iadd, 1) := by decide +kernel
theorem d1_43 : decode method_3_code 43 = .ok (.lload_n 0, 1) := by decide +kernel
theorem d1_44 : decode method_3_code 44 = .ok (.ldc2_w 27, 3) := by decide +kernel
theorem d1_47 : decode method_3_code 47 = .ok (.lcmp, 1) := by decide +kernel
theorem d1_56 : decode method_3_code 56 = .ok (.iadd, 1) := by decide +kernel
theorem d1_57 : decode method_3_code 57 = .ok (.lload_n 0, 1) := by decide +kernel
theorem d1_58 : decode method_3_code 58 = .ok (.ldc2_w 29, 3) := by decide +kernel
theorem d1_61 : decode method_3_code 61 = .ok (.lcmp, 1) := by decide +kernel
theorem d1_70 : decode method_3_code 70 = .ok (.iadd, 1) := by decide +kernel
theorem d1_71 : decode method_3_code 71 = .ok (.lload_n 0, 1) := by decide +kernel
theorem d1_72 : decode method_3_code 72 = .ok (.ldc2_w 31, 3) := by decide +kernel
theorem d1_75 : decode method_3_code 75 = .ok (.lcmp, 1) := by decide +kernel
theorem d1_84 : decode method_3_code 84 = .ok (.iadd, 1) := by decide +kernel
theorem d1_85 : decode method_3_code 85 = .ok (.lload_n 0, 1) := by decide +kernel
theorem d1_86 : decode method_3_code 86 = .ok (.ldc2_w 33, 3) := by decide +kernel
theorem d1_89 : decode method_3_code 89 = .ok (.lcmp, 1) := by decide +kernel
theorem d1_98 : decode method_3_code 98 = .ok (.iadd, 1) := by decide +kernel
theorem d1_99 : decode method_3_code 99 = .ok (.lload_n 0, 1) := by decide +kernel
theorem d1_100 : decode method_3_code 100 = .ok (.ldc2_w 35, 3) := by decide +kernel
theorem d1_103 : decode method_3_code 103 = .ok (.lcmp, 1) := by decide +kernel
theorem d1_112 : decode method_3_code 112 = .ok (.iadd, 1) := by decide +kernel
theorem d1_113 : decode method_3_code 113 = .ok (.lload_n 0, 1) := by decide +kernel
theorem d1_114 : decode method_3_code 114 = .ok (.ldc2_w 37, 3) := by decide +kernel
theorem d1_117 : decode method_3_code 117 = .ok (.lcmp, 1) := by decide +kernel
theorem d1_126 : decode method_3_code 126 = .ok (.iadd, 1) := by decide +kernel
theorem d1_127 : decode method_3_code 127 = .ok (.lload_n 0, 1) := by decide +kernel
theorem d1_128 : decode method_3_code 128 = .ok (.ldc2_w 39, 3) := by decide +kernel
theorem d1_131 : decode method_3_code 131 = .ok (.lcmp, 1) := by decide +kernel
theorem d1_140 : decode method_3_code 140 = .ok (.iadd, 1) := by decide +kernel
theorem d1_141 : decode method_3_code 141 = .ok (.lload_n 0, 1) := by decide +kernel
theorem d1_142 : decode method_3_code 142 = .ok (.ldc2_w 41, 3) := by decide +kernel
theorem d1_145 : decode method_3_code 145 = .ok (.lcmp, 1) := by decide +kernel
theorem d1_154 : decode method_3_code 154 = .ok (.iadd, 1) := by decide +kernel
theorem d1_155 : decode method_3_code 155 = .ok (.lload_n 0, 1) := by decide +kernel
theorem d1_156 : decode method_3_code 156 = .ok (.ldc2_w 43, 3) := by decide +kernel
theorem d1_159 : decode method_3_code 159 = .ok (.lcmp, 1) := by decide +kernel
theorem d1_168 : decode method_3_code 168 = .ok (.iadd, 1) := by decide +kernel
theorem d1_169 : decode method_3_code 169 = .ok (.lload_n 0, 1) := by decide +kernel
theorem d1_170 : decode method_3_code 170 = .ok (.ldc2_w 45, 3) := by decide +kernel
theorem d1_173 : decode method_3_code 173 = .ok (.lcmp, 1) := by decide +kernel
theorem d1_182 : decode method_3_code 182 = .ok (.iadd, 1) := by decide +kernel
theorem d1_183 : decode method_3_code 183 = .ok (.lload_n 0, 1) := by decide +kernel
theorem d1_184 : decode method_3_code 184 = .ok (.ldc2_w 47, 3) := by decide +kernel
theorem d1_187 : decode method_3_code 187 = .ok (.lcmp, 1) := by decide +kernel
theorem d1_196 : decode method_3_code 196 = .ok (.iadd, 1) := by decide +kernel
theorem d1_197 : decode method_3_code 197 = .ok (.lload_n 0, 1) := by decide +kernel
theorem d1_198 : decode method_3_code 198 = .ok (.ldc2_w 49, 3) := by decide +kernel
theorem d1_201 : decode method_3_code 201 = .ok (.lcmp, 1) := by decide +kernel
theorem d1_210 : decode method_3_code 210 = .ok (.iadd, 1) := by decide +kernel
theorem d1_211 : decode method_3_code 211 = .ok (.lload_n 0, 1) := by decide +kernel
theorem d1_212 : decode method_3_code 212 = .ok (.ldc2_w 51, 3) := by decide +kernel
theorem d1_215 : decode method_3_code 215 = .ok (.lcmp, 1) := by decide +kernel
theorem d1_224 : decode method_3_code 224 = .ok (.iadd, 1) := by decide +kernel
theorem d1_225 : decode method_3_code 225 = .ok (.lload_n 0, 1) := by decide +kernel
theorem d1_226 : decode method_3_code 226 = .ok (.ldc2_w 53, 3) := by decide +kernel
theorem d1_229 : decode method_3_code 229 = .ok (.lcmp, 1) := by decide +kernel
theorem d1_238 : decode method_3_code 238 = .ok (.iadd, 1) := by decide +kernel
theorem d1_239 : decode method_3_code 239 = .ok (.lload_n 0, 1) := by decide +kernel
theorem d1_240 : decode method_3_code 240 = .ok (.ldc2_w 55, 3) := by decide +kernel
theorem d1_243 : decode method_3_code 243 = .ok (.lcmp, 1) := by decide +kernel
theorem d1_252 : decode method_3_code 252 = .ok (.iadd, 1) := by decide +kernel
theorem d1_253 : decode method_3_code 253 = .ok (.ireturn, 1) := by decide +kernel
theorem d1_244 : decode method_3_code 244 = .ok (.ifCond .lt 7, 3) := by decide +kernel
theorem d1_251 : decode method_3_code 251 = .ok (.iconst 0, 1) := by decide +kernel
theorem d1_247 : decode method_3_code 247 = .ok (.iconst 1, 1) := by decide +kernel
theorem d1_248 : decode method_3_code 248 = .ok (.goto 4, 3) := by decide +kernel
theorem d1_230 : decode method_3_code 230 = .ok (.ifCond .lt 7, 3) := by decide +kernel
theorem d1_237 : decode method_3_code 237 = .ok (.iconst 0, 1) := by decide +kernel
theorem d1_233 : decode method_3_code 233 = .ok (.iconst 1, 1) := by decide +kernel
theorem d1_234 : decode method_3_code 234 = .ok (.goto 4, 3) := by decide +kernel
theorem d1_216 : decode method_3_code 216 = .ok (.ifCond .lt 7, 3) := by decide +kernel
theorem d1_223 : decode method_3_code 223 = .ok (.iconst 0, 1) := by decide +kernel
theorem d1_219 : decode method_3_code 219 = .ok (.iconst 1, 1) := by decide +kernel
theorem d1_220 : decode method_3_code 220 = .ok (.goto 4, 3) := by decide +kernel
theorem d1_202 : decode method_3_code 202 = .ok (.ifCond .lt 7, 3) := by decide +kernel
theorem d1_209 : decode method_3_code 209 = .ok (.iconst 0, 1) := by decide +kernel
theorem d1_205 : decode method_3_code 205 = .ok (.iconst 1, 1) := by decide +kernel
theorem d1_206 : decode method_3_code 206 = .ok (.goto 4, 3) := by decide +kernel
theorem d1_188 : decode method_3_code 188 = .ok (.ifCond .lt 7, 3) := by decide +kernel
theorem d1_195 : decode method_3_code 195 = .ok (.iconst 0, 1) := by decide +kernel
theorem d1_191 : decode method_3_code 191 = .ok (.iconst 1, 1) := by decide +kernel
theorem d1_192 : decode method_3_code 192 = .ok (.goto 4, 3) := by decide +kernel
theorem d1_174 : decode method_3_code 174 = .ok (.ifCond .lt 7, 3) := by decide +kernel
theorem d1_181 : decode method_3_code 181 = .ok (.iconst 0, 1) := by decide +kernel
theorem d1_177 : decode method_3_code 177 = .ok (.iconst 1, 1) := by decide +kernel
theorem d1_178 : decode method_3_code 178 = .ok (.goto 4, 3) := by decide +kernel
theorem d1_160 : decode method_3_code 160 = .ok (.ifCond .lt 7, 3) := by decide +kernel
theorem d1_167 : decode method_3_code 167 = .ok (.iconst 0, 1) := by decide +kernel
theorem d1_163 : decode method_3_code 163 = .ok (.iconst 1, 1) := by decide +kernel
theorem d1_164 : decode method_3_code 164 = .ok (.goto 4, 3) := by decide +kernel
theorem d1_146 : decode method_3_code 146 = .ok (.ifCond .lt 7, 3) := by decide +kernel
theorem d1_153 : decode method_3_code 153 = .ok (.iconst 0, 1) := by decide +kernel
theorem d1_149 : decode method_3_code 149 = .ok (.iconst 1, 1) := by decide +kernel
theorem d1_150 : decode method_3_code 150 = .ok (.goto 4, 3) := by decide +kernel
theorem d1_132 : decode method_3_code 132 = .ok (.ifCond .lt 7, 3) := by decide +kernel
theorem d1_139 : decode method_3_code 139 = .ok (.iconst 0, 1) := by decide +kernel
theorem d1_135 : decode method_3_code 135 = .ok (.iconst 1, 1) := by decide +kernel
theorem d1_136 : decode method_3_code 136 = .ok (.goto 4, 3) := by decide +kernel
theorem d1_118 : decode method_3_code 118 = .ok (.ifCond .lt 7, 3) := by decide +kernel
theorem d1_125 : decode method_3_code 125 = .ok (.iconst 0, 1) := by decide +kernel
theorem d1_121 : decode method_3_code 121 = .ok (.iconst 1, 1) := by decide +kernel
theorem d1_122 : decode method_3_code 122 = .ok (.goto 4, 3) := by decide +kernel
theorem d1_104 : decode method_3_code 104 = .ok (.ifCond .lt 7, 3) := by decide +kernel
theorem d1_111 : decode method_3_code 111 = .ok (.iconst 0, 1) := by decide +kernel
theorem d1_107 : decode method_3_code 107 = .ok (.iconst 1, 1) := by decide +kernel
theorem d1_108 : decode method_3_code 108 = .ok (.goto 4, 3) := by decide +kernel
theorem d1_90 : decode method_3_code 90 = .ok (.ifCond .lt 7, 3) := by decide +kernel
theorem d1_97 : decode method_3_code 97 = .ok (.iconst 0, 1) := by decide +kernel
theorem d1_93 : decode method_3_code 93 = .ok (.iconst 1, 1) := by decide +kernel
theorem d1_94 : decode method_3_code 94 = .ok (.goto 4, 3) := by decide +kernel
theorem d1_76 : decode method_3_code 76 = .ok (.ifCond .lt 7, 3) := by decide +kernel
theorem d1_83 : decode method_3_code 83 = .ok (.iconst 0, 1) := by decide +kernel
theorem d1_79 : decode method_3_code 79 = .ok (.iconst 1, 1) := by decide +kernel
theorem d1_80 : decode method_3_code 80 = .ok (.goto 4, 3) := by decide +kernel
theorem d1_62 : decode method_3_code 62 = .ok (.ifCond .lt 7, 3) := by decide +kernel
theorem d1_69 : decode method_3_code 69 = .ok (.iconst 0, 1) := by decide +kernel
theorem d1_65 : decode method_3_code 65 = .ok (.iconst 1, 1) := by decide +kernel
theorem d1_66 : decode method_3_code 66 = .ok (.goto 4, 3) := by decide +kernel
theorem d1_48 : decode method_3_code 48 = .ok (.ifCond .lt 7, 3) := by decide +kernel
theorem d1_55 : decode method_3_code 55 = .ok (.iconst 0, 1) := by decide +kernel
theorem d1_51 : decode method_3_code 51 = .ok (.iconst 1, 1) := by decide +kernel
theorem d1_52 : decode method_3_code 52 = .ok (.goto 4, 3) := by decide +kernel
theorem d1_34 : decode method_3_code 34 = .ok (.ifCond .lt 7, 3) := by decide +kernel
theorem d1_41 : decode method_3_code 41 = .ok (.iconst 0, 1) := by decide +kernel
theorem d1_37 : decode method_3_code 37 = .ok (.iconst 1, 1) := by decide +kernel
theorem d1_38 : decode method_3_code 38 = .ok (.goto 4, 3) := by decide +kernel
theorem d1_20 : decode method_3_code 20 = .ok (.ifCond .lt 7, 3) := by decide +kernel
theorem d1_27 : decode method_3_code 27 = .ok (.iconst 0, 1) := by decide +kernel
theorem d1_23 : decode method_3_code 23 = .ok (.iconst 1, 1) := by decide +kernel
theorem d1_24 : decode method_3_code 24 = .ok (.goto 4, 3) := by decide +kernel
theorem d1_6 : decode method_3_code 6 = .ok (.ifCond .lt 7, 3) := by decide +kernel
theorem d1_13 : decode method_3_code 13 = .ok (.iconst 0, 1) := by decide +kernel
theorem d1_9 : decode method_3_code 9 = .ok (.iconst 1, 1) := by decide +kernel
theorem d1_10 : decode method_3_code 10 = .ok (.goto 4, 3) := by decide +kernel
theorem ef_1 (m : MethodId) (q0 : Int64) : entryFrame m #[(.long q0)] 2 = mkF m 0 #[.val (.long q0), .second] [] := by first | (simp [entryFrame, mkF, argsToLocals, Value.category]; done) | rfl
def Q1 (Z : State) (q0 : Int64) (h0 : Heap) (n0 : Nat) (v : Option Value) (h : Heap) (L : List Loc) : Prop := ∃ (D : Int32) (d : Nat), v = some (.int D) ∧ D.toInt = (d : Int) ∧ own_Dg q0.toInt.toNat d ∧ Fr n0 L ∧ h = h0
set_option maxRecDepth 65536 in
set_option maxHeartbeats 40000000 in
theorem rm1 (l : Launch) (Z : State) (a0 : Array Value) (hw : ∀ d ∈ tables_1, d.before a0 Z = true) (ws : List Jvm.Cond) (q0 : Int64) (h0 : Heap) (n0 : Nat) (Z0 : n0 ≤ h0.size) (hq : 1 ≤ q0.toInt) :
    MetFree l (⟨"com/example/ledgerstrike/ledgerstrike/journal/JournalFormatAfterNumberPinLaw", "digits", "(J)I"⟩ : MethodName) (head1 (Jvm.Cond.code (⟨"com/example/ledgerstrike/ledgerstrike/journal/JournalFormatAfterNumberPinLaw", "digits", "(J)I"⟩ : MethodName) method_3_code 2 (some .int) :: ws) ({ frames := 0, cells := 0, slots := 0, locals := 0 } : Room)) (fun a U => a = #[(.long q0)] ∧ Z.Warmed39 U.vm ∧ U.heap = h0) (fun _ _ _ _ _ => True) (fun _ U o U' => ∃ v L, o = .returned v ∧ Q1 Z q0 h0 n0 v U'.heap L ∧ FrameEnd U o U' L (({ frames := 0, cells := 0, slots := 0, locals := 0 } : Room)).cells (({ frames := 0, cells := 0, slots := 0, locals := 0 } : Room)).slots) := by
  refine MetFree.of_bodySF (plainFor_of_name pn_0) hisR ?_
  intro p e s m args below meth c s₁ Bd hml0 hP hK
  obtain ⟨rfl, hZ, hh⟩ := hP
  have hx := Bd.exec
  have hby := Bd.bytes
  have hml : c.maxLocals = 2 := hml0
  have hown : s.vm.findClass "com/example/ledgerstrike/ledgerstrike/journal/JournalFormatAfterNumberPinLaw" = some m.cls := findClass_of_methodNamed Bd.named
  have hnm := (name_of_methodNamed Bd.named Bd.method).1
  have hlk : meth.locks = false := Bd.notSynchronized
  have X0 : Stand p l e ({ frames := 0, cells := 0, slots := 0, locals := 0 } : Room) s m #[(.long q0)] below meth c s₁ [] 0 0 := Stand.of_body Bd
  have e0 : s₁.heap = h0 := by rw [← hh, Bd.state]; rfl
  have N0 := Fr.nil n0
  have hret := Bd.returns
  show own_Go p e below s (Q1 Z q0 h0 n0) _ _ (s₁.setTop (entryFrame m #[(.long q0)] 2))
  refine own_go (fun t k => castTop (ef_1 m q0) k) ?_
  show own_Go p e below s _ _ _ (s₁.setTop (mkF m 0 #[.val (.long q0), .second] []))
  refine own_go (fun t_ kt_ => XS.iconst X0.here hx rfl (hb hby d1_0) kt_) ?_
  show own_Go p e below s _ _ _ (s₁.setTop (mkF m 1 #[.val (.long q0), .second] [(.int (1 : Int32))]))
  refine own_go (fun t_ kt_ => XS.lloadN X0.here hx rfl (hb hby d1_1) rfl kt_) ?_
  show own_Go p e below s _ _ _ (s₁.setTop (mkF m 2 #[.val (.long q0), .second] [(.long q0), (.int (1 : Int32))]))
  refine own_go (fun t_ kt_ => X0.ldc2Long hx hown (mvT hZ (hw _ (List.mem_of_getElem? (i := 5) rfl))) (g := (mkF m 2 #[.val (.long q0), .second] [(.long q0), (.int (1 : Int32))])) rfl (hb hby d1_2) _ kt_) ?_
  show own_Go p e below s _ _ _ (s₁.setTop (mkF m 5 #[.val (.long q0), .second] [(.long (10 : Int64)), (.long q0), (.int (1 : Int32))]))
  refine own_go (fun t_ kt_ => XS.lcmp X0.here hx rfl (hb hby d1_5) rfl kt_) ?_
  show own_Go p e below s _ _ _ (s₁.setTop (mkF m 6 #[.val (.long q0), .second] [(.int (lcmpW q0 (10 : Int64))), (.int (1 : Int32))]))
  have J14 : ∀ (T1 : State) (locs1 : List Loc) (X1 : Stand p l e ({ frames := 0, cells := 0, slots := 0, locals := 0 } : Room) s m #[(.long q0)] below meth c T1 locs1 0 0) (e1 : T1.heap = h0) (N1 : Fr n0 locs1) (z0 : Int32) (hz0 : z0 = if 10 ^ 1 ≤ q0.toInt.toNat then 1 else 0), own_Go p e below s (Q1 Z q0 h0 n0) (({ frames := 0, cells := 0, slots := 0, locals := 0 } : Room)).cells (({ frames := 0, cells := 0, slots := 0, locals := 0 } : Room)).slots (T1.setTop (mkF m 14 #[.val (.long q0), .second] [(.int z0), (.int (1 : Int32))])) := by
    intro T1 locs1 X1 e1 N1 z0 hz0
    refine own_go (fun t_ kt_ => XS.iadd X1.here hx rfl (hb hby d1_14) rfl kt_) ?_
    show own_Go p e below s _ _ _ (T1.setTop (mkF m 15 #[.val (.long q0), .second] [(.int ((1 : Int32) + z0))]))
    obtain ⟨ac1, hac1⟩ : ∃ z, z = ((1 : Int32) + z0) := ⟨_, rfl⟩
    rw [← hac1]
    show own_Go p e below s _ _ _ (T1.setTop (mkF m 15 #[.val (.long q0), .second] [(.int ac1)]))
    have hA1 : ac1.toInt = (own_c q0.toInt.toNat 1 : Int) := by rw [hac1]; exact own_cs (by decide) (by rfl) hz0
    refine own_go (fun t_ kt_ => XS.lloadN X1.here hx rfl (hb hby d1_15) rfl kt_) ?_
    show own_Go p e below s _ _ _ (T1.setTop (mkF m 16 #[.val (.long q0), .second] [(.long q0), (.int ac1)]))
    refine own_go (fun t_ kt_ => X1.ldc2Long hx hown (mvT hZ (hw _ (List.mem_of_getElem? (i := 6) rfl))) (g := (mkF m 16 #[.val (.long q0), .second] [(.long q0), (.int ac1)])) rfl (hb hby d1_16) _ kt_) ?_
    show own_Go p e below s _ _ _ (T1.setTop (mkF m 19 #[.val (.long q0), .second] [(.long (100 : Int64)), (.long q0), (.int ac1)]))
    refine own_go (fun t_ kt_ => XS.lcmp X1.here hx rfl (hb hby d1_19) rfl kt_) ?_
    show own_Go p e below s _ _ _ (T1.setTop (mkF m 20 #[.val (.long q0), .second] [(.int (lcmpW q0 (100 : Int64))), (.int ac1)]))
    have J28 : ∀ (T2 : State) (locs2 : List Loc) (X2 : Stand p l e ({ frames := 0, cells := 0, slots := 0, locals := 0 } : Room) s m #[(.long q0)] below meth c T2 locs2 0 0) (e2 : T2.heap = h0) (N2 : Fr n0 locs2) (z1 : Int32) (hz1 : z1 = if 10 ^ 2 ≤ q0.toInt.toNat then 1 else 0), own_Go p e below s (Q1 Z q0 h0 n0) (({ frames := 0, cells := 0, slots := 0, locals := 0 } : Room)).cells (({ frames := 0, cells := 0, slots := 0, locals := 0 } : Room)).slots (T2.setTop (mkF m 28 #[.val (.long q0), .second] [(.int z1), (.int ac1)])) := by
      intro T2 locs2 X2 e2 N2 z1 hz1
      refine own_go (fun t_ kt_ => XS.iadd X2.here hx rfl (hb hby d1_28) rfl kt_) ?_
      show own_Go p e below s _ _ _ (T2.setTop (mkF m 29 #[.val (.long q0), .second] [(.int (ac1 + z1))]))
      obtain ⟨ac2, hac2⟩ : ∃ z, z = (ac1 + z1) := ⟨_, rfl⟩
      rw [← hac2]
      show own_Go p e below s _ _ _ (T2.setTop (mkF m 29 #[.val (.long q0), .second] [(.int ac2)]))
      have hA2 : ac2.toInt = (own_c q0.toInt.toNat 2 : Int) := by rw [hac2]; exact own_cs (by decide) hA1 hz1
      refine own_go (fun t_ kt_ => XS.lloadN X2.here hx rfl (hb hby d1_29) rfl kt_) ?_
      show own_Go p e below s _ _ _ (T2.setTop (mkF m 30 #[.val (.long q0), .second] [(.long q0), (.int ac2)]))
      refine own_go (fun t_ kt_ => X2.ldc2Long hx hown (mvT hZ (hw _ (List.mem_of_getElem? (i := 7) rfl))) (g := (mkF m 30 #[.val (.long q0), .second] [(.long q0), (.int ac2)])) rfl (hb hby d1_30) _ kt_) ?_
      show own_Go p e below s _ _ _ (T2.setTop (mkF m 33 #[.val (.long q0), .second] [(.long (1000 : Int64)), (.long q0), (.int ac2)]))
      refine own_go (fun t_ kt_ => XS.lcmp X2.here hx rfl (hb hby d1_33) rfl kt_) ?_
      show own_Go p e below s _ _ _ (T2.setTop (mkF m 34 #[.val (.long q0), .second] [(.int (lcmpW q0 (1000 : Int64))), (.int ac2)]))
      have J42 : ∀ (T3 : State) (locs3 : List Loc) (X3 : Stand p l e ({ frames := 0, cells := 0, slots := 0, locals := 0 } : Room) s m #[(.long q0)] below meth c T3 locs3 0 0) (e3 : T3.heap = h0) (N3 : Fr n0 locs3) (z2 : Int32) (hz2 : z2 = if 10 ^ 3 ≤ q0.toInt.toNat then 1 else 0), own_Go p e below s (Q1 Z q0 h0 n0) (({ frames := 0, cells := 0, slots := 0, locals := 0 } : Room)).cells (({ frames := 0, cells := 0, slots := 0, locals := 0 } : Room)).slots (T3.setTop (mkF m 42 #[.val (.long q0), .second] [(.int z2), (.int ac2)])) := by
        intro T3 locs3 X3 e3 N3 z2 hz2
        refine own_go (fun t_ kt_ => XS.iadd X3.here hx rfl (hb hby d1_42) rfl kt_) ?_
        show own_Go p e below s _ _ _ (T3.setTop (mkF m 43 #[.val (.long q0), .second] [(.int (ac2 + z2))]))
        obtain ⟨ac3, hac3⟩ : ∃ z, z = (ac2 + z2) := ⟨_, rfl⟩
        rw [← hac3]
        show own_Go p e below s _ _ _ (T3.setTop (mkF m 43 #[.val (.long q0), .second] [(.int ac3)]))
        have hA3 : ac3.toInt = (own_c q0.toInt.toNat 3 : Int) := by rw [hac3]; exact own_cs (by decide) hA2 hz2
        refine own_go (fun t_ kt_ => XS.lloadN X3.here hx rfl (hb hby d1_43) rfl kt_) ?_
        show own_Go p e below s _ _ _ (T3.setTop (mkF m 44 #[.val (.long q0), .second] [(.long q0), (.int ac3)]))
        refine own_go (fun t_ kt_ => X3.ldc2Long hx hown (mvT hZ (hw _ (List.mem_of_getElem? (i := 8) rfl))) (g := (mkF m 44 #[.val (.long q0), .second] [(.long q0), (.int ac3)])) rfl (hb hby d1_44) _ kt_) ?_
        show own_Go p e below s _ _ _ (T3.setTop (mkF m 47 #[.val (.long q0), .second] [(.long (10000 : Int64)), (.long q0), (.int ac3)]))
        refine own_go (fun t_ kt_ => XS.lcmp X3.here hx rfl (hb hby d1_47) rfl kt_) ?_
        show own_Go p e below s _ _ _ (T3.setTop (mkF m 48 #[.val (.long q0), .second] [(.int (lcmpW q0 (10000 : Int64))), (.int ac3)]))
        have J56 : ∀ (T4 : State) (locs4 : List Loc) (X4 : Stand p l e ({ frames := 0, cells := 0, slots := 0, locals := 0 } : Room) s m #[(.long q0)] below meth c T4 locs4 0 0) (e4 : T4.heap = h0) (N4 : Fr n0 locs4) (z3 : Int32) (hz3 : z3 = if 10 ^ 4 ≤ q0.toInt.toNat then 1 else 0), own_Go p e below s (Q1 Z q0 h0 n0) (({ frames := 0, cells := 0, slots := 0, locals := 0 } : Room)).cells (({ frames := 0, cells := 0, slots := 0, locals := 0 } : Room)).slots (T4.setTop (mkF m 56 #[.val (.long q0), .second] [(.int z3), (.int ac3)])) := by
          intro T4 locs4 X4 e4 N4 z3 hz3
          refine own_go (fun t_ kt_ => XS.iadd X4.here hx rfl (hb hby d1_56) rfl kt_) ?_
          show own_Go p e below s _ _ _ (T4.setTop (mkF m 57 #[.val (.long q0), .second] [(.int (ac3 + z3))]))
          obtain ⟨ac4, hac4⟩ : ∃ z, z = (ac3 + z3) := ⟨_, rfl⟩
          rw [← hac4]
          show own_Go p e below s _ _ _ (T4.setTop (mkF m 57 #[.val (.long q0), .second] [(.int ac4)]))
          have hA4 : ac4.toInt = (own_c q0.toInt.toNat 4 : Int) := by rw [hac4]; exact own_cs (by decide) hA3 hz3
          refine own_go (fun t_ kt_ => XS.lloadN X4.here hx rfl (hb hby d1_57) rfl kt_) ?_
          show own_Go p e below s _ _ _ (T4.setTop (mkF m 58 #[.val (.long q0), .second] [(.long q0), (.int ac4)]))
          refine own_go (fun t_ kt_ => X4.ldc2Long hx hown (mvT hZ (hw _ (List.mem_of_getElem? (i := 9) rfl))) (g := (mkF m 58 #[.val (.long q0), .second] [(.long q0), (.int ac4)])) rfl (hb hby d1_58) _ kt_) ?_
          show own_Go p e below s _ _ _ (T4.setTop (mkF m 61 #[.val (.long q0), .second] [(.long (100000 : Int64)), (.long q0), (.int ac4)]))
          refine own_go (fun t_ kt_ => XS.lcmp X4.here hx rfl (hb hby d1_61) rfl kt_) ?_
          show own_Go p e below s _ _ _ (T4.setTop (mkF m 62 #[.val (.long q0), .second] [(.int (lcmpW q0 (100000 : Int64))), (.int ac4)]))
          have J70 : ∀ (T5 : State) (locs5 : List Loc) (X5 : Stand p l e ({ frames := 0, cells := 0, slots := 0, locals := 0 } : Room) s m #[(.long q0)] below meth c T5 locs5 0 0) (e5 : T5.heap = h0) (N5 : Fr n0 locs5) (z4 : Int32) (hz4 : z4 = if 10 ^ 5 ≤ q0.toInt.toNat then 1 else 0), own_Go p e below s (Q1 Z q0 h0 n0) (({ frames := 0, cells := 0, slots := 0, locals := 0 } : Room)).cells (({ frames := 0, cells := 0, slots := 0, locals := 0 } : Room)).slots (T5.setTop (mkF m 70 #[.val (.long q0), .second] [(.int z4), (.int ac4)])) := by
            intro T5 locs5 X5 e5 N5 z4 hz4
            refine own_go (fun t_ kt_ => XS.iadd X5.here hx rfl (hb hby d1_70) rfl kt_) ?_
            show own_Go p e below s _ _ _ (T5.setTop (mkF m 71 #[.val (.long q0), .second] [(.int (ac4 + z4))]))
            obtain ⟨ac5, hac5⟩ : ∃ z, z = (ac4 + z4) := ⟨_, rfl⟩
            rw [← hac5]
            show own_Go p e below s _ _ _ (T5.setTop (mkF m 71 #[.val (.long q0), .second] [(.int ac5)]))
            have hA5 : ac5.toInt = (own_c q0.toInt.toNat 5 : Int) := by rw [hac5]; exact own_cs (by decide) hA4 hz4
            refine own_go (fun t_ kt_ => XS.lloadN X5.here hx rfl (hb hby d1_71) rfl kt_) ?_
            show own_Go p e below s _ _ _ (T5.setTop (mkF m 72 #[.val (.long q0), .second] [(.long q0), (.int ac5)]))
            refine own_go (fun t_ kt_ => X5.ldc2Long hx hown (mvT hZ (hw _ (List.mem_of_getElem? (i := 10) rfl))) (g := (mkF m 72 #[.val (.long q0), .second] [(.long q0), (.int ac5)])) rfl (hb hby d1_72) _ kt_) ?_
            show own_Go p e below s _ _ _ (T5.setTop (mkF m 75 #[.val (.long q0), .second] [(.long (1000000 : Int64)), (.long q0), (.int ac5)]))
            refine own_go (fun t_ kt_ => XS.lcmp X5.here hx rfl (hb hby d1_75) rfl kt_) ?_
            show own_Go p e below s _ _ _ (T5.setTop (mkF m 76 #[.val (.long q0), .second] [(.int (lcmpW q0 (1000000 : Int64))), (.int ac5)]))
            have J84 : ∀ (T6 : State) (locs6 : List Loc) (X6 : Stand p l e ({ frames := 0, cells := 0, slots := 0, locals := 0 } : Room) s m #[(.long q0)] below meth c T6 locs6 0 0) (e6 : T6.heap = h0) (N6 : Fr n0 locs6) (z5 : Int32) (hz5 : z5 = if 10 ^ 6 ≤ q0.toInt.toNat then 1 else 0), own_Go p e below s (Q1 Z q0 h0 n0) (({ frames := 0, cells := 0, slots := 0, locals := 0 } : Room)).cells (({ frames := 0, cells := 0, slots := 0, locals := 0 } : Room)).slots (T6.setTop (mkF m 84 #[.val (.long q0), .second] [(.int z5), (.int ac5)])) := by
              intro T6 locs6 X6 e6 N6 z5 hz5
              refine own_go (fun t_ kt_ => XS.iadd X6.here hx rfl (hb hby d1_84) rfl kt_) ?_
              show own_Go p e below s _ _ _ (T6.setTop (mkF m 85 #[.val (.long q0), .second] [(.int (ac5 + z5))]))
              obtain ⟨ac6, hac6⟩ : ∃ z, z = (ac5 + z5) := ⟨_, rfl⟩
              rw [← hac6]
              show own_Go p e below s _ _ _ (T6.setTop (mkF m 85 #[.val (.long q0), .second] [(.int ac6)]))
              have hA6 : ac6.toInt = (own_c q0.toInt.toNat 6 : Int) := by rw [hac6]; exact own_cs (by decide) hA5 hz5
              refine own_go (fun t_ kt_ => XS.lloadN X6.here hx rfl (hb hby d1_85) rfl kt_) ?_
              show own_Go p e below s _ _ _ (T6.setTop (mkF m 86 #[.val (.long q0), .second] [(.long q0), (.int ac6)]))
              refine own_go (fun t_ kt_ => X6.ldc2Long hx hown (mvT hZ (hw _ (List.mem_of_getElem? (i := 11) rfl))) (g := (mkF m 86 #[.val (.long q0), .second] [(.long q0), (.int ac6)])) rfl (hb hby d1_86) _ kt_) ?_
              show own_Go p e below s _ _ _ (T6.setTop (mkF m 89 #[.val (.long q0), .second] [(.long (10000000 : Int64)), (.long q0), (.int ac6)]))
              refine own_go (fun t_ kt_ => XS.lcmp X6.here hx rfl (hb hby d1_89) rfl kt_) ?_
              show own_Go p e below s _ _ _ (T6.setTop (mkF m 90 #[.val (.long q0), .second] [(.int (lcmpW q0 (10000000 : Int64))), (.int ac6)]))
              have J98 : ∀ (T7 : State) (locs7 : List Loc) (X7 : Stand p l e ({ frames := 0, cells := 0, slots := 0, locals := 0 } : Room) s m #[(.long q0)] below meth c T7 locs7 0 0) (e7 : T7.heap = h0) (N7 : Fr n0 locs7) (z6 : Int32) (hz6 : z6 = if 10 ^ 7 ≤ q0.toInt.toNat then 1 else 0), own_Go p e below s (Q1 Z q0 h0 n0) (({ frames := 0, cells := 0, slots := 0, locals := 0 } : Room)).cells (({ frames := 0, cells := 0, slots := 0, locals := 0 } : Room)).slots (T7.setTop (mkF m 98 #[.val (.long q0), .second] [(.int z6), (.int ac6)])) := by
                intro T7 locs7 X7 e7 N7 z6 hz6
                refine own_go (fun t_ kt_ => XS.iadd X7.here hx rfl (hb hby d1_98) rfl kt_) ?_
                show own_Go p e below s _ _ _ (T7.setTop (mkF m 99 #[.val (.long q0), .second] [(.int (ac6 + z6))]))
                obtain ⟨ac7, hac7⟩ : ∃ z, z = (ac6 + z6) := ⟨_, rfl⟩
                rw [← hac7]
                show own_Go p e below s _ _ _ (T7.setTop (mkF m 99 #[.val (.long q0), .second] [(.int ac7)]))
                have hA7 : ac7.toInt = (own_c q0.toInt.toNat 7 : Int) := by rw [hac7]; exact own_cs (by decide) hA6 hz6
                refine own_go (fun t_ kt_ => XS.lloadN X7.here hx rfl (hb hby d1_99) rfl kt_) ?_
                show own_Go p e below s _ _ _ (T7.setTop (mkF m 100 #[.val (.long q0), .second] [(.long q0), (.int ac7)]))
                refine own_go (fun t_ kt_ => X7.ldc2Long hx hown (mvT hZ (hw _ (List.mem_of_getElem? (i := 12) rfl))) (g := (mkF m 100 #[.val (.long q0), .second] [(.long q0), (.int ac7)])) rfl (hb hby d1_100) _ kt_) ?_
                show own_Go p e below s _ _ _ (T7.setTop (mkF m 103 #[.val (.long q0), .second] [(.long (100000000 : Int64)), (.long q0), (.int ac7)]))
                refine own_go (fun t_ kt_ => XS.lcmp X7.here hx rfl (hb hby d1_103) rfl kt_) ?_
                show own_Go p e below s _ _ _ (T7.setTop (mkF m 104 #[.val (.long q0), .second] [(.int (lcmpW q0 (100000000 : Int64))), (.int ac7)]))
                have J112 : ∀ (T8 : State) (locs8 : List Loc) (X8 : Stand p l e ({ frames := 0, cells := 0, slots := 0, locals := 0 } : Room) s m #[(.long q0)] below meth c T8 locs8 0 0) (e8 : T8.heap = h0) (N8 : Fr n0 locs8) (z7 : Int32) (hz7 : z7 = if 10 ^ 8 ≤ q0.toInt.toNat then 1 else 0), own_Go p e below s (Q1 Z q0 h0 n0) (({ frames := 0, cells := 0, slots := 0, locals := 0 } : Room)).cells (({ frames := 0, cells := 0, slots := 0, locals := 0 } : Room)).slots (T8.setTop (mkF m 112 #[.val (.long q0), .second] [(.int z7), (.int ac7)])) := by
                  intro T8 locs8 X8 e8 N8 z7 hz7
                  refine own_go (fun t_ kt_ => XS.iadd X8.here hx rfl (hb hby d1_112) rfl kt_) ?_
                  show own_Go p e below s _ _ _ (T8.setTop (mkF m 113 #[.val (.long q0), .second] [(.int (ac7 + z7))]))
                  obtain ⟨ac8, hac8⟩ : ∃ z, z = (ac7 + z7) := ⟨_, rfl⟩
                  rw [← hac8]
                  show own_Go p e below s _ _ _ (T8.setTop (mkF m 113 #[.val (.long q0), .second] [(.int ac8)]))
                  have hA8 : ac8.toInt = (own_c q0.toInt.toNat 8 : Int) := by rw [hac8]; exact own_cs (by decide) hA7 hz7
                  refine own_go (fun t_ kt_ => XS.lloadN X8.here hx rfl (hb hby d1_113) rfl kt_) ?_
                  show own_Go p e below s _ _ _ (T8.setTop (mkF m 114 #[.val (.long q0), .second] [(.long q0), (.int ac8)]))
                  refine own_go (fun t_ kt_ => X8.ldc2Long hx hown (mvT hZ (hw _ (List.mem_of_getElem? (i := 13) rfl))) (g := (mkF m 114 #[.val (.long q0), .second] [(.long q0), (.int ac8)])) rfl (hb hby d1_114) _ kt_) ?_
                  show own_Go p e below s _ _ _ (T8.setTop (mkF m 117 #[.val (.long q0), .second] [(.long (1000000000 : Int64)), (.long q0), (.int ac8)]))
                  refine own_go (fun t_ kt_ => XS.lcmp X8.here hx rfl (hb hby d1_117) rfl kt_) ?_
                  show own_Go p e below s _ _ _ (T8.setTop (mkF m 118 #[.val (.long q0), .second] [(.int (lcmpW q0 (1000000000 : Int64))), (.int ac8)]))
                  have J126 : ∀ (T9 : State) (locs9 : List Loc) (X9 : Stand p l e ({ frames := 0, cells := 0, slots := 0, locals := 0 } : Room) s m #[(.long q0)] below meth c T9 locs9 0 0) (e9 : T9.heap = h0) (N9 : Fr n0 locs9) (z8 : Int32) (hz8 : z8 = if 10 ^ 9 ≤ q0.toInt.toNat then 1 else 0), own_Go p e below s (Q1 Z q0 h0 n0) (({ frames := 0, cells := 0, slots := 0, locals := 0 } : Room)).cells (({ frames := 0, cells := 0, slots := 0, locals := 0 } : Room)).slots (T9.setTop (mkF m 126 #[.val (.long q0), .second] [(.int z8), (.int ac8)])) := by
                    intro T9 locs9 X9 e9 N9 z8 hz8
                    refine own_go (fun t_ kt_ => XS.iadd X9.here hx rfl (hb hby d1_126) rfl kt_) ?_
                    show own_Go p e below s _ _ _ (T9.setTop (mkF m 127 #[.val (.long q0), .second] [(.int (ac8 + z8))]))
                    obtain ⟨ac9, hac9⟩ : ∃ z, z = (ac8 + z8) := ⟨_, rfl⟩
                    rw [← hac9]
                    show own_Go p e below s _ _ _ (T9.setTop (mkF m 127 #[.val (.long q0), .second] [(.int ac9)]))
                    have hA9 : ac9.toInt = (own_c q0.toInt.toNat 9 : Int) := by rw [hac9]; exact own_cs (by decide) hA8 hz8
                    refine own_go (fun t_ kt_ => XS.lloadN X9.here hx rfl (hb hby d1_127) rfl kt_) ?_
                    show own_Go p e below s _ _ _ (T9.setTop (mkF m 128 #[.val (.long q0), .second] [(.long q0), (.int ac9)]))
                    refine own_go (fun t_ kt_ => X9.ldc2Long hx hown (mvT hZ (hw _ (List.mem_of_getElem? (i := 14) rfl))) (g := (mkF m 128 #[.val (.long q0), .second] [(.long q0), (.int ac9)])) rfl (hb hby d1_128) _ kt_) ?_
                    show own_Go p e below s _ _ _ (T9.setTop (mkF m 131 #[.val (.long q0), .second] [(.long (10000000000 : Int64)), (.long q0), (.int ac9)]))
                    refine own_go (fun t_ kt_ => XS.lcmp X9.here hx rfl (hb hby d1_131) rfl kt_) ?_
                    show own_Go p e below s _ _ _ (T9.setTop (mkF m 132 #[.val (.long q0), .second] [(.int (lcmpW q0 (10000000000 : Int64))), (.int ac9)]))
                    have J140 : ∀ (T10 : State) (locs10 : List Loc) (X10 : Stand p l e ({ frames := 0, cells := 0, slots := 0, locals := 0 } : Room) s m #[(.long q0)] below meth c T10 locs10 0 0) (e10 : T10.heap = h0) (N10 : Fr n0 locs10) (z9 : Int32) (hz9 : z9 = if 10 ^ 10 ≤ q0.toInt.toNat then 1 else 0), own_Go p e below s (Q1 Z q0 h0 n0) (({ frames := 0, cells := 0, slots := 0, locals := 0 } : Room)).cells (({ frames := 0, cells := 0, slots := 0, locals := 0 } : Room)).slots (T10.setTop (mkF m 140 #[.val (.long q0), .second] [(.int z9), (.int ac9)])) := by
                      intro T10 locs10 X10 e10 N10 z9 hz9
                      refine own_go (fun t_ kt_ => XS.iadd X10.here hx rfl (hb hby d1_140) rfl kt_) ?_
                      show own_Go p e below s _ _ _ (T10.setTop (mkF m 141 #[.val (.long q0), .second] [(.int (ac9 + z9))]))
                      obtain ⟨ac10, hac10⟩ : ∃ z, z = (ac9 + z9) := ⟨_, rfl⟩
                      rw [← hac10]
                      show own_Go p e below s _ _ _ (T10.setTop (mkF m 141 #[.val (.long q0), .second] [(.int ac10)]))
                      have hA10 : ac10.toInt = (own_c q0.toInt.toNat 10 : Int) := by rw [hac10]; exact own_cs (by decide) hA9 hz9
                      refine own_go (fun t_ kt_ => XS.lloadN X10.here hx rfl (hb hby d1_141) rfl kt_) ?_
                      show own_Go p e below s _ _ _ (T10.setTop (mkF m 142 #[.val (.long q0), .second] [(.long q0), (.int ac10)]))
                      refine own_go (fun t_ kt_ => X10.ldc2Long hx hown (mvT hZ (hw _ (List.mem_of_getElem? (i := 15) rfl))) (g := (mkF m 142 #[.val (.long q0), .second] [(.long q0), (.int ac10)])) rfl (hb hby d1_142) _ kt_) ?_
                      show own_Go p e below s _ _ _ (T10.setTop (mkF m 145 #[.val (.long q0), .second] [(.long (100000000000 : Int64)), (.long q0), (.int ac10)]))
                      refine own_go (fun t_ kt_ => XS.lcmp X10.here hx rfl (hb hby d1_145) rfl kt_) ?_
                      show own_Go p e below s _ _ _ (T10.setTop (mkF m 146 #[.val (.long q0), .second] [(.int (lcmpW q0 (100000000000 : Int64))), (.int ac10)]))
                      have J154 : ∀ (T11 : State) (locs11 : List Loc) (X11 : Stand p l e ({ frames := 0, cells := 0, slots := 0, locals := 0 } : Room) s m #[(.long q0)] below meth c T11 locs11 0 0) (e11 : T11.heap = h0) (N11 : Fr n0 locs11) (z10 : Int32) (hz10 : z10 = if 10 ^ 11 ≤ q0.toInt.toNat then 1 else 0), own_Go p e below s (Q1 Z q0 h0 n0) (({ frames := 0, cells := 0, slots := 0, locals := 0 } : Room)).cells (({ frames := 0, cells := 0, slots := 0, locals := 0 } : Room)).slots (T11.setTop (mkF m 154 #[.val (.long q0), .second] [(.int z10), (.int ac10)])) := by
                        intro T11 locs11 X11 e11 N11 z10 hz10
                        refine own_go (fun t_ kt_ => XS.iadd X11.here hx rfl (hb hby d1_154) rfl kt_) ?_
                        show own_Go p e below s _ _ _ (T11.setTop (mkF m 155 #[.val (.long q0), .second] [(.int (ac10 + z10))]))
                        obtain ⟨ac11, hac11⟩ : ∃ z, z = (ac10 + z10) := ⟨_, rfl⟩
                        rw [← hac11]
                        show own_Go p e below s _ _ _ (T11.setTop (mkF m 155 #[.val (.long q0), .second] [(.int ac11)]))
                        have hA11 : ac11.toInt = (own_c q0.toInt.toNat 11 : Int) := by rw [hac11]; exact own_cs (by decide) hA10 hz10
                        refine own_go (fun t_ kt_ => XS.lloadN X11.here hx rfl (hb hby d1_155) rfl kt_) ?_
                        show own_Go p e below s _ _ _ (T11.setTop (mkF m 156 #[.val (.long q0), .second] [(.long q0), (.int ac11)]))
                        refine own_go (fun t_ kt_ => X11.ldc2Long hx hown (mvT hZ (hw _ (List.mem_of_getElem? (i := 16) rfl))) (g := (mkF m 156 #[.val (.long q0), .second] [(.long q0), (.int ac11)])) rfl (hb hby d1_156) _ kt_) ?_
                        show own_Go p e below s _ _ _ (T11.setTop (mkF m 159 #[.val (.long q0), .second] [(.long (1000000000000 : Int64)), (.long q0), (.int ac11)]))
                        refine own_go (fun t_ kt_ => XS.lcmp X11.here hx rfl (hb hby d1_159) rfl kt_) ?_
                        show own_Go p e below s _ _ _ (T11.setTop (mkF m 160 #[.val (.long q0), .second] [(.int (lcmpW q0 (1000000000000 : Int64))), (.int ac11)]))
                        have J168 : ∀ (T12 : State) (locs12 : List Loc) (X12 : Stand p l e ({ frames := 0, cells := 0, slots := 0, locals := 0 } : Room) s m #[(.long q0)] below meth c T12 locs12 0 0) (e12 : T12.heap = h0) (N12 : Fr n0 locs12) (z11 : Int32) (hz11 : z11 = if 10 ^ 12 ≤ q0.toInt.toNat then 1 else 0), own_Go p e below s (Q1 Z q0 h0 n0) (({ frames := 0, cells := 0, slots := 0, locals := 0 } : Room)).cells (({ frames := 0, cells := 0, slots := 0, locals := 0 } : Room)).slots (T12.setTop (mkF m 168 #[.val (.long q0), .second] [(.int z11), (.int ac11)])) := by
                          intro T12 locs12 X12 e12 N12 z11 hz11
                          refine own_go (fun t_ kt_ => XS.iadd X12.here hx rfl (hb hby d1_168) rfl kt_) ?_
                          show own_Go p e below s _ _ _ (T12.setTop (mkF m 169 #[.val (.long q0), .second] [(.int (ac11 + z11))]))
                          obtain ⟨ac12, hac12⟩ : ∃ z, z = (ac11 + z11) := ⟨_, rfl⟩
                          rw [← hac12]
                          show own_Go p e below s _ _ _ (T12.setTop (mkF m 169 #[.val (.long q0), .second] [(.int ac12)]))
                          have hA12 : ac12.toInt = (own_c q0.toInt.toNat 12 : Int) := by rw [hac12]; exact own_cs (by decide) hA11 hz11
                          refine own_go (fun t_ kt_ => XS.lloadN X12.here hx rfl (hb hby d1_169) rfl kt_) ?_
                          show own_Go p e below s _ _ _ (T12.setTop (mkF m 170 #[.val (.long q0), .second] [(.long q0), (.int ac12)]))
                          refine own_go (fun t_ kt_ => X12.ldc2Long hx hown (mvT hZ (hw _ (List.mem_of_getElem? (i := 17) rfl))) (g := (mkF m 170 #[.val (.long q0), .second] [(.long q0), (.int ac12)])) rfl (hb hby d1_170) _ kt_) ?_
                          show own_Go p e below s _ _ _ (T12.setTop (mkF m 173 #[.val (.long q0), .second] [(.long (10000000000000 : Int64)), (.long q0), (.int ac12)]))
                          refine own_go (fun t_ kt_ => XS.lcmp X12.here hx rfl (hb hby d1_173) rfl kt_) ?_
                          show own_Go p e below s _ _ _ (T12.setTop (mkF m 174 #[.val (.long q0), .second] [(.int (lcmpW q0 (10000000000000 : Int64))), (.int ac12)]))
                          have J182 : ∀ (T13 : State) (locs13 : List Loc) (X13 : Stand p l e ({ frames := 0, cells := 0, slots := 0, locals := 0 } : Room) s m #[(.long q0)] below meth c T13 locs13 0 0) (e13 : T13.heap = h0) (N13 : Fr n0 locs13) (z12 : Int32) (hz12 : z12 = if 10 ^ 13 ≤ q0.toInt.toNat then 1 else 0), own_Go p e below s (Q1 Z q0 h0 n0) (({ frames := 0, cells := 0, slots := 0, locals := 0 } : Room)).cells (({ frames := 0, cells := 0, slots := 0, locals := 0 } : Room)).slots (T13.setTop (mkF m 182 #[.val (.long q0), .second] [(.int z12), (.int ac12)])) := by
                            intro T13 locs13 X13 e13 N13 z12 hz12
                            refine own_go (fun t_ kt_ => XS.iadd X13.here hx rfl (hb hby d1_182) rfl kt_) ?_
                            show own_Go p e below s _ _ _ (T13.setTop (mkF m 183 #[.val (.long q0), .second] [(.int (ac12 + z12))]))
                            obtain ⟨ac13, hac13⟩ : ∃ z, z = (ac12 + z12) := ⟨_, rfl⟩
                            rw [← hac13]
                            show own_Go p e below s _ _ _ (T13.setTop (mkF m 183 #[.val (.long q0), .second] [(.int ac13)]))
                            have hA13 : ac13.toInt = (own_c q0.toInt.toNat 13 : Int) := by rw [hac13]; exact own_cs (by decide) hA12 hz12
                            refine own_go (fun t_ kt_ => XS.lloadN X13.here hx rfl (hb hby d1_183) rfl kt_) ?_
                            show own_Go p e below s _ _ _ (T13.setTop (mkF m 184 #[.val (.long q0), .second] [(.long q0), (.int ac13)]))
                            refine own_go (fun t_ kt_ => X13.ldc2Long hx hown (mvT hZ (hw _ (List.mem_of_getElem? (i := 18) rfl))) (g := (mkF m 184 #[.val (.long q0), .second] [(.long q0), (.int ac13)])) rfl (hb hby d1_184) _ kt_) ?_
                            show own_Go p e below s _ _ _ (T13.setTop (mkF m 187 #[.val (.long q0), .second] [(.long (100000000000000 : Int64)), (.long q0), (.int ac13)]))
                            refine own_go (fun t_ kt_ => XS.lcmp X13.here hx rfl (hb hby d1_187) rfl kt_) ?_
                            show own_Go p e below s _ _ _ (T13.setTop (mkF m 188 #[.val (.long q0), .second] [(.int (lcmpW q0 (100000000000000 : Int64))), (.int ac13)]))
                            have J196 : ∀ (T14 : State) (locs14 : List Loc) (X14 : Stand p l e ({ frames := 0, cells := 0, slots := 0, locals := 0 } : Room) s m #[(.long q0)] below meth c T14 locs14 0 0) (e14 : T14.heap = h0) (N14 : Fr n0 locs14) (z13 : Int32) (hz13 : z13 = if 10 ^ 14 ≤ q0.toInt.toNat then 1 else 0), own_Go p e below s (Q1 Z q0 h0 n0) (({ frames := 0, cells := 0, slots := 0, locals := 0 } : Room)).cells (({ frames := 0, cells := 0, slots := 0, locals := 0 } : Room)).slots (T14.setTop (mkF m 196 #[.val (.long q0), .second] [(.int z13), (.int ac13)])) := by
                              intro T14 locs14 X14 e14 N14 z13 hz13
                              refine own_go (fun t_ kt_ => XS.iadd X14.here hx rfl (hb hby d1_196) rfl kt_) ?_
                              show own_Go p e below s _ _ _ (T14.setTop (mkF m 197 #[.val (.long q0), .second] [(.int (ac13 + z13))]))
                              obtain ⟨ac14, hac14⟩ : ∃ z, z = (ac13 + z13) := ⟨_, rfl⟩
                              rw [← hac14]
                              show own_Go p e below s _ _ _ (T14.setTop (mkF m 197 #[.val (.long q0), .second] [(.int ac14)]))
                              have hA14 : ac14.toInt = (own_c q0.toInt.toNat 14 : Int) := by rw [hac14]; exact own_cs (by decide) hA13 hz13
                              refine own_go (fun t_ kt_ => XS.lloadN X14.here hx rfl (hb hby d1_197) rfl kt_) ?_
                              show own_Go p e below s _ _ _ (T14.setTop (mkF m 198 #[.val (.long q0), .second] [(.long q0), (.int ac14)]))
                              refine own_go (fun t_ kt_ => X14.ldc2Long hx hown (mvT hZ (hw _ (List.mem_of_getElem? (i := 19) rfl))) (g := (mkF m 198 #[.val (.long q0), .second] [(.long q0), (.int ac14)])) rfl (hb hby d1_198) _ kt_) ?_
                              show own_Go p e below s _ _ _ (T14.setTop (mkF m 201 #[.val (.long q0), .second] [(.long (1000000000000000 : Int64)), (.long q0), (.int ac14)]))
                              refine own_go (fun t_ kt_ => XS.lcmp X14.here hx rfl (hb hby d1_201) rfl kt_) ?_
                              show own_Go p e below s _ _ _ (T14.setTop (mkF m 202 #[.val (.long q0), .second] [(.int (lcmpW q0 (1000000000000000 : Int64))), (.int ac14)]))
                              have J210 : ∀ (T15 : State) (locs15 : List Loc) (X15 : Stand p l e ({ frames := 0, cells := 0, slots := 0, locals := 0 } : Room) s m #[(.long q0)] below meth c T15 locs15 0 0) (e15 : T15.heap = h0) (N15 : Fr n0 locs15) (z14 : Int32) (hz14 : z14 = if 10 ^ 15 ≤ q0.toInt.toNat then 1 else 0), own_Go p e below s (Q1 Z q0 h0 n0) (({ frames := 0, cells := 0, slots := 0, locals := 0 } : Room)).cells (({ frames := 0, cells := 0, slots := 0, locals := 0 } : Room)).slots (T15.setTop (mkF m 210 #[.val (.long q0), .second] [(.int z14), (.int ac14)])) := by
                                intro T15 locs15 X15 e15 N15 z14 hz14
                                refine own_go (fun t_ kt_ => XS.iadd X15.here hx rfl (hb hby d1_210) rfl kt_) ?_
                                show own_Go p e below s _ _ _ (T15.setTop (mkF m 211 #[.val (.long q0), .second] [(.int (ac14 + z14))]))
                                obtain ⟨ac15, hac15⟩ : ∃ z, z = (ac14 + z14) := ⟨_, rfl⟩
                                rw [← hac15]
                                show own_Go p e below s _ _ _ (T15.setTop (mkF m 211 #[.val (.long q0), .second] [(.int ac15)]))
                                have hA15 : ac15.toInt = (own_c q0.toInt.toNat 15 : Int) := by rw [hac15]; exact own_cs (by decide) hA14 hz14
                                refine own_go (fun t_ kt_ => XS.lloadN X15.here hx rfl (hb hby d1_211) rfl kt_) ?_
                                show own_Go p e below s _ _ _ (T15.setTop (mkF m 212 #[.val (.long q0), .second] [(.long q0), (.int ac15)]))
                                refine own_go (fun t_ kt_ => X15.ldc2Long hx hown (mvT hZ (hw _ (List.mem_of_getElem? (i := 20) rfl))) (g := (mkF m 212 #[.val (.long q0), .second] [(.long q0), (.int ac15)])) rfl (hb hby d1_212) _ kt_) ?_
                                show own_Go p e below s _ _ _ (T15.setTop (mkF m 215 #[.val (.long q0), .second] [(.long (10000000000000000 : Int64)), (.long q0), (.int ac15)]))
                                refine own_go (fun t_ kt_ => XS.lcmp X15.here hx rfl (hb hby d1_215) rfl kt_) ?_
                                show own_Go p e below s _ _ _ (T15.setTop (mkF m 216 #[.val (.long q0), .second] [(.int (lcmpW q0 (10000000000000000 : Int64))), (.int ac15)]))
                                have J224 : ∀ (T16 : State) (locs16 : List Loc) (X16 : Stand p l e ({ frames := 0, cells := 0, slots := 0, locals := 0 } : Room) s m #[(.long q0)] below meth c T16 locs16 0 0) (e16 : T16.heap = h0) (N16 : Fr n0 locs16) (z15 : Int32) (hz15 : z15 = if 10 ^ 16 ≤ q0.toInt.toNat then 1 else 0), own_Go p e below s (Q1 Z q0 h0 n0) (({ frames := 0, cells := 0, slots := 0, locals := 0 } : Room)).cells (({ frames := 0, cells := 0, slots := 0, locals := 0 } : Room)).slots (T16.setTop (mkF m 224 #[.val (.long q0), .second] [(.int z15), (.int ac15)])) := by
                                  intro T16 locs16 X16 e16 N16 z15 hz15
                                  refine own_go (fun t_ kt_ => XS.iadd X16.here hx rfl (hb hby d1_224) rfl kt_) ?_
                                  show own_Go p e below s _ _ _ (T16.setTop (mkF m 225 #[.val (.long q0), .second] [(.int (ac15 + z15))]))
                                  obtain ⟨ac16, hac16⟩ : ∃ z, z = (ac15 + z15) := ⟨_, rfl⟩
                                  rw [← hac16]
                                  show own_Go p e below s _ _ _ (T16.setTop (mkF m 225 #[.val (.long q0), .second] [(.int ac16)]))
                                  have hA16 : ac16.toInt = (own_c q0.toInt.toNat 16 : Int) := by rw [hac16]; exact own_cs (by decide) hA15 hz15
                                  refine own_go (fun t_ kt_ => XS.lloadN X16.here hx rfl (hb hby d1_225) rfl kt_) ?_
                                  show own_Go p e below s _ _ _ (T16.setTop (mkF m 226 #[.val (.long q0), .second] [(.long q0), (.int ac16)]))
                                  refine own_go (fun t_ kt_ => X16.ldc2Long hx hown (mvT hZ (hw _ (List.mem_of_getElem? (i := 21) rfl))) (g := (mkF m 226 #[.val (.long q0), .second] [(.long q0), (.int ac16)])) rfl (hb hby d1_226) _ kt_) ?_
                                  show own_Go p e below s _ _ _ (T16.setTop (mkF m 229 #[.val (.long q0), .second] [(.long (100000000000000000 : Int64)), (.long q0), (.int ac16)]))
                                  refine own_go (fun t_ kt_ => XS.lcmp X16.here hx rfl (hb hby d1_229) rfl kt_) ?_
                                  show own_Go p e below s _ _ _ (T16.setTop (mkF m 230 #[.val (.long q0), .second] [(.int (lcmpW q0 (100000000000000000 : Int64))), (.int ac16)]))
                                  have J238 : ∀ (T17 : State) (locs17 : List Loc) (X17 : Stand p l e ({ frames := 0, cells := 0, slots := 0, locals := 0 } : Room) s m #[(.long q0)] below meth c T17 locs17 0 0) (e17 : T17.heap = h0) (N17 : Fr n0 locs17) (z16 : Int32) (hz16 : z16 = if 10 ^ 17 ≤ q0.toInt.toNat then 1 else 0), own_Go p e below s (Q1 Z q0 h0 n0) (({ frames := 0, cells := 0, slots := 0, locals := 0 } : Room)).cells (({ frames := 0, cells := 0, slots := 0, locals := 0 } : Room)).slots (T17.setTop (mkF m 238 #[.val (.long q0), .second] [(.int z16), (.int ac16)])) := by
                                    intro T17 locs17 X17 e17 N17 z16 hz16
                                    refine own_go (fun t_ kt_ => XS.iadd X17.here hx rfl (hb hby d1_238) rfl kt_) ?_
                                    show own_Go p e below s _ _ _ (T17.setTop (mkF m 239 #[.val (.long q0), .second] [(.int (ac16 + z16))]))
                                    obtain ⟨ac17, hac17⟩ : ∃ z, z = (ac16 + z16) := ⟨_, rfl⟩
                                    rw [← hac17]
                                    show own_Go p e below s _ _ _ (T17.setTop (mkF m 239 #[.val (.long q0), .second] [(.int ac17)]))
                                    have hA17 : ac17.toInt = (own_c q0.toInt.toNat 17 : Int) := by rw [hac17]; exact own_cs (by decide) hA16 hz16
                                    refine own_go (fun t_ kt_ => XS.lloadN X17.here hx rfl (hb hby d1_239) rfl kt_) ?_
                                    show own_Go p e below s _ _ _ (T17.setTop (mkF m 240 #[.val (.long q0), .second] [(.long q0), (.int ac17)]))
                                    refine own_go (fun t_ kt_ => X17.ldc2Long hx hown (mvT hZ (hw _ (List.mem_of_getElem? (i := 22) rfl))) (g := (mkF m 240 #[.val (.long q0), .second] [(.long q0), (.int ac17)])) rfl (hb hby d1_240) _ kt_) ?_
                                    show own_Go p e below s _ _ _ (T17.setTop (mkF m 243 #[.val (.long q0), .second] [(.long (1000000000000000000 : Int64)), (.long q0), (.int ac17)]))
                                    refine own_go (fun t_ kt_ => XS.lcmp X17.here hx rfl (hb hby d1_243) rfl kt_) ?_
                                    show own_Go p e below s _ _ _ (T17.setTop (mkF m 244 #[.val (.long q0), .second] [(.int (lcmpW q0 (1000000000000000000 : Int64))), (.int ac17)]))
                                    have J252 : ∀ (T18 : State) (locs18 : List Loc) (X18 : Stand p l e ({ frames := 0, cells := 0, slots := 0, locals := 0 } : Room) s m #[(.long q0)] below meth c T18 locs18 0 0) (e18 : T18.heap = h0) (N18 : Fr n0 locs18) (z17 : Int32) (hz17 : z17 = if 10 ^ 18 ≤ q0.toInt.toNat then 1 else 0), own_Go p e below s (Q1 Z q0 h0 n0) (({ frames := 0, cells := 0, slots := 0, locals := 0 } : Room)).cells (({ frames := 0, cells := 0, slots := 0, locals := 0 } : Room)).slots (T18.setTop (mkF m 252 #[.val (.long q0), .second] [(.int z17), (.int ac17)])) := by
                                      intro T18 locs18 X18 e18 N18 z17 hz17
                                      refine own_go (fun t_ kt_ => XS.iadd X18.here hx rfl (hb hby d1_252) rfl kt_) ?_
                                      show own_Go p e below s _ _ _ (T18.setTop (mkF m 253 #[.val (.long q0), .second] [(.int (ac17 + z17))]))
                                      obtain ⟨ac18, hac18⟩ : ∃ z, z = (ac17 + z17) := ⟨_, rfl⟩
                                      rw [← hac18]
                                      show own_Go p e below s _ _ _ (T18.setTop (mkF m 253 #[.val (.long q0), .second] [(.int ac18)]))
                                      have hA18 : ac18.toInt = (own_c q0.toInt.toNat 18 : Int) := by rw [hac18]; exact own_cs (by decide) hA17 hz17
                                      refine own_ret X18 (v := some (.int ac18)) (fun h => by rw [hret] at h; cases h) hlk ?_ (by decide) (by decide) (fun fs hr => retI X18 hx hret (hb hby d1_253) hr)
                                      show Q1 Z q0 h0 n0 (some (.int ac18)) T18.heap _
                                      rw [e18]
                                      exact ⟨ac18, _, rfl, hA18, own_cD (own_nat hq).2.1, N18, rfl⟩
                                    by_cases hc244 : q0 < (1000000000000000000 : Int64)
                                    · skip
                                      have hi244 : q0.toInt < 1000000000000000000 := Int64.lt_iff_toInt_lt.mp hc244
                                      refine own_go (fun t_ kt_ => XS.ifYes X17.here hx rfl (pc0 := 244) (pc' := 251) rfl (hb hby d1_244) rfl ((if0 _ _).trans (tlt ((lw_lt q0 (1000000000000000000 : Int64)).mpr hc244)).1) (by decide) (by decide) kt_) ?_
                                      show own_Go p e below s _ _ _ (T17.setTop (mkF m 251 #[.val (.long q0), .second] [(.int ac17)]))
                                      refine own_go (fun t_ kt_ => XS.iconst X17.here hx rfl (hb hby d1_251) kt_) ?_
                                      show own_Go p e below s _ _ _ (T17.setTop (mkF m 252 #[.val (.long q0), .second] [(.int (0 : Int32)), (.int ac17)]))
                                      exact J252 T17 _ X17 e17 N17 ((0 : Int32))  (by first | exact own_i1 (p := 1000000000000000000) (by decide) (by omega) | exact own_i0 (p := 1000000000000000000) (by decide) (by omega))
                                    · skip
                                      have hi244 : ¬ q0.toInt < 1000000000000000000 := fun q => hc244 (Int64.lt_iff_toInt_lt.mpr q)
                                      refine own_go (fun t_ kt_ => XS.ifNo X17.here hx rfl (hb hby d1_244) rfl ((if0 _ _).trans (flt (fun q => hc244 ((lw_lt q0 (1000000000000000000 : Int64)).mp q))).1) kt_) ?_
                                      show own_Go p e below s _ _ _ (T17.setTop (mkF m 247 #[.val (.long q0), .second] [(.int ac17)]))
                                      refine own_go (fun t_ kt_ => XS.iconst X17.here hx rfl (hb hby d1_247) kt_) ?_
                                      show own_Go p e below s _ _ _ (T17.setTop (mkF m 248 #[.val (.long q0), .second] [(.int (1 : Int32)), (.int ac17)]))
                                      refine own_go (fun t_ kt_ => XS.goto X17.here hx rfl (pc0 := 248) (pc' := 252) rfl (hb hby d1_248) (by decide) (by decide) kt_) ?_
                                      show own_Go p e below s _ _ _ (T17.setTop (mkF m 252 #[.val (.long q0), .second] [(.int (1 : Int32)), (.int ac17)]))
                                      exact J252 T17 _ X17 e17 N17 ((1 : Int32))  (by first | exact own_i1 (p := 1000000000000000000) (by decide) (by omega) | exact own_i0 (p := 1000000000000000000) (by decide) (by omega))
                                  by_cases hc230 : q0 < (100000000000000000 : Int64)
                                  · skip
                                    have hi230 : q0.toInt < 100000000000000000 := Int64.lt_iff_toInt_lt.mp hc230
                                    refine own_go (fun t_ kt_ => XS.ifYes X16.here hx rfl (pc0 := 230) (pc' := 237) rfl (hb hby d1_230) rfl ((if0 _ _).trans (tlt ((lw_lt q0 (100000000000000000 : Int64)).mpr hc230)).1) (by decide) (by decide) kt_) ?_
                                    show own_Go p e below s _ _ _ (T16.setTop (mkF m 237 #[.val (.long q0), .second] [(.int ac16)]))
                                    refine own_go (fun t_ kt_ => XS.iconst X16.here hx rfl (hb hby d1_237) kt_) ?_
                                    show own_Go p e below s _ _ _ (T16.setTop (mkF m 238 #[.val (.long q0), .second] [(.int (0 : Int32)), (.int ac16)]))
                                    exact J238 T16 _ X16 e16 N16 ((0 : Int32))  (by first | exact own_i1 (p := 100000000000000000) (by decide) (by omega) | exact own_i0 (p := 100000000000000000) (by decide) (by omega))
                                  · skip
                                    have hi230 : ¬ q0.toInt < 100000000000000000 := fun q => hc230 (Int64.lt_iff_toInt_lt.mpr q)
                                    refine own_go (fun t_ kt_ => XS.ifNo X16.here hx rfl (hb hby d1_230) rfl ((if0 _ _).trans (flt (fun q => hc230 ((lw_lt q0 (100000000000000000 : Int64)).mp q))).1) kt_) ?_
                                    show own_Go p e below s _ _ _ (T16.setTop (mkF m 233 #[.val (.long q0), .second] [(.int ac16)]))
                                    refine own_go (fun t_ kt_ => XS.iconst X16.here hx rfl (hb hby d1_233) kt_) ?_
                                    show own_Go p e below s _ _ _ (T16.setTop (mkF m 234 #[.val (.long q0), .second] [(.int (1 : Int32)), (.int ac16)]))
                                    refine own_go (fun t_ kt_ => XS.goto X16.here hx rfl (pc0 := 234) (pc' := 238) rfl (hb hby d1_234) (by decide) (by decide) kt_) ?_
                                    show own_Go p e below s _ _ _ (T16.setTop (mkF m 238 #[.val (.long q0), .second] [(.int (1 : Int32)), (.int ac16)]))
                                    exact J238 T16 _ X16 e16 N16 ((1 : Int32))  (by first | exact own_i1 (p := 100000000000000000) (by decide) (by omega) | exact own_i0 (p := 100000000000000000) (by decide) (by omega))
                                by_cases hc216 : q0 < (10000000000000000 : Int64)
                                · skip
                                  have hi216 : q0.toInt < 10000000000000000 := Int64.lt_iff_toInt_lt.mp hc216
                                  refine own_go (fun t_ kt_ => XS.ifYes X15.here hx rfl (pc0 := 216) (pc' := 223) rfl (hb hby d1_216) rfl ((if0 _ _).trans (tlt ((lw_lt q0 (10000000000000000 : Int64)).mpr hc216)).1) (by decide) (by decide) kt_) ?_
                                  show own_Go p e below s _ _ _ (T15.setTop (mkF m 223 #[.val (.long q0), .second] [(.int ac15)]))
                                  refine own_go (fun t_ kt_ => XS.iconst X15.here hx rfl (hb hby d1_223) kt_) ?_
                                  show own_Go p e below s _ _ _ (T15.setTop (mkF m 224 #[.val (.long q0), .second] [(.int (0 : Int32)), (.int ac15)]))
                                  exact J224 T15 _ X15 e15 N15 ((0 : Int32))  (by first | exact own_i1 (p := 10000000000000000) (by decide) (by omega) | exact own_i0 (p := 10000000000000000) (by decide) (by omega))
                                · skip
                                  have hi216 : ¬ q0.toInt < 10000000000000000 := fun q => hc216 (Int64.lt_iff_toInt_lt.mpr q)
                                  refine own_go (fun t_ kt_ => XS.ifNo X15.here hx rfl (hb hby d1_216) rfl ((if0 _ _).trans (flt (fun q => hc216 ((lw_lt q0 (10000000000000000 : Int64)).mp q))).1) kt_) ?_
                                  show own_Go p e below s _ _ _ (T15.setTop (mkF m 219 #[.val (.long q0), .second] [(.int ac15)]))
                                  refine own_go (fun t_ kt_ => XS.iconst X15.here hx rfl (hb hby d1_219) kt_) ?_
                                  show own_Go p e below s _ _ _ (T15.setTop (mkF m 220 #[.val (.long q0), .second] [(.int (1 : Int32)), (.int ac15)]))
                                  refine own_go (fun t_ kt_ => XS.goto X15.here hx rfl (pc0 := 220) (pc' := 224) rfl (hb hby d1_220) (by decide) (by decide) kt_) ?_
                                  show own_Go p e below s _ _ _ (T15.setTop (mkF m 224 #[.val (.long q0), .second] [(.int (1 : Int32)), (.int ac15)]))
                                  exact J224 T15 _ X15 e15 N15 ((1 : Int32))  (by first | exact own_i1 (p := 10000000000000000) (by decide) (by omega) | exact own_i0 (p := 10000000000000000) (by decide) (by omega))
                              by_cases hc202 : q0 < (1000000000000000 : Int64)
                              · skip
                                have hi202 : q0.toInt < 1000000000000000 := Int64.lt_iff_toInt_lt.mp hc202
                                refine own_go (fun t_ kt_ => XS.ifYes X14.here hx rfl (pc0 := 202) (pc' := 209) rfl (hb hby d1_202) rfl ((if0 _ _).trans (tlt ((lw_lt q0 (1000000000000000 : Int64)).mpr hc202)).1) (by decide) (by decide) kt_) ?_
                                show own_Go p e below s _ _ _ (T14.setTop (mkF m 209 #[.val (.long q0), .second] [(.int ac14)]))
                                refine own_go (fun t_ kt_ => XS.iconst X14.here hx rfl (hb hby d1_209) kt_) ?_
                                show own_Go p e below s _ _ _ (T14.setTop (mkF m 210 #[.val (.long q0), .second] [(.int (0 : Int32)), (.int ac14)]))
                                exact J210 T14 _ X14 e14 N14 ((0 : Int32))  (by first | exact own_i1 (p := 1000000000000000) (by decide) (by omega) | exact own_i0 (p := 1000000000000000) (by decide) (by omega))
                              · skip
                                have hi202 : ¬ q0.toInt < 1000000000000000 := fun q => hc202 (Int64.lt_iff_toInt_lt.mpr q)
                                refine own_go (fun t_ kt_ => XS.ifNo X14.here hx rfl (hb hby d1_202) rfl ((if0 _ _).trans (flt (fun q => hc202 ((lw_lt q0 (1000000000000000 : Int64)).mp q))).1) kt_) ?_
                                show own_Go p e below s _ _ _ (T14.setTop (mkF m 205 #[.val (.long q0), .second] [(.int ac14)]))
                                refine own_go (fun t_ kt_ => XS.iconst X14.here hx rfl (hb hby d1_205) kt_) ?_
                                show own_Go p e below s _ _ _ (T14.setTop (mkF m 206 #[.val (.long q0), .second] [(.int (1 : Int32)), (.int ac14)]))
                                refine own_go (fun t_ kt_ => XS.goto X14.here hx rfl (pc0 := 206) (pc' := 210) rfl (hb hby d1_206) (by decide) (by decide) kt_) ?_
                                show own_Go p e below s _ _ _ (T14.setTop (mkF m 210 #[.val (.long q0), .second] [(.int (1 : Int32)), (.int ac14)]))
                                exact J210 T14 _ X14 e14 N14 ((1 : Int32))  (by first | exact own_i1 (p := 1000000000000000) (by decide) (by omega) | exact own_i0 (p := 1000000000000000) (by decide) (by omega))
                            by_cases hc188 : q0 < (100000000000000 : Int64)
                            · skip
                              have hi188 : q0.toInt < 100000000000000 := Int64.lt_iff_toInt_lt.mp hc188
                              refine own_go (fun t_ kt_ => XS.ifYes X13.here hx rfl (pc0 := 188) (pc' := 195) rfl (hb hby d1_188) rfl ((if0 _ _).trans (tlt ((lw_lt q0 (100000000000000 : Int64)).mpr hc188)).1) (by decide) (by decide) kt_) ?_
                              show own_Go p e below s _ _ _ (T13.setTop (mkF m 195 #[.val (.long q0), .second] [(.int ac13)]))
                              refine own_go (fun t_ kt_ => XS.iconst X13.here hx rfl (hb hby d1_195) kt_) ?_
                              show own_Go p e below s _ _ _ (T13.setTop (mkF m 196 #[.val (.long q0), .second] [(.int (0 : Int32)), (.int ac13)]))
                              exact J196 T13 _ X13 e13 N13 ((0 : Int32))  (by first | exact own_i1 (p := 100000000000000) (by decide) (by omega) | exact own_i0 (p := 100000000000000) (by decide) (by omega))
                            · skip
                              have hi188 : ¬ q0.toInt < 100000000000000 := fun q => hc188 (Int64.lt_iff_toInt_lt.mpr q)
                              refine own_go (fun t_ kt_ => XS.ifNo X13.here hx rfl (hb hby d1_188) rfl ((if0 _ _).trans (flt (fun q => hc188 ((lw_lt q0 (100000000000000 : Int64)).mp q))).1) kt_) ?_
                              show own_Go p e below s _ _ _ (T13.setTop (mkF m 191 #[.val (.long q0), .second] [(.int ac13)]))
                              refine own_go (fun t_ kt_ => XS.iconst X13.here hx rfl (hb hby d1_191) kt_) ?_
                              show own_Go p e below s _ _ _ (T13.setTop (mkF m 192 #[.val (.long q0), .second] [(.int (1 : Int32)), (.int ac13)]))
                              refine own_go (fun t_ kt_ => XS.goto X13.here hx rfl (pc0 := 192) (pc' := 196) rfl (hb hby d1_192) (by decide) (by decide) kt_) ?_
                              show own_Go p e below s _ _ _ (T13.setTop (mkF m 196 #[.val (.long q0), .second] [(.int (1 : Int32)), (.int ac13)]))
                              exact J196 T13 _ X13 e13 N13 ((1 : Int32))  (by first | exact own_i1 (p := 100000000000000) (by decide) (by omega) | exact own_i0 (p := 100000000000000) (by decide) (by omega))
                          by_cases hc174 : q0 < (10000000000000 : Int64)
                          · skip
                            have hi174 : q0.toInt < 10000000000000 := Int64.lt_iff_toInt_lt.mp hc174
                            refine own_go (fun t_ kt_ => XS.ifYes X12.here hx rfl (pc0 := 174) (pc' := 181) rfl (hb hby d1_174) rfl ((if0 _ _).trans (tlt ((lw_lt q0 (10000000000000 : Int64)).mpr hc174)).1) (by decide) (by decide) kt_) ?_
                            show own_Go p e below s _ _ _ (T12.setTop (mkF m 181 #[.val (.long q0), .second] [(.int ac12)]))
                            refine own_go (fun t_ kt_ => XS.iconst X12.here hx rfl (hb hby d1_181) kt_) ?_
                            show own_Go p e below s _ _ _ (T12.setTop (mkF m 182 #[.val (.long q0), .second] [(.int (0 : Int32)), (.int ac12)]))
                            exact J182 T12 _ X12 e12 N12 ((0 : Int32))  (by first | exact own_i1 (p := 10000000000000) (by decide) (by omega) | exact own_i0 (p := 10000000000000) (by decide) (by omega))
                          · skip
                            have hi174 : ¬ q0.toInt < 10000000000000 := fun q => hc174 (Int64.lt_iff_toInt_lt.mpr q)
                            refine own_go (fun t_ kt_ => XS.ifNo X12.here hx rfl (hb hby d1_174) rfl ((if0 _ _).trans (flt (fun q => hc174 ((lw_lt q0 (10000000000000 : Int64)).mp q))).1) kt_) ?_
                            show own_Go p e below s _ _ _ (T12.setTop (mkF m 177 #[.val (.long q0), .second] [(.int ac12)]))
                            refine own_go (fun t_ kt_ => XS.iconst X12.here hx rfl (hb hby d1_177) kt_) ?_
                            show own_Go p e below s _ _ _ (T12.setTop (mkF m 178 #[.val (.long q0), .second] [(.int (1 : Int32)), (.int ac12)]))
                            refine own_go (fun t_ kt_ => XS.goto X12.here hx rfl (pc0 := 178) (pc' := 182) rfl (hb hby d1_178) (by decide) (by decide) kt_) ?_
                            show own_Go p e below s _ _ _ (T12.setTop (mkF m 182 #[.val (.long q0), .second] [(.int (1 : Int32)), (.int ac12)]))
                            exact J182 T12 _ X12 e12 N12 ((1 : Int32))  (by first | exact own_i1 (p := 10000000000000) (by decide) (by omega) | exact own_i0 (p := 10000000000000) (by decide) (by omega))
                        by_cases hc160 : q0 < (1000000000000 : Int64)
                        · skip
                          have hi160 : q0.toInt < 1000000000000 := Int64.lt_iff_toInt_lt.mp hc160
                          refine own_go (fun t_ kt_ => XS.ifYes X11.here hx rfl (pc0 := 160) (pc' := 167) rfl (hb hby d1_160) rfl ((if0 _ _).trans (tlt ((lw_lt q0 (1000000000000 : Int64)).mpr hc160)).1) (by decide) (by decide) kt_) ?_
                          show own_Go p e below s _ _ _ (T11.setTop (mkF m 167 #[.val (.long q0), .second] [(.int ac11)]))
                          refine own_go (fun t_ kt_ => XS.iconst X11.here hx rfl (hb hby d1_167) kt_) ?_
                          show own_Go p e below s _ _ _ (T11.setTop (mkF m 168 #[.val (.long q0), .second] [(.int (0 : Int32)), (.int ac11)]))
                          exact J168 T11 _ X11 e11 N11 ((0 : Int32))  (by first | exact own_i1 (p := 1000000000000) (by decide) (by omega) | exact own_i0 (p := 1000000000000) (by decide) (by omega))
                        · skip
                          have hi160 : ¬ q0.toInt < 1000000000000 := fun q => hc160 (Int64.lt_iff_toInt_lt.mpr q)
                          refine own_go (fun t_ kt_ => XS.ifNo X11.here hx rfl (hb hby d1_160) rfl ((if0 _ _).trans (flt (fun q => hc160 ((lw_lt q0 (1000000000000 : Int64)).mp q))).1) kt_) ?_
                          show own_Go p e below s _ _ _ (T11.setTop (mkF m 163 #[.val (.long q0), .second] [(.int ac11)]))
                          refine own_go (fun t_ kt_ => XS.iconst X11.here hx rfl (hb hby d1_163) kt_) ?_
                          show own_Go p e below s _ _ _ (T11.setTop (mkF m 164 #[.val (.long q0), .second] [(.int (1 : Int32)), (.int ac11)]))
                          refine own_go (fun t_ kt_ => XS.goto X11.here hx rfl (pc0 := 164) (pc' := 168) rfl (hb hby d1_164) (by decide) (by decide) kt_) ?_
                          show own_Go p e below s _ _ _ (T11.setTop (mkF m 168 #[.val (.long q0), .second] [(.int (1 : Int32)), (.int ac11)]))
                          exact J168 T11 _ X11 e11 N11 ((1 : Int32))  (by first | exact own_i1 (p := 1000000000000) (by decide) (by omega) | exact own_i0 (p := 1000000000000) (by decide) (by omega))
                      by_cases hc146 : q0 < (100000000000 : Int64)
                      · skip
                        have hi146 : q0.toInt < 100000000000 := Int64.lt_iff_toInt_lt.mp hc146
                        refine own_go (fun t_ kt_ => XS.ifYes X10.here hx rfl (pc0 := 146) (pc' := 153) rfl (hb hby d1_146) rfl ((if0 _ _).trans (tlt ((lw_lt q0 (100000000000 : Int64)).mpr hc146)).1) (by decide) (by decide) kt_) ?_
                        show own_Go p e below s _ _ _ (T10.setTop (mkF m 153 #[.val (.long q0), .second] [(.int ac10)]))
                        refine own_go (fun t_ kt_ => XS.iconst X10.here hx rfl (hb hby d1_153) kt_) ?_
                        show own_Go p e below s _ _ _ (T10.setTop (mkF m 154 #[.val (.long q0), .second] [(.int (0 : Int32)), (.int ac10)]))
                        exact J154 T10 _ X10 e10 N10 ((0 : Int32))  (by first | exact own_i1 (p := 100000000000) (by decide) (by omega) | exact own_i0 (p := 100000000000) (by decide) (by omega))
                      · skip
                        have hi146 : ¬ q0.toInt < 100000000000 := fun q => hc146 (Int64.lt_iff_toInt_lt.mpr q)
                        refine own_go (fun t_ kt_ => XS.ifNo X10.here hx rfl (hb hby d1_146) rfl ((if0 _ _).trans (flt (fun q => hc146 ((lw_lt q0 (100000000000 : Int64)).mp q))).1) kt_) ?_
                        show own_Go p e below s _ _ _ (T10.setTop (mkF m 149 #[.val (.long q0), .second] [(.int ac10)]))
                        refine own_go (fun t_ kt_ => XS.iconst X10.here hx rfl (hb hby d1_149) kt_) ?_
                        show own_Go p e below s _ _ _ (T10.setTop (mkF m 150 #[.val (.long q0), .second] [(.int (1 : Int32)), (.int ac10)]))
                        refine own_go (fun t_ kt_ => XS.goto X10.here hx rfl (pc0 := 150) (pc' := 154) rfl (hb hby d1_150) (by decide) (by decide) kt_) ?_
                        show own_Go p e below s _ _ _ (T10.setTop (mkF m 154 #[.val (.long q0), .second] [(.int (1 : Int32)), (.int ac10)]))
                        exact J154 T10 _ X10 e10 N10 ((1 : Int32))  (by first | exact own_i1 (p := 100000000000) (by decide) (by omega) | exact own_i0 (p := 100000000000) (by decide) (by omega))
                    by_cases hc132 : q0 < (10000000000 : Int64)
                    · skip
                      have hi132 : q0.toInt < 10000000000 := Int64.lt_iff_toInt_lt.mp hc132
                      refine own_go (fun t_ kt_ => XS.ifYes X9.here hx rfl (pc0 := 132) (pc' := 139) rfl (hb hby d1_132) rfl ((if0 _ _).trans (tlt ((lw_lt q0 (10000000000 : Int64)).mpr hc132)).1) (by decide) (by decide) kt_) ?_
                      show own_Go p e below s _ _ _ (T9.setTop (mkF m 139 #[.val (.long q0), .second] [(.int ac9)]))
                      refine own_go (fun t_ kt_ => XS.iconst X9.here hx rfl (hb hby d1_139) kt_) ?_
                      show own_Go p e below s _ _ _ (T9.setTop (mkF m 140 #[.val (.long q0), .second] [(.int (0 : Int32)), (.int ac9)]))
                      exact J140 T9 _ X9 e9 N9 ((0 : Int32))  (by first | exact own_i1 (p := 10000000000) (by decide) (by omega) | exact own_i0 (p := 10000000000) (by decide) (by omega))
                    · skip
                      have hi132 : ¬ q0.toInt < 10000000000 := fun q => hc132 (Int64.lt_iff_toInt_lt.mpr q)
                      refine own_go (fun t_ kt_ => XS.ifNo X9.here hx rfl (hb hby d1_132) rfl ((if0 _ _).trans (flt (fun q => hc132 ((lw_lt q0 (10000000000 : Int64)).mp q))).1) kt_) ?_
                      show own_Go p e below s _ _ _ (T9.setTop (mkF m 135 #[.val (.long q0), .second] [(.int ac9)]))
                      refine own_go (fun t_ kt_ => XS.iconst X9.here hx rfl (hb hby d1_135) kt_) ?_
                      show own_Go p e below s _ _ _ (T9.setTop (mkF m 136 #[.val (.long q0), .second] [(.int (1 : Int32)), (.int ac9)]))
                      refine own_go (fun t_ kt_ => XS.goto X9.here hx rfl (pc0 := 136) (pc' := 140) rfl (hb hby d1_136) (by decide) (by decide) kt_) ?_
                      show own_Go p e below s _ _ _ (T9.setTop (mkF m 140 #[.val (.long q0), .second] [(.int (1 : Int32)), (.int ac9)]))
                      exact J140 T9 _ X9 e9 N9 ((1 : Int32))  (by first | exact own_i1 (p := 10000000000) (by decide) (by omega) | exact own_i0 (p := 10000000000) (by decide) (by omega))
                  by_cases hc118 : q0 < (1000000000 : Int64)
                  · skip
                    have hi118 : q0.toInt < 1000000000 := Int64.lt_iff_toInt_lt.mp hc118
                    refine own_go (fun t_ kt_ => XS.ifYes X8.here hx rfl (pc0 := 118) (pc' := 125) rfl (hb hby d1_118) rfl ((if0 _ _).trans (tlt ((lw_lt q0 (1000000000 : Int64)).mpr hc118)).1) (by decide) (by decide) kt_) ?_
                    show own_Go p e below s _ _ _ (T8.setTop (mkF m 125 #[.val (.long q0), .second] [(.int ac8)]))
                    refine own_go (fun t_ kt_ => XS.iconst X8.here hx rfl (hb hby d1_125) kt_) ?_
                    show own_Go p e below s _ _ _ (T8.setTop (mkF m 126 #[.val (.long q0), .second] [(.int (0 : Int32)), (.int ac8)]))
                    exact J126 T8 _ X8 e8 N8 ((0 : Int32))  (by first | exact own_i1 (p := 1000000000) (by decide) (by omega) | exact own_i0 (p := 1000000000) (by decide) (by omega))
                  · skip
                    have hi118 : ¬ q0.toInt < 1000000000 := fun q => hc118 (Int64.lt_iff_toInt_lt.mpr q)
                    refine own_go (fun t_ kt_ => XS.ifNo X8.here hx rfl (hb hby d1_118) rfl ((if0 _ _).trans (flt (fun q => hc118 ((lw_lt q0 (1000000000 : Int64)).mp q))).1) kt_) ?_
                    show own_Go p e below s _ _ _ (T8.setTop (mkF m 121 #[.val (.long q0), .second] [(.int ac8)]))
                    refine own_go (fun t_ kt_ => XS.iconst X8.here hx rfl (hb hby d1_121) kt_) ?_
                    show own_Go p e below s _ _ _ (T8.setTop (mkF m 122 #[.val (.long q0), .second] [(.int (1 : Int32)), (.int ac8)]))
                    refine own_go (fun t_ kt_ => XS.goto X8.here hx rfl (pc0 := 122) (pc' := 126) rfl (hb hby d1_122) (by decide) (by decide) kt_) ?_
                    show own_Go p e below s _ _ _ (T8.setTop (mkF m 126 #[.val (.long q0), .second] [(.int (1 : Int32)), (.int ac8)]))
                    exact J126 T8 _ X8 e8 N8 ((1 : Int32))  (by first | exact own_i1 (p := 1000000000) (by decide) (by omega) | exact own_i0 (p := 1000000000) (by decide) (by omega))
                by_cases hc104 : q0 < (100000000 : Int64)
                · skip
                  have hi104 : q0.toInt < 100000000 := Int64.lt_iff_toInt_lt.mp hc104
                  refine own_go (fun t_ kt_ => XS.ifYes X7.here hx rfl (pc0 := 104) (pc' := 111) rfl (hb hby d1_104) rfl ((if0 _ _).trans (tlt ((lw_lt q0 (100000000 : Int64)).mpr hc104)).1) (by decide) (by decide) kt_) ?_
                  show own_Go p e below s _ _ _ (T7.setTop (mkF m 111 #[.val (.long q0), .second] [(.int ac7)]))
                  refine own_go (fun t_ kt_ => XS.iconst X7.here hx rfl (hb hby d1_111) kt_) ?_
                  show own_Go p e below s _ _ _ (T7.setTop (mkF m 112 #[.val (.long q0), .second] [(.int (0 : Int32)), (.int ac7)]))
                  exact J112 T7 _ X7 e7 N7 ((0 : Int32))  (by first | exact own_i1 (p := 100000000) (by decide) (by omega) | exact own_i0 (p := 100000000) (by decide) (by omega))
                · skip
                  have hi104 : ¬ q0.toInt < 100000000 := fun q => hc104 (Int64.lt_iff_toInt_lt.mpr q)
                  refine own_go (fun t_ kt_ => XS.ifNo X7.here hx rfl (hb hby d1_104) rfl ((if0 _ _).trans (flt (fun q => hc104 ((lw_lt q0 (100000000 : Int64)).mp q))).1) kt_) ?_
                  show own_Go p e below s _ _ _ (T7.setTop (mkF m 107 #[.val (.long q0), .second] [(.int ac7)]))
                  refine own_go (fun t_ kt_ => XS.iconst X7.here hx rfl (hb hby d1_107) kt_) ?_
                  show own_Go p e below s _ _ _ (T7.setTop (mkF m 108 #[.val (.long q0), .second] [(.int (1 : Int32)), (.int ac7)]))
                  refine own_go (fun t_ kt_ => XS.goto X7.here hx rfl (pc0 := 108) (pc' := 112) rfl (hb hby d1_108) (by decide) (by decide) kt_) ?_
                  show own_Go p e below s _ _ _ (T7.setTop (mkF m 112 #[.val (.long q0), .second] [(.int (1 : Int32)), (.int ac7)]))
                  exact J112 T7 _ X7 e7 N7 ((1 : Int32))  (by first | exact own_i1 (p := 100000000) (by decide) (by omega) | exact own_i0 (p := 100000000) (by decide) (by omega))
              by_cases hc90 : q0 < (10000000 : Int64)
              · skip
                have hi90 : q0.toInt < 10000000 := Int64.lt_iff_toInt_lt.mp hc90
                refine own_go (fun t_ kt_ => XS.ifYes X6.here hx rfl (pc0 := 90) (pc' := 97) rfl (hb hby d1_90) rfl ((if0 _ _).trans (tlt ((lw_lt q0 (10000000 : Int64)).mpr hc90)).1) (by decide) (by decide) kt_) ?_
                show own_Go p e below s _ _ _ (T6.setTop (mkF m 97 #[.val (.long q0), .second] [(.int ac6)]))
                refine own_go (fun t_ kt_ => XS.iconst X6.here hx rfl (hb hby d1_97) kt_) ?_
                show own_Go p e below s _ _ _ (T6.setTop (mkF m 98 #[.val (.long q0), .second] [(.int (0 : Int32)), (.int ac6)]))
                exact J98 T6 _ X6 e6 N6 ((0 : Int32))  (by first | exact own_i1 (p := 10000000) (by decide) (by omega) | exact own_i0 (p := 10000000) (by decide) (by omega))
              · skip
                have hi90 : ¬ q0.toInt < 10000000 := fun q => hc90 (Int64.lt_iff_toInt_lt.mpr q)
                refine own_go (fun t_ kt_ => XS.ifNo X6.here hx rfl (hb hby d1_90) rfl ((if0 _ _).trans (flt (fun q => hc90 ((lw_lt q0 (10000000 : Int64)).mp q))).1) kt_) ?_
                show own_Go p e below s _ _ _ (T6.setTop (mkF m 93 #[.val (.long q0), .second] [(.int ac6)]))
                refine own_go (fun t_ kt_ => XS.iconst X6.here hx rfl (hb hby d1_93) kt_) ?_
                show own_Go p e below s _ _ _ (T6.setTop (mkF m 94 #[.val (.long q0), .second] [(.int (1 : Int32)), (.int ac6)]))
                refine own_go (fun t_ kt_ => XS.goto X6.here hx rfl (pc0 := 94) (pc' := 98) rfl (hb hby d1_94) (by decide) (by decide) kt_) ?_
                show own_Go p e below s _ _ _ (T6.setTop (mkF m 98 #[.val (.long q0), .second] [(.int (1 : Int32)), (.int ac6)]))
                exact J98 T6 _ X6 e6 N6 ((1 : Int32))  (by first | exact own_i1 (p := 10000000) (by decide) (by omega) | exact own_i0 (p := 10000000) (by decide) (by omega))
            by_cases hc76 : q0 < (1000000 : Int64)
            · skip
              have hi76 : q0.toInt < 1000000 := Int64.lt_iff_toInt_lt.mp hc76
              refine own_go (fun t_ kt_ => XS.ifYes X5.here hx rfl (pc0 := 76) (pc' := 83) rfl (hb hby d1_76) rfl ((if0 _ _).trans (tlt ((lw_lt q0 (1000000 : Int64)).mpr hc76)).1) (by decide) (by decide) kt_) ?_
              show own_Go p e below s _ _ _ (T5.setTop (mkF m 83 #[.val (.long q0), .second] [(.int ac5)]))
              refine own_go (fun t_ kt_ => XS.iconst X5.here hx rfl (hb hby d1_83) kt_) ?_
              show own_Go p e below s _ _ _ (T5.setTop (mkF m 84 #[.val (.long q0), .second] [(.int (0 : Int32)), (.int ac5)]))
              exact J84 T5 _ X5 e5 N5 ((0 : Int32))  (by first | exact own_i1 (p := 1000000) (by decide) (by omega) | exact own_i0 (p := 1000000) (by decide) (by omega))
            · skip
              have hi76 : ¬ q0.toInt < 1000000 := fun q => hc76 (Int64.lt_iff_toInt_lt.mpr q)
              refine own_go (fun t_ kt_ => XS.ifNo X5.here hx rfl (hb hby d1_76) rfl ((if0 _ _).trans (flt (fun q => hc76 ((lw_lt q0 (1000000 : Int64)).mp q))).1) kt_) ?_
              show own_Go p e below s _ _ _ (T5.setTop (mkF m 79 #[.val (.long q0), .second] [(.int ac5)]))
              refine own_go (fun t_ kt_ => XS.iconst X5.here hx rfl (hb hby d1_79) kt_) ?_
              show own_Go p e below s _ _ _ (T5.setTop (mkF m 80 #[.val (.long q0), .second] [(.int (1 : Int32)), (.int ac5)]))
              refine own_go (fun t_ kt_ => XS.goto X5.here hx rfl (pc0 := 80) (pc' := 84) rfl (hb hby d1_80) (by decide) (by decide) kt_) ?_
              show own_Go p e below s _ _ _ (T5.setTop (mkF m 84 #[.val (.long q0), .second] [(.int (1 : Int32)), (.int ac5)]))
              exact J84 T5 _ X5 e5 N5 ((1 : Int32))  (by first | exact own_i1 (p := 1000000) (by decide) (by omega) | exact own_i0 (p := 1000000) (by decide) (by omega))
          by_cases hc62 : q0 < (100000 : Int64)
          · skip
            have hi62 : q0.toInt < 100000 := Int64.lt_iff_toInt_lt.mp hc62
            refine own_go (fun t_ kt_ => XS.ifYes X4.here hx rfl (pc0 := 62) (pc' := 69) rfl (hb hby d1_62) rfl ((if0 _ _).trans (tlt ((lw_lt q0 (100000 : Int64)).mpr hc62)).1) (by decide) (by decide) kt_) ?_
            show own_Go p e below s _ _ _ (T4.setTop (mkF m 69 #[.val (.long q0), .second] [(.int ac4)]))
            refine own_go (fun t_ kt_ => XS.iconst X4.here hx rfl (hb hby d1_69) kt_) ?_
            show own_Go p e below s _ _ _ (T4.setTop (mkF m 70 #[.val (.long q0), .second] [(.int (0 : Int32)), (.int ac4)]))
            exact J70 T4 _ X4 e4 N4 ((0 : Int32))  (by first | exact own_i1 (p := 100000) (by decide) (by omega) | exact own_i0 (p := 100000) (by decide) (by omega))
          · skip
            have hi62 : ¬ q0.toInt < 100000 := fun q => hc62 (Int64.lt_iff_toInt_lt.mpr q)
            refine own_go (fun t_ kt_ => XS.ifNo X4.here hx rfl (hb hby d1_62) rfl ((if0 _ _).trans (flt (fun q => hc62 ((lw_lt q0 (100000 : Int64)).mp q))).1) kt_) ?_
            show own_Go p e below s _ _ _ (T4.setTop (mkF m 65 #[.val (.long q0), .second] [(.int ac4)]))
            refine own_go (fun t_ kt_ => XS.iconst X4.here hx rfl (hb hby d1_65) kt_) ?_
            show own_Go p e below s _ _ _ (T4.setTop (mkF m 66 #[.val (.long q0), .second] [(.int (1 : Int32)), (.int ac4)]))
            refine own_go (fun t_ kt_ => XS.goto X4.here hx rfl (pc0 := 66) (pc' := 70) rfl (hb hby d1_66) (by decide) (by decide) kt_) ?_
            show own_Go p e below s _ _ _ (T4.setTop (mkF m 70 #[.val (.long q0), .second] [(.int (1 : Int32)), (.int ac4)]))
            exact J70 T4 _ X4 e4 N4 ((1 : Int32))  (by first | exact own_i1 (p := 100000) (by decide) (by omega) | exact own_i0 (p := 100000) (by decide) (by omega))
        by_cases hc48 : q0 < (10000 : Int64)
        · skip
          have hi48 : q0.toInt < 10000 := Int64.lt_iff_toInt_lt.mp hc48
          refine own_go (fun t_ kt_ => XS.ifYes X3.here hx rfl (pc0 := 48) (pc' := 55) rfl (hb hby d1_48) rfl ((if0 _ _).trans (tlt ((lw_lt q0 (10000 : Int64)).mpr hc48)).1) (by decide) (by decide) kt_) ?_
          show own_Go p e below s _ _ _ (T3.setTop (mkF m 55 #[.val (.long q0), .second] [(.int ac3)]))
          refine own_go (fun t_ kt_ => XS.iconst X3.here hx rfl (hb hby d1_55) kt_) ?_
          show own_Go p e below s _ _ _ (T3.setTop (mkF m 56 #[.val (.long q0), .second] [(.int (0 : Int32)), (.int ac3)]))
          exact J56 T3 _ X3 e3 N3 ((0 : Int32))  (by first | exact own_i1 (p := 10000) (by decide) (by omega) | exact own_i0 (p := 10000) (by decide) (by omega))
        · skip
          have hi48 : ¬ q0.toInt < 10000 := fun q => hc48 (Int64.lt_iff_toInt_lt.mpr q)
          refine own_go (fun t_ kt_ => XS.ifNo X3.here hx rfl (hb hby d1_48) rfl ((if0 _ _).trans (flt (fun q => hc48 ((lw_lt q0 (10000 : Int64)).mp q))).1) kt_) ?_
          show own_Go p e below s _ _ _ (T3.setTop (mkF m 51 #[.val (.long q0), .second] [(.int ac3)]))
          refine own_go (fun t_ kt_ => XS.iconst X3.here hx rfl (hb hby d1_51) kt_) ?_
          show own_Go p e below s _ _ _ (T3.setTop (mkF m 52 #[.val (.long q0), .second] [(.int (1 : Int32)), (.int ac3)]))
          refine own_go (fun t_ kt_ => XS.goto X3.here hx rfl (pc0 := 52) (pc' := 56) rfl (hb hby d1_52) (by decide) (by decide) kt_) ?_
          show own_Go p e below s _ _ _ (T3.setTop (mkF m 56 #[.val (.long q0), .second] [(.int (1 : Int32)), (.int ac3)]))
          exact J56 T3 _ X3 e3 N3 ((1 : Int32))  (by first | exact own_i1 (p := 10000) (by decide) (by omega) | exact own_i0 (p := 10000) (by decide) (by omega))
      by_cases hc34 : q0 < (1000 : Int64)
      · skip
        have hi34 : q0.toInt < 1000 := Int64.lt_iff_toInt_lt.mp hc34
        refine own_go (fun t_ kt_ => XS.ifYes X2.here hx rfl (pc0 := 34) (pc' := 41) rfl (hb hby d1_34) rfl ((if0 _ _).trans (tlt ((lw_lt q0 (1000 : Int64)).mpr hc34)).1) (by decide) (by decide) kt_) ?_
        show own_Go p e below s _ _ _ (T2.setTop (mkF m 41 #[.val (.long q0), .second] [(.int ac2)]))
        refine own_go (fun t_ kt_ => XS.iconst X2.here hx rfl (hb hby d1_41) kt_) ?_
        show own_Go p e below s _ _ _ (T2.setTop (mkF m 42 #[.val (.long q0), .second] [(.int (0 : Int32)), (.int ac2)]))
        exact J42 T2 _ X2 e2 N2 ((0 : Int32))  (by first | exact own_i1 (p := 1000) (by decide) (by omega) | exact own_i0 (p := 1000) (by decide) (by omega))
      · skip
        have hi34 : ¬ q0.toInt < 1000 := fun q => hc34 (Int64.lt_iff_toInt_lt.mpr q)
        refine own_go (fun t_ kt_ => XS.ifNo X2.here hx rfl (hb hby d1_34) rfl ((if0 _ _).trans (flt (fun q => hc34 ((lw_lt q0 (1000 : Int64)).mp q))).1) kt_) ?_
        show own_Go p e below s _ _ _ (T2.setTop (mkF m 37 #[.val (.long q0), .second] [(.int ac2)]))
        refine own_go (fun t_ kt_ => XS.iconst X2.here hx rfl (hb hby d1_37) kt_) ?_
        show own_Go p e below s _ _ _ (T2.setTop (mkF m 38 #[.val (.long q0), .second] [(.int (1 : Int32)), (.int ac2)]))
        refine own_go (fun t_ kt_ => XS.goto X2.here hx rfl (pc0 := 38) (pc' := 42) rfl (hb hby d1_38) (by decide) (by decide) kt_) ?_
        show own_Go p e below s _ _ _ (T2.setTop (mkF m 42 #[.val (.long q0), .second] [(.int (1 : Int32)), (.int ac2)]))
        exact J42 T2 _ X2 e2 N2 ((1 : Int32))  (by first | exact own_i1 (p := 1000) (by decide) (by omega) | exact own_i0 (p := 1000) (by decide) (by omega))
    by_cases hc20 : q0 < (100 : Int64)
    · skip
      have hi20 : q0.toInt < 100 := Int64.lt_iff_toInt_lt.mp hc20
      refine own_go (fun t_ kt_ => XS.ifYes X1.here hx rfl (pc0 := 20) (pc' := 27) rfl (hb hby d1_20) rfl ((if0 _ _).trans (tlt ((lw_lt q0 (100 : Int64)).mpr hc20)).1) (by decide) (by decide) kt_) ?_
      show own_Go p e below s _ _ _ (T1.setTop (mkF m 27 #[.val (.long q0), .second] [(.int ac1)]))
      refine own_go (fun t_ kt_ => XS.iconst X1.here hx rfl (hb hby d1_27) kt_) ?_
      show own_Go p e below s _ _ _ (T1.setTop (mkF m 28 #[.val (.long q0), .second] [(.int (0 : Int32)), (.int ac1)]))
      exact J28 T1 _ X1 e1 N1 ((0 : Int32))  (by first | exact own_i1 (p := 100) (by decide) (by omega) | exact own_i0 (p := 100) (by decide) (by omega))
    · skip
      have hi20 : ¬ q0.toInt < 100 := fun q => hc20 (Int64.lt_iff_toInt_lt.mpr q)
      refine own_go (fun t_ kt_ => XS.ifNo X1.here hx rfl (hb hby d1_20) rfl ((if0 _ _).trans (flt (fun q => hc20 ((lw_lt q0 (100 : Int64)).mp q))).1) kt_) ?_
      show own_Go p e below s _ _ _ (T1.setTop (mkF m 23 #[.val (.long q0), .second] [(.int ac1)]))
      refine own_go (fun t_ kt_ => XS.iconst X1.here hx rfl (hb hby d1_23) kt_) ?_
      show own_Go p e below s _ _ _ (T1.setTop (mkF m 24 #[.val (.long q0), .second] [(.int (1 : Int32)), (.int ac1)]))
      refine own_go (fun t_ kt_ => XS.goto X1.here hx rfl (pc0 := 24) (pc' := 28) rfl (hb hby d1_24) (by decide) (by decide) kt_) ?_
      show own_Go p e below s _ _ _ (T1.setTop (mkF m 28 #[.val (.long q0), .second] [(.int (1 : Int32)), (.int ac1)]))
      exact J28 T1 _ X1 e1 N1 ((1 : Int32))  (by first | exact own_i1 (p := 100) (by decide) (by omega) | exact own_i0 (p := 100) (by decide) (by omega))
  by_cases hc6 : q0 < (10 : Int64)
  · skip
    have hi6 : q0.toInt < 10 := Int64.lt_iff_toInt_lt.mp hc6
    refine own_go (fun t_ kt_ => XS.ifYes X0.here hx rfl (pc0 := 6) (pc' := 13) rfl (hb hby d1_6) rfl ((if0 _ _).trans (tlt ((lw_lt q0 (10 : Int64)).mpr hc6)).1) (by decide) (by decide) kt_) ?_
    show own_Go p e below s _ _ _ (s₁.setTop (mkF m 13 #[.val (.long q0), .second] [(.int (1 : Int32))]))
    refine own_go (fun t_ kt_ => XS.iconst X0.here hx rfl (hb hby d1_13) kt_) ?_
    show own_Go p e below s _ _ _ (s₁.setTop (mkF m 14 #[.val (.long q0), .second] [(.int (0 : Int32)), (.int (1 : Int32))]))
    exact J14 s₁ _ X0 e0 N0 ((0 : Int32))  (by first | exact own_i1 (p := 10) (by decide) (by omega) | exact own_i0 (p := 10) (by decide) (by omega))
  · skip
    have hi6 : ¬ q0.toInt < 10 := fun q => hc6 (Int64.lt_iff_toInt_lt.mpr q)
    refine own_go (fun t_ kt_ => XS.ifNo X0.here hx rfl (hb hby d1_6) rfl ((if0 _ _).trans (flt (fun q => hc6 ((lw_lt q0 (10 : Int64)).mp q))).1) kt_) ?_
    show own_Go p e below s _ _ _ (s₁.setTop (mkF m 9 #[.val (.long q0), .second] [(.int (1 : Int32))]))
    refine own_go (fun t_ kt_ => XS.iconst X0.here hx rfl (hb hby d1_9) kt_) ?_
    show own_Go p e below s _ _ _ (s₁.setTop (mkF m 10 #[.val (.long q0), .second] [(.int (1 : Int32)), (.int (1 : Int32))]))
    refine own_go (fun t_ kt_ => XS.goto X0.here hx rfl (pc0 := 10) (pc' := 14) rfl (hb hby d1_10) (by decide) (by decide) kt_) ?_
    show own_Go p e below s _ _ _ (s₁.setTop (mkF m 14 #[.val (.long q0), .second] [(.int (1 : Int32)), (.int (1 : Int32))]))
    exact J14 s₁ _ X0 e0 N0 ((1 : Int32))  (by first | exact own_i1 (p := 10) (by decide) (by omega) | exact own_i0 (p := 10) (by decide) (by omega))
def own_upd (u : Nat → Int32) (i : Nat) (x : Int32) : Nat → Int32 := fun j => if j = i then x else u j
theorem own_updS (u : Nat → Int32) (i : Nat) (x : Int32) (j : Nat) : own_set (fun j => .int (u j)) i (.int x) j = .int (own_upd u i x j) := by
  unfold own_set own_upd; split <;> rfl
theorem own_updY (u : Nat → Int32) (i : Nat) (x : Int32) : own_upd u i x i = x := if_pos rfl
theorem own_updN (u : Nat → Int32) (i : Nat) (x : Int32) (j : Nat) (h : j ≠ i) : own_upd u i x j = u j := if_neg h
theorem d2_0 : decode method_4_code 0 = .ok (.iload 5, 2) := by decide +kernel
theorem d2_2 : decode method_4_code 2 = .ok (.iload_n 2, 1) := by decide +kernel
theorem d2_3 : decode method_4_code 3 = .ok (.if_icmp .ge 27, 3) := by decide +kernel
theorem d2_6 : decode method_4_code 6 = .ok (.aload_n 0, 1) := by decide +kernel
theorem d2_7 : decode method_4_code 7 = .ok (.iload_n 1, 1) := by decide +kernel
theorem d2_8 : decode method_4_code 8 = .ok (.iload_n 2, 1) := by decide +kernel
theorem d2_9 : decode method_4_code 9 = .ok (.iadd, 1) := by decide +kernel
theorem d2_10 : decode method_4_code 10 = .ok (.iconst 1, 1) := by decide +kernel
theorem d2_11 : decode method_4_code 11 = .ok (.isub, 1) := by decide +kernel
theorem d2_12 : decode method_4_code 12 = .ok (.iload 5, 2) := by decide +kernel
theorem d2_14 : decode method_4_code 14 = .ok (.isub, 1) := by decide +kernel
theorem d2_15 : decode method_4_code 15 = .ok (.ldc2_w 63, 3) := by decide +kernel
theorem d2_18 : decode method_4_code 18 = .ok (.lload_n 3, 1) := by decide +kernel
theorem d2_19 : decode method_4_code 19 = .ok (.lload 6, 2) := by decide +kernel
theorem d2_21 : decode method_4_code 21 = .ok (.ldiv, 1) := by decide +kernel
theorem d2_22 : decode method_4_code 22 = .ok (.ldc2_w 21, 3) := by decide +kernel
theorem d2_25 : decode method_4_code 25 = .ok (.lrem, 1) := by decide +kernel
theorem d2_26 : decode method_4_code 26 = .ok (.ladd, 1) := by decide +kernel
theorem d2_27 : decode method_4_code 27 = .ok (.l2i, 1) := by decide +kernel
theorem d2_28 : decode method_4_code 28 = .ok (.i2b, 1) := by decide +kernel
theorem d2_29 : decode method_4_code 29 = .ok (.bastore, 1) := by decide +kernel
theorem d2_30 : decode method_4_code 30 = .ok (.return_, 1) := by decide +kernel
theorem ef_2 (m : MethodId) (r0 : Addr) (p1 : Int32) (p2 : Int32) (q3 : Int64) (p4 : Int32) (q5 : Int64) : entryFrame m #[(.ref r0), (.int p1), (.int p2), (.long q3), (.int p4), (.long q5)] 8 = mkF m 0 #[.val (.ref r0), .val (.int p1), .val (.int p2), .val (.long q3), .second, .val (.int p4), .val (.long q5), .second] [] := by first | (simp [entryFrame, mkF, argsToLocals, Value.category]; done) | rfl
def Q2 (Z : State) (r0 : Addr) (p1 : Int32) (p2 : Int32) (q3 : Int64) (p4 : Int32) (q5 : Int64) (u : Nat → Int32) (ss : Nat) (d : Nat) (N : Nat) (k : Nat) (h0 : Heap) (n0 : Nat) (v : Option Value) (h : Heap) (L : List Loc) : Prop := v = none ∧ Fr n0 L ∧ Keep h0 h [r0] ∧ ∃ u' : Nat → Int32, own_Ary Z h r0 .byte 26 (fun j => .int (u' j)) ∧ (k < d → u' (ss + d - 1 - k) = own_dig N k) ∧ (∀ j, (k < d → j ≠ ss + d - 1 - k) → u' j = u j)
set_option maxRecDepth 65536 in
set_option maxHeartbeats 40000000 in
theorem rm2 (l : Launch) (Z : State) (a0 : Array Value) (hw : ∀ d ∈ tables_1, d.before a0 Z = true) (ws : List Jvm.Cond) (r0 : Addr) (p1 : Int32) (p2 : Int32) (q3 : Int64) (p4 : Int32) (q5 : Int64) (u : Nat → Int32) (ss : Nat) (d : Nat) (N : Nat) (k : Nat) (h0 : Heap) (n0 : Nat) (Z0 : n0 ≤ h0.size) (A0 : own_Ary Z h0 r0 .byte 26 (fun j => .int (u j))) (g0 : n0 ≤ r0) (c1 : p1.toInt = (ss : Int)) (c2 : p2.toInt = (d : Int)) (c3 : q3.toInt = (N : Int)) (c4 : p4.toInt = (k : Int)) (c5 : q5.toInt = ((10 ^ k : Nat) : Int)) (c6 : ss ≤ 3 ∧ 1 ≤ d ∧ d ≤ 19 ∧ k ≤ 18) :
    MetFree l (⟨"com/example/ledgerstrike/ledgerstrike/journal/JournalFormatAfterNumberPinLaw", "digit", "([BIIJIJ)V"⟩ : MethodName) (head1 (Jvm.Cond.code (⟨"com/example/ledgerstrike/ledgerstrike/journal/JournalFormatAfterNumberPinLaw", "digit", "([BIIJIJ)V"⟩ : MethodName) method_4_code 8 none :: ws) ({ frames := 0, cells := 0, slots := 0, locals := 0 } : Room)) (fun a U => a = #[(.ref r0), (.int p1), (.int p2), (.long q3), (.int p4), (.long q5)] ∧ Z.Warmed39 U.vm ∧ U.heap = h0) (fun _ _ _ _ _ => True) (fun _ U o U' => ∃ v L, o = .returned v ∧ Q2 Z r0 p1 p2 q3 p4 q5 u ss d N k h0 n0 v U'.heap L ∧ FrameEnd U o U' L (({ frames := 0, cells := 0, slots := 0, locals := 0 } : Room)).cells (({ frames := 0, cells := 0, slots := 0, locals := 0 } : Room)).slots) := by
  refine MetFree.of_bodySF (plainFor_of_name pn_0) hisR ?_
  intro p e s m args below meth c s₁ Bd hml0 hP hK
  obtain ⟨rfl, hZ, hh⟩ := hP
  have hx := Bd.exec
  have hby := Bd.bytes
  have hml : c.maxLocals = 8 := hml0
  have hown : s.vm.findClass "com/example/ledgerstrike/ledgerstrike/journal/JournalFormatAfterNumberPinLaw" = some m.cls := findClass_of_methodNamed Bd.named
  have hnm := (name_of_methodNamed Bd.named Bd.method).1
  have hlk : meth.locks = false := Bd.notSynchronized
  have X0 : Stand p l e ({ frames := 0, cells := 0, slots := 0, locals := 0 } : Room) s m #[(.ref r0), (.int p1), (.int p2), (.long q3), (.int p4), (.long q5)] below meth c s₁ [] 0 0 := Stand.of_body Bd
  have e0 : s₁.heap = h0 := by rw [← hh, Bd.state]; rfl
  have N0 := Fr.nil n0
  have hret := Bd.returns
  show own_Go p e below s (Q2 Z r0 p1 p2 q3 p4 q5 u ss d N k h0 n0) _ _ (s₁.setTop (entryFrame m #[(.ref r0), (.int p1), (.int p2), (.long q3), (.int p4), (.long q5)] 8))
  refine own_go (fun t k => castTop (ef_2 m r0 p1 p2 q3 p4 q5) k) ?_
  show own_Go p e below s _ _ _ (s₁.setTop (mkF m 0 #[.val (.ref r0), .val (.int p1), .val (.int p2), .val (.long q3), .second, .val (.int p4), .val (.long q5), .second] []))
  refine own_go (fun t_ kt_ => XS.iload X0.here hx rfl (hb hby d2_0) rfl kt_) ?_
  show own_Go p e below s _ _ _ (s₁.setTop (mkF m 2 #[.val (.ref r0), .val (.int p1), .val (.int p2), .val (.long q3), .second, .val (.int p4), .val (.long q5), .second] [(.int p4)]))
  refine own_go (fun t_ kt_ => XS.iloadN X0.here hx rfl (hb hby d2_2) rfl kt_) ?_
  show own_Go p e below s _ _ _ (s₁.setTop (mkF m 3 #[.val (.ref r0), .val (.int p1), .val (.int p2), .val (.long q3), .second, .val (.int p4), .val (.long q5), .second] [(.int p2), (.int p4)]))
  by_cases hc3 : p4 < p2
  · skip
    have hi3 : p4.toInt < p2.toInt := Int32.lt_iff_toInt_lt.mp hc3
    refine own_go (fun t_ kt_ => XS.icmpNo X0.here hx rfl (hb hby d2_3) rfl (tlt hc3).2.1 kt_) ?_
    show own_Go p e below s _ _ _ (s₁.setTop (mkF m 6 #[.val (.ref r0), .val (.int p1), .val (.int p2), .val (.long q3), .second, .val (.int p4), .val (.long q5), .second] []))
    have hkd : k < d := by omega
    have i1 := own_plus c1 c2 (by omega)
    have i2 := own_subI (x := (p1 + p2)) (y := 1) (by omega) (by decide)
    rw [own_l1] at i2
    have i3 := own_subI (x := ((p1 + p2) - (1 : Int32))) (y := p4) (by omega) (by omega)
    have hv0 : nar .byte (((48 : Int64) + ((q3 / q5) % (10 : Int64))).toInt32.toInt8.toInt32) = own_dig N k := own_b8 (own_48 (own_divp c3 c5))
    refine own_go (fun t_ kt_ => XS.aloadN X0.here hx rfl (hb hby d2_6) rfl rfl kt_) ?_
    show own_Go p e below s _ _ _ (s₁.setTop (mkF m 7 #[.val (.ref r0), .val (.int p1), .val (.int p2), .val (.long q3), .second, .val (.int p4), .val (.long q5), .second] [(.ref r0)]))
    refine own_go (fun t_ kt_ => XS.iloadN X0.here hx rfl (hb hby d2_7) rfl kt_) ?_
    show own_Go p e below s _ _ _ (s₁.setTop (mkF m 8 #[.val (.ref r0), .val (.int p1), .val (.int p2), .val (.long q3), .second, .val (.int p4), .val (.long q5), .second] [(.int p1), (.ref r0)]))
    refine own_go (fun t_ kt_ => XS.iloadN X0.here hx rfl (hb hby d2_8) rfl kt_) ?_
    show own_Go p e below s _ _ _ (s₁.setTop (mkF m 9 #[.val (.ref r0), .val (.int p1), .val (.int p2), .val (.long q3), .second, .val (.int p4), .val (.long q5), .second] [(.int p2), (.int p1), (.ref r0)]))
    refine own_go (fun t_ kt_ => XS.iadd X0.here hx rfl (hb hby d2_9) rfl kt_) ?_
    show own_Go p e below s _ _ _ (s₁.setTop (mkF m 10 #[.val (.ref r0), .val (.int p1), .val (.int p2), .val (.long q3), .second, .val (.int p4), .val (.long q5), .second] [(.int (p1 + p2)), (.ref r0)]))
    refine own_go (fun t_ kt_ => XS.iconst X0.here hx rfl (hb hby d2_10) kt_) ?_
    show own_Go p e below s _ _ _ (s₁.setTop (mkF m 11 #[.val (.ref r0), .val (.int p1), .val (.int p2), .val (.long q3), .second, .val (.int p4), .val (.long q5), .second] [(.int (1 : Int32)), (.int (p1 + p2)), (.ref r0)]))
    refine own_go (fun t_ kt_ => XS.isub X0.here hx rfl (hb hby d2_11) rfl kt_) ?_
    show own_Go p e below s _ _ _ (s₁.setTop (mkF m 12 #[.val (.ref r0), .val (.int p1), .val (.int p2), .val (.long q3), .second, .val (.int p4), .val (.long q5), .second] [(.int ((p1 + p2) - (1 : Int32))), (.ref r0)]))
    refine own_go (fun t_ kt_ => XS.iload X0.here hx rfl (hb hby d2_12) rfl kt_) ?_
    show own_Go p e below s _ _ _ (s₁.setTop (mkF m 14 #[.val (.ref r0), .val (.int p1), .val (.int p2), .val (.long q3), .second, .val (.int p4), .val (.long q5), .second] [(.int p4), (.int ((p1 + p2) - (1 : Int32))), (.ref r0)]))
    refine own_go (fun t_ kt_ => XS.isub X0.here hx rfl (hb hby d2_14) rfl kt_) ?_
    show own_Go p e below s _ _ _ (s₁.setTop (mkF m 15 #[.val (.ref r0), .val (.int p1), .val (.int p2), .val (.long q3), .second, .val (.int p4), .val (.long q5), .second] [(.int (((p1 + p2) - (1 : Int32)) - p4)), (.ref r0)]))
    refine own_go (fun t_ kt_ => X0.ldc2Long hx hown (mvT hZ (hw _ (List.mem_of_getElem? (i := 27) rfl))) (g := (mkF m 15 #[.val (.ref r0), .val (.int p1), .val (.int p2), .val (.long q3), .second, .val (.int p4), .val (.long q5), .second] [(.int (((p1 + p2) - (1 : Int32)) - p4)), (.ref r0)])) rfl (hb hby d2_15) _ kt_) ?_
    show own_Go p e below s _ _ _ (s₁.setTop (mkF m 18 #[.val (.ref r0), .val (.int p1), .val (.int p2), .val (.long q3), .second, .val (.int p4), .val (.long q5), .second] [(.long (48 : Int64)), (.int (((p1 + p2) - (1 : Int32)) - p4)), (.ref r0)]))
    refine own_go (fun t_ kt_ => XS.lloadN X0.here hx rfl (hb hby d2_18) rfl kt_) ?_
    show own_Go p e below s _ _ _ (s₁.setTop (mkF m 19 #[.val (.ref r0), .val (.int p1), .val (.int p2), .val (.long q3), .second, .val (.int p4), .val (.long q5), .second] [(.long q3), (.long (48 : Int64)), (.int (((p1 + p2) - (1 : Int32)) - p4)), (.ref r0)]))
    refine own_go (fun t_ kt_ => XS.lload X0.here hx rfl (hb hby d2_19) rfl kt_) ?_
    show own_Go p e below s _ _ _ (s₁.setTop (mkF m 21 #[.val (.ref r0), .val (.int p1), .val (.int p2), .val (.long q3), .second, .val (.int p4), .val (.long q5), .second] [(.long q5), (.long q3), (.long (48 : Int64)), (.int (((p1 + p2) - (1 : Int32)) - p4)), (.ref r0)]))
    refine own_go (fun t_ kt_ => XS.ldiv X0.here hx rfl (hb hby d2_21) rfl (own_p0 (N := N) c5) kt_) ?_
    show own_Go p e below s _ _ _ (s₁.setTop (mkF m 22 #[.val (.ref r0), .val (.int p1), .val (.int p2), .val (.long q3), .second, .val (.int p4), .val (.long q5), .second] [(.long (q3 / q5)), (.long (48 : Int64)), (.int (((p1 + p2) - (1 : Int32)) - p4)), (.ref r0)]))
    refine own_go (fun t_ kt_ => X0.ldc2Long hx hown (mvT hZ (hw _ (List.mem_of_getElem? (i := 5) rfl))) (g := (mkF m 22 #[.val (.ref r0), .val (.int p1), .val (.int p2), .val (.long q3), .second, .val (.int p4), .val (.long q5), .second] [(.long (q3 / q5)), (.long (48 : Int64)), (.int (((p1 + p2) - (1 : Int32)) - p4)), (.ref r0)])) rfl (hb hby d2_22) _ kt_) ?_
    show own_Go p e below s _ _ _ (s₁.setTop (mkF m 25 #[.val (.ref r0), .val (.int p1), .val (.int p2), .val (.long q3), .second, .val (.int p4), .val (.long q5), .second] [(.long (10 : Int64)), (.long (q3 / q5)), (.long (48 : Int64)), (.int (((p1 + p2) - (1 : Int32)) - p4)), (.ref r0)]))
    refine own_go (fun t_ kt_ => own_lrem X0 hx rfl (hb hby d2_25) rfl (by decide) kt_) ?_
    show own_Go p e below s _ _ _ (s₁.setTop (mkF m 26 #[.val (.ref r0), .val (.int p1), .val (.int p2), .val (.long q3), .second, .val (.int p4), .val (.long q5), .second] [(.long ((q3 / q5) % (10 : Int64))), (.long (48 : Int64)), (.int (((p1 + p2) - (1 : Int32)) - p4)), (.ref r0)]))
    refine own_go (fun t_ kt_ => XS.ladd X0.here hx rfl (hb hby d2_26) rfl kt_) ?_
    show own_Go p e below s _ _ _ (s₁.setTop (mkF m 27 #[.val (.ref r0), .val (.int p1), .val (.int p2), .val (.long q3), .second, .val (.int p4), .val (.long q5), .second] [(.long ((48 : Int64) + ((q3 / q5) % (10 : Int64)))), (.int (((p1 + p2) - (1 : Int32)) - p4)), (.ref r0)]))
    refine own_go (fun t_ kt_ => XS.l2i X0.here hx rfl (hb hby d2_27) rfl kt_) ?_
    show own_Go p e below s _ _ _ (s₁.setTop (mkF m 28 #[.val (.ref r0), .val (.int p1), .val (.int p2), .val (.long q3), .second, .val (.int p4), .val (.long q5), .second] [(.int (((48 : Int64) + ((q3 / q5) % (10 : Int64))).toInt32)), (.int (((p1 + p2) - (1 : Int32)) - p4)), (.ref r0)]))
    refine own_go (fun t_ kt_ => XS.i2b X0.here hx rfl (hb hby d2_28) rfl kt_) ?_
    show own_Go p e below s _ _ _ (s₁.setTop (mkF m 29 #[.val (.ref r0), .val (.int p1), .val (.int p2), .val (.long q3), .second, .val (.int p4), .val (.long q5), .second] [(.int ((((48 : Int64) + ((q3 / q5) % (10 : Int64))).toInt32).toInt8.toInt32)), (.int (((p1 + p2) - (1 : Int32)) - p4)), (.ref r0)]))
    obtain ⟨ce1, Ar1, S1, G1⟩ := id A0
    obtain ⟨T1, h1, X1, e1, W1, st1⟩ := stB X0 hx hZ e0 Ar1 (j := (((p1 + p2) - (1 : Int32)) - p4)) (own_in (i := (ss + d - 1 - k)) S1 (by omega) (by omega)) (g := (mkF m 29 #[.val (.ref r0), .val (.int p1), .val (.int p2), .val (.long q3), .second, .val (.int p4), .val (.long q5), .second] [(.int ((((48 : Int64) + ((q3 / q5) % (10 : Int64))).toInt32).toInt8.toInt32)), (.int (((p1 + p2) - (1 : Int32)) - p4)), (.ref r0)])) rfl rfl (hb hby d2_29)
    rw [own_cl (j := (((p1 + p2) - (1 : Int32)) - p4)) (i := (ss + d - 1 - k)) (by omega)] at W1 X1
    refine own_go (fun t_ kt_ => st1 _ kt_) ?_
    have N1 := Fr.snoc X1 N0 g0
    obtain ⟨lo1, X1g, N1g⟩ : ∃ lo, Stand p l e ({ frames := 0, cells := 0, slots := 0, locals := 0 } : Room) s m #[(.ref r0), (.int p1), (.int p2), (.long q3), (.int p4), (.long q5)] below meth c T1 lo 0 0 ∧ Fr n0 lo := ⟨_, X1, N1⟩
    rw [(hv0 : nar .byte ((((48 : Int64) + ((q3 / q5) % (10 : Int64))).toInt32).toInt8.toInt32) = (own_dig N k))] at W1
    have ZZ_1 : n0 ≤ h1.size := Nat.le_trans Z0 (Nat.le_of_eq W1.size.symm)
    have V0_1 : own_Ary Z h1 r0 .byte 26 (own_set (fun j => .int (u j)) (ss + d - 1 - k) (.int (own_dig N k))) := own_Ary.set Ar1 S1 G1 W1
    have K1 : Keep h0 h1 [r0] := (Keep.refl h0 [r0]).wr W1 (Or.inl (by simp))
    show own_Go p e below s _ _ _ (T1.setTop (mkF m 30 #[.val (.ref r0), .val (.int p1), .val (.int p2), .val (.long q3), .second, .val (.int p4), .val (.long q5), .second] []))
    refine own_ret X1g (v := none) (fun _ => rfl) hlk ?_ (by decide) (by decide) (fun fs hr => X1g.returnOut hx hret (hb hby d2_30) hr)
    show Q2 Z r0 p1 p2 q3 p4 q5 u ss d N k h0 n0 (none) T1.heap _
    rw [e1]
    exact ⟨rfl, N1g, K1, own_upd u (ss + d - 1 - k) (own_dig N k), V0_1.congr (fun j _ => own_updS u _ _ j), fun _ => own_updY u _ _, fun j hj => own_updN u _ _ j (hj (by omega))⟩
  · skip
    have hi3 : ¬ p4.toInt < p2.toInt := fun q => hc3 (Int32.lt_iff_toInt_lt.mpr q)
    refine own_go (fun t_ kt_ => XS.icmpYes X0.here hx rfl (pc0 := 3) (pc' := 30) rfl (hb hby d2_3) rfl (flt hc3).2.1 (by decide) (by decide) kt_) ?_
    show own_Go p e below s _ _ _ (s₁.setTop (mkF m 30 #[.val (.ref r0), .val (.int p1), .val (.int p2), .val (.long q3), .second, .val (.int p4), .val (.long q5), .second] []))
    refine own_ret X0 (v := none) (fun _ => rfl) hlk ?_ (by decide) (by decide) (fun fs hr => X0.returnOut hx hret (hb hby d2_30) hr)
    show Q2 Z r0 p1 p2 q3 p4 q5 u ss d N k h0 n0 (none) s₁.heap _
    rw [e0]
    exact ⟨rfl, N0, Keep.refl _ _, u, A0, fun q => absurd q (by omega), fun _ _ => rfl⟩
theorem pn_1 : plainName "com/example/ledgerstrike/ledgerstrike/journal/JournalFormat" = true := by first | (simp [plainName, overriddenIn]; done) | decide +kernel
theorem d3_0 : decode prog_24_method_9_code 0 = .ok (.iconst 1, 1) := by decide +kernel
theorem d3_1 : decode prog_24_method_9_code 1 = .ok (.istore 5, 2) := by decide +kernel
theorem d3_3 : decode prog_24_method_9_code 3 = .ok (.lload_n 3, 1) := by decide +kernel
theorem d3_4 : decode prog_24_method_9_code 4 = .ok (.ldc2_w 94, 3) := by decide +kernel
theorem d3_7 : decode prog_24_method_9_code 7 = .ok (.ldiv, 1) := by decide +kernel
theorem d3_8 : decode prog_24_method_9_code 8 = .ok (.lstore 6, 2) := by decide +kernel
theorem d3_10 : decode prog_24_method_9_code 10 = .ok (.lload 6, 2) := by decide +kernel
theorem d3_12 : decode prog_24_method_9_code 12 = .ok (.lconst 0, 1) := by decide +kernel
theorem d3_13 : decode prog_24_method_9_code 13 = .ok (.lcmp, 1) := by decide +kernel
theorem d3_14 : decode prog_24_method_9_code 14 = .ok (.ifCond .le 17, 3) := by decide +kernel
theorem d3_17 : decode prog_24_method_9_code 17 = .ok (.iinc 5 1, 3) := by decide +kernel
theorem d3_20 : decode prog_24_method_9_code 20 = .ok (.lload 6, 2) := by decide +kernel
theorem d3_22 : decode prog_24_method_9_code 22 = .ok (.ldc2_w 94, 3) := by decide +kernel
theorem d3_25 : decode prog_24_method_9_code 25 = .ok (.ldiv, 1) := by decide +kernel
theorem d3_26 : decode prog_24_method_9_code 26 = .ok (.lstore 6, 2) := by decide +kernel
theorem d3_28 : decode prog_24_method_9_code 28 = .ok (.goto (-18), 3) := by decide +kernel
theorem d3_119 : decode prog_24_method_9_code 119 = .ok (.iload 6, 2) := by decide +kernel
theorem d3_121 : decode prog_24_method_9_code 121 = .ok (.ifCond .eq 12, 3) := by decide +kernel
theorem d3_133 : decode prog_24_method_9_code 133 = .ok (.iconst (-1), 1) := by decide +kernel
theorem d3_134 : decode prog_24_method_9_code 134 = .ok (.ireturn, 1) := by decide +kernel
theorem d3_124 : decode prog_24_method_9_code 124 = .ok (.iload_n 1, 1) := by decide +kernel
theorem d3_125 : decode prog_24_method_9_code 125 = .ok (.iload 5, 2) := by decide +kernel
theorem d3_127 : decode prog_24_method_9_code 127 = .ok (.iadd, 1) := by decide +kernel
theorem d3_128 : decode prog_24_method_9_code 128 = .ok (.iconst 1, 1) := by decide +kernel
theorem d3_129 : decode prog_24_method_9_code 129 = .ok (.iadd, 1) := by decide +kernel
theorem d3_130 : decode prog_24_method_9_code 130 = .ok (.goto 4, 3) := by decide +kernel
theorem d3_68 : decode prog_24_method_9_code 68 = .ok (.iload 6, 2) := by decide +kernel
theorem d3_70 : decode prog_24_method_9_code 70 = .ok (.ifCond .eq 49, 3) := by decide +kernel
theorem d3_73 : decode prog_24_method_9_code 73 = .ok (.iload 9, 2) := by decide +kernel
theorem d3_75 : decode prog_24_method_9_code 75 = .ok (.iload_n 1, 1) := by decide +kernel
theorem d3_76 : decode prog_24_method_9_code 76 = .ok (.if_icmp .lt 43, 3) := by decide +kernel
theorem d3_79 : decode prog_24_method_9_code 79 = .ok (.aload_n 0, 1) := by decide +kernel
theorem d3_80 : decode prog_24_method_9_code 80 = .ok (.iload 9, 2) := by decide +kernel
theorem d3_82 : decode prog_24_method_9_code 82 = .ok (.baload, 1) := by decide +kernel
theorem d3_83 : decode prog_24_method_9_code 83 = .ok (.i2l, 1) := by decide +kernel
theorem d3_84 : decode prog_24_method_9_code 84 = .ok (.ldc2_w 96, 3) := by decide +kernel
theorem d3_87 : decode prog_24_method_9_code 87 = .ok (.lload 7, 2) := by decide +kernel
theorem d3_89 : decode prog_24_method_9_code 89 = .ok (.ldc2_w 94, 3) := by decide +kernel
theorem d3_92 : decode prog_24_method_9_code 92 = .ok (.lrem, 1) := by decide +kernel
theorem d3_93 : decode prog_24_method_9_code 93 = .ok (.ladd, 1) := by decide +kernel
theorem d3_94 : decode prog_24_method_9_code 94 = .ok (.lcmp, 1) := by decide +kernel
theorem d3_95 : decode prog_24_method_9_code 95 = .ok (.ifCond .ne 7, 3) := by decide +kernel
theorem d3_98 : decode prog_24_method_9_code 98 = .ok (.iconst 1, 1) := by decide +kernel
theorem d3_99 : decode prog_24_method_9_code 99 = .ok (.goto 4, 3) := by decide +kernel
theorem d3_103 : decode prog_24_method_9_code 103 = .ok (.istore 6, 2) := by decide +kernel
theorem d3_105 : decode prog_24_method_9_code 105 = .ok (.lload 7, 2) := by decide +kernel
theorem d3_107 : decode prog_24_method_9_code 107 = .ok (.ldc2_w 94, 3) := by decide +kernel
theorem d3_110 : decode prog_24_method_9_code 110 = .ok (.ldiv, 1) := by decide +kernel
theorem d3_111 : decode prog_24_method_9_code 111 = .ok (.lstore 7, 2) := by decide +kernel
theorem d3_113 : decode prog_24_method_9_code 113 = .ok (.iinc 9 (-1), 3) := by decide +kernel
theorem d3_116 : decode prog_24_method_9_code 116 = .ok (.goto (-48), 3) := by decide +kernel
theorem d3_102 : decode prog_24_method_9_code 102 = .ok (.iconst 0, 1) := by decide +kernel
theorem d3_31 : decode prog_24_method_9_code 31 = .ok (.iload_n 1, 1) := by decide +kernel
theorem d3_32 : decode prog_24_method_9_code 32 = .ok (.iload 5, 2) := by decide +kernel
theorem d3_34 : decode prog_24_method_9_code 34 = .ok (.iadd, 1) := by decide +kernel
theorem d3_35 : decode prog_24_method_9_code 35 = .ok (.iload_n 2, 1) := by decide +kernel
theorem d3_36 : decode prog_24_method_9_code 36 = .ok (.if_icmp .ge 18, 3) := by decide +kernel
theorem d3_39 : decode prog_24_method_9_code 39 = .ok (.aload_n 0, 1) := by decide +kernel
theorem d3_40 : decode prog_24_method_9_code 40 = .ok (.iload_n 1, 1) := by decide +kernel
theorem d3_41 : decode prog_24_method_9_code 41 = .ok (.iload 5, 2) := by decide +kernel
theorem d3_43 : decode prog_24_method_9_code 43 = .ok (.iadd, 1) := by decide +kernel
theorem d3_44 : decode prog_24_method_9_code 44 = .ok (.baload, 1) := by decide +kernel
theorem d3_45 : decode prog_24_method_9_code 45 = .ok (.bipush 44, 2) := by decide +kernel
theorem d3_47 : decode prog_24_method_9_code 47 = .ok (.if_icmp .ne 7, 3) := by decide +kernel
theorem d3_50 : decode prog_24_method_9_code 50 = .ok (.iconst 1, 1) := by decide +kernel
theorem d3_51 : decode prog_24_method_9_code 51 = .ok (.goto 4, 3) := by decide +kernel
theorem d3_55 : decode prog_24_method_9_code 55 = .ok (.istore 6, 2) := by decide +kernel
theorem d3_57 : decode prog_24_method_9_code 57 = .ok (.lload_n 3, 1) := by decide +kernel
theorem d3_58 : decode prog_24_method_9_code 58 = .ok (.lstore 7, 2) := by decide +kernel
theorem d3_60 : decode prog_24_method_9_code 60 = .ok (.iload_n 1, 1) := by decide +kernel
theorem d3_61 : decode prog_24_method_9_code 61 = .ok (.iload 5, 2) := by decide +kernel
theorem d3_63 : decode prog_24_method_9_code 63 = .ok (.iadd, 1) := by decide +kernel
theorem d3_64 : decode prog_24_method_9_code 64 = .ok (.iconst 1, 1) := by decide +kernel
theorem d3_65 : decode prog_24_method_9_code 65 = .ok (.isub, 1) := by decide +kernel
theorem d3_66 : decode prog_24_method_9_code 66 = .ok (.istore 9, 2) := by decide +kernel
theorem d3_54 : decode prog_24_method_9_code 54 = .ok (.iconst 0, 1) := by decide +kernel
theorem ef_3 (m : MethodId) (r0 : Addr) (p1 : Int32) (p2 : Int32) (q3 : Int64) : entryFrame m #[(.ref r0), (.int p1), (.int p2), (.long q3)] 10 = mkF m 0 #[.val (.ref r0), .val (.int p1), .val (.int p2), .val (.long q3), .second, .unset, .unset, .unset, .unset, .unset] [] := by first | (simp [entryFrame, mkF, argsToLocals, Value.category]; done) | rfl
def Q3 (Z : State) (r0 : Addr) (p1 : Int32) (p2 : Int32) (q3 : Int64) (u : Nat → Int32) (ss : Nat) (d : Nat) (N : Nat) (h0 : Heap) (n0 : Nat) (v : Option Value) (h : Heap) (L : List Loc) : Prop := ∃ R : Int32, v = some (.int R) ∧ (((own_Ok u ss d N p2.toInt) ∧ R.toInt = ((ss + d + 1 : Nat) : Int)) ∨ (¬ (own_Ok u ss d N p2.toInt) ∧ R.toInt = -1)) ∧ Fr n0 L ∧ h = h0
set_option maxRecDepth 65536 in
set_option maxHeartbeats 40000000 in
theorem rm3 (l : Launch) (Z : State) (a0 : Array Value) (hw : ∀ d ∈ tables_1, d.before a0 Z = true) (ws : List Jvm.Cond) (r0 : Addr) (p1 : Int32) (p2 : Int32) (q3 : Int64) (u : Nat → Int32) (ss : Nat) (d : Nat) (N : Nat) (h0 : Heap) (n0 : Nat) (Z0 : n0 ≤ h0.size) (A0 : own_Ary Z h0 r0 .byte 26 (fun j => .int (u j))) (c1 : p1.toInt = (ss : Int)) (c3 : q3.toInt = (N : Int)) (c4 : ss ≤ 3) (c6 : own_Dg N d) (c7 : N < 10 ^ 19) (c8 : 1 ≤ d ∧ d ≤ 19) :
    MetFree l (⟨"com/example/ledgerstrike/ledgerstrike/journal/JournalFormat", "afterNumber", "([BIIJ)I"⟩ : MethodName) (head1 (Jvm.Cond.code (⟨"com/example/ledgerstrike/ledgerstrike/journal/JournalFormat", "afterNumber", "([BIIJ)I"⟩ : MethodName) prog_24_method_9_code 10 (some .int) :: ws) ({ frames := 0, cells := 0, slots := 0, locals := 0 } : Room)) (fun a U => a = #[(.ref r0), (.int p1), (.int p2), (.long q3)] ∧ Z.Warmed39 U.vm ∧ U.heap = h0) (fun _ _ _ _ _ => True) (fun _ U o U' => ∃ v L, o = .returned v ∧ Q3 Z r0 p1 p2 q3 u ss d N h0 n0 v U'.heap L ∧ FrameEnd U o U' L (({ frames := 0, cells := 0, slots := 0, locals := 0 } : Room)).cells (({ frames := 0, cells := 0, slots := 0, locals := 0 } : Room)).slots) := by
  refine MetFree.of_bodySF (plainFor_of_name pn_1) hisR ?_
  intro p e s m args below meth c s₁ Bd hml0 hP hK
  obtain ⟨rfl, hZ, hh⟩ := hP
  have hx := Bd.exec
  have hby := Bd.bytes
  have hml : c.maxLocals = 10 := hml0
  have hown : s.vm.findClass "com/example/ledgerstrike/ledgerstrike/journal/JournalFormat" = some m.cls := findClass_of_methodNamed Bd.named
  have hnm := (name_of_methodNamed Bd.named Bd.method).1
  have hlk : meth.locks = false := Bd.notSynchronized
  have X0 : Stand p l e ({ frames := 0, cells := 0, slots := 0, locals := 0 } : Room) s m #[(.ref r0), (.int p1), (.int p2), (.long q3)] below meth c s₁ [] 0 0 := Stand.of_body Bd
  have e0 : s₁.heap = h0 := by rw [← hh, Bd.state]; rfl
  have N0 := Fr.nil n0
  have hret := Bd.returns
  show own_Go p e below s (Q3 Z r0 p1 p2 q3 u ss d N h0 n0) _ _ (s₁.setTop (entryFrame m #[(.ref r0), (.int p1), (.int p2), (.long q3)] 10))
  refine own_go (fun t k => castTop (ef_3 m r0 p1 p2 q3) k) ?_
  show own_Go p e below s _ _ _ (s₁.setTop (mkF m 0 #[.val (.ref r0), .val (.int p1), .val (.int p2), .val (.long q3), .second, .unset, .unset, .unset, .unset, .unset] []))
  refine own_go (fun t_ kt_ => XS.iconst X0.here hx rfl (hb hby d3_0) kt_) ?_
  show own_Go p e below s _ _ _ (s₁.setTop (mkF m 1 #[.val (.ref r0), .val (.int p1), .val (.int p2), .val (.long q3), .second, .unset, .unset, .unset, .unset, .unset] [(.int (1 : Int32))]))
  refine own_go (fun t_ kt_ => XS.istore X0.here hx rfl (hb hby d3_1) rfl (l' := #[.val (.ref r0), .val (.int p1), .val (.int p2), .val (.long q3), .second, .val (.int (1 : Int32)), .unset, .unset, .unset, .unset]) rfl kt_) ?_
  show own_Go p e below s _ _ _ (s₁.setTop (mkF m 3 #[.val (.ref r0), .val (.int p1), .val (.int p2), .val (.long q3), .second, .val (.int (1 : Int32)), .unset, .unset, .unset, .unset] []))
  refine own_go (fun t_ kt_ => XS.lloadN X0.here hx rfl (hb hby d3_3) rfl kt_) ?_
  show own_Go p e below s _ _ _ (s₁.setTop (mkF m 4 #[.val (.ref r0), .val (.int p1), .val (.int p2), .val (.long q3), .second, .val (.int (1 : Int32)), .unset, .unset, .unset, .unset] [(.long q3)]))
  refine own_go (fun t_ kt_ => X0.ldc2Long hx hown (mvT hZ (hw _ (List.mem_of_getElem? (i := 32) rfl))) (g := (mkF m 4 #[.val (.ref r0), .val (.int p1), .val (.int p2), .val (.long q3), .second, .val (.int (1 : Int32)), .unset, .unset, .unset, .unset] [(.long q3)])) rfl (hb hby d3_4) _ kt_) ?_
  show own_Go p e below s _ _ _ (s₁.setTop (mkF m 7 #[.val (.ref r0), .val (.int p1), .val (.int p2), .val (.long q3), .second, .val (.int (1 : Int32)), .unset, .unset, .unset, .unset] [(.long (10 : Int64)), (.long q3)]))
  refine own_go (fun t_ kt_ => XS.ldiv X0.here hx rfl (hb hby d3_7) rfl (by decide) kt_) ?_
  show own_Go p e below s _ _ _ (s₁.setTop (mkF m 8 #[.val (.ref r0), .val (.int p1), .val (.int p2), .val (.long q3), .second, .val (.int (1 : Int32)), .unset, .unset, .unset, .unset] [(.long (q3 / (10 : Int64)))]))
  refine own_go (fun t_ kt_ => XS.lstore X0.here hx rfl (hb hby d3_8) rfl (l' := #[.val (.ref r0), .val (.int p1), .val (.int p2), .val (.long q3), .second, .val (.int (1 : Int32)), .val (.long (q3 / (10 : Int64))), .second, .unset, .unset]) rfl kt_) ?_
  show own_Go p e below s _ _ _ (s₁.setTop (mkF m 10 #[.val (.ref r0), .val (.int p1), .val (.int p2), .val (.long q3), .second, .val (.int (1 : Int32)), .val (.long (q3 / (10 : Int64))), .second, .unset, .unset] []))
  have J10 : ∀ (kk : Nat) (T1 : State) (locs1 : List Loc) (X1 : Stand p l e ({ frames := 0, cells := 0, slots := 0, locals := 0 } : Room) s m #[(.ref r0), (.int p1), (.int p2), (.long q3)] below meth c T1 locs1 0 0) (e1 : T1.heap = h0) (N1 : Fr n0 locs1) (sz : Int32) (rs : Int64) (k : Nat) (hsz : sz.toInt = ((k + 1 : Nat) : Int)) (hrs : rs.toInt = ((N / 10 ^ (k + 1) : Nat) : Int)) (hk : k ≤ 18 ∧ (k = 0 ∨ 10 ^ k ≤ N)) (hm : kk = 19 - k), own_Go p e below s (Q3 Z r0 p1 p2 q3 u ss d N h0 n0) (({ frames := 0, cells := 0, slots := 0, locals := 0 } : Room)).cells (({ frames := 0, cells := 0, slots := 0, locals := 0 } : Room)).slots (T1.setTop (mkF m 10 #[.val (.ref r0), .val (.int p1), .val (.int p2), .val (.long q3), .second, .val (.int sz), .val (.long rs), .second, .unset, .unset] [])) := by
    intro kk
    induction kk using Nat.strongRecOn with
    | ind kk ih =>
      intro T1 locs1 X1 e1 N1 sz rs k hsz hrs hk hm
      refine own_go (fun t_ kt_ => XS.lload X1.here hx rfl (hb hby d3_10) rfl kt_) ?_
      show own_Go p e below s _ _ _ (T1.setTop (mkF m 12 #[.val (.ref r0), .val (.int p1), .val (.int p2), .val (.long q3), .second, .val (.int sz), .val (.long rs), .second, .unset, .unset] [(.long rs)]))
      refine own_go (fun t_ kt_ => XS.lconst X1.here hx rfl (hb hby d3_12) kt_) ?_
      show own_Go p e below s _ _ _ (T1.setTop (mkF m 13 #[.val (.ref r0), .val (.int p1), .val (.int p2), .val (.long q3), .second, .val (.int sz), .val (.long rs), .second, .unset, .unset] [(.long (0 : Int64)), (.long rs)]))
      refine own_go (fun t_ kt_ => XS.lcmp X1.here hx rfl (hb hby d3_13) rfl kt_) ?_
      show own_Go p e below s _ _ _ (T1.setTop (mkF m 14 #[.val (.ref r0), .val (.int p1), .val (.int p2), .val (.long q3), .second, .val (.int sz), .val (.long rs), .second, .unset, .unset] [(.int (lcmpW rs (0 : Int64)))]))
      by_cases hc14 : (0 : Int64) < rs
      · skip
        have hi14 : 0 < rs.toInt := Int64.lt_iff_toInt_lt.mp hc14
        refine own_go (fun t_ kt_ => XS.ifNo X1.here hx rfl (hb hby d3_14) rfl ((if0 _ _).trans (tlt ((lw_gt rs (0 : Int64)).mpr hc14)).2.2.2) kt_) ?_
        show own_Go p e below s _ _ _ (T1.setTop (mkF m 17 #[.val (.ref r0), .val (.int p1), .val (.int p2), .val (.long q3), .second, .val (.int sz), .val (.long rs), .second, .unset, .unset] []))
        have hge : 10 ^ (k + 1) ≤ N := own_ge0 (by omega)
        refine own_go (fun t_ kt_ => XS.iinc X1.here hx rfl (hb hby d3_17) rfl (l' := #[.val (.ref r0), .val (.int p1), .val (.int p2), .val (.long q3), .second, .val (.int (sz + (1 : Int32))), .val (.long rs), .second, .unset, .unset]) rfl kt_) ?_
        show own_Go p e below s _ _ _ (T1.setTop (mkF m 20 #[.val (.ref r0), .val (.int p1), .val (.int p2), .val (.long q3), .second, .val (.int (sz + (1 : Int32))), .val (.long rs), .second, .unset, .unset] []))
        refine own_go (fun t_ kt_ => XS.lload X1.here hx rfl (hb hby d3_20) rfl kt_) ?_
        show own_Go p e below s _ _ _ (T1.setTop (mkF m 22 #[.val (.ref r0), .val (.int p1), .val (.int p2), .val (.long q3), .second, .val (.int (sz + (1 : Int32))), .val (.long rs), .second, .unset, .unset] [(.long rs)]))
        refine own_go (fun t_ kt_ => X1.ldc2Long hx hown (mvT hZ (hw _ (List.mem_of_getElem? (i := 32) rfl))) (g := (mkF m 22 #[.val (.ref r0), .val (.int p1), .val (.int p2), .val (.long q3), .second, .val (.int (sz + (1 : Int32))), .val (.long rs), .second, .unset, .unset] [(.long rs)])) rfl (hb hby d3_22) _ kt_) ?_
        show own_Go p e below s _ _ _ (T1.setTop (mkF m 25 #[.val (.ref r0), .val (.int p1), .val (.int p2), .val (.long q3), .second, .val (.int (sz + (1 : Int32))), .val (.long rs), .second, .unset, .unset] [(.long (10 : Int64)), (.long rs)]))
        refine own_go (fun t_ kt_ => XS.ldiv X1.here hx rfl (hb hby d3_25) rfl (by decide) kt_) ?_
        show own_Go p e below s _ _ _ (T1.setTop (mkF m 26 #[.val (.ref r0), .val (.int p1), .val (.int p2), .val (.long q3), .second, .val (.int (sz + (1 : Int32))), .val (.long rs), .second, .unset, .unset] [(.long (rs / (10 : Int64)))]))
        refine own_go (fun t_ kt_ => XS.lstore X1.here hx rfl (hb hby d3_26) rfl (l' := #[.val (.ref r0), .val (.int p1), .val (.int p2), .val (.long q3), .second, .val (.int (sz + (1 : Int32))), .val (.long (rs / (10 : Int64))), .second, .unset, .unset]) rfl kt_) ?_
        show own_Go p e below s _ _ _ (T1.setTop (mkF m 28 #[.val (.ref r0), .val (.int p1), .val (.int p2), .val (.long q3), .second, .val (.int (sz + (1 : Int32))), .val (.long (rs / (10 : Int64))), .second, .unset, .unset] []))
        refine own_go (fun t_ kt_ => XS.goto X1.here hx rfl (pc0 := 28) (pc' := 10) rfl (hb hby d3_28) (by decide) (by decide) kt_) ?_
        show own_Go p e below s _ _ _ (T1.setTop (mkF m 10 #[.val (.ref r0), .val (.int p1), .val (.int p2), .val (.long q3), .second, .val (.int (sz + (1 : Int32))), .val (.long (rs / (10 : Int64))), .second, .unset, .unset] []))
        exact ih (19 - (k + 1)) (by omega) T1 _ X1 e1 N1 ((sz + (1 : Int32))) ((rs / (10 : Int64))) ((k + 1))  (by have := own_plus hsz (show (1 : Int32).toInt = ((1 : Nat) : Int) from by decide) (by omega); omega) (by have := own_div10 hrs; rw [this, own_dd]) (⟨own_big hge c7, Or.inr hge⟩) (rfl)
      · skip
        have hi14 : ¬ 0 < rs.toInt := fun q => hc14 (Int64.lt_iff_toInt_lt.mpr q)
        refine own_go (fun t_ kt_ => XS.ifYes X1.here hx rfl (pc0 := 14) (pc' := 31) rfl (hb hby d3_14) rfl ((if0 _ _).trans (flt (fun q => hc14 ((lw_gt rs (0 : Int64)).mp q))).2.2.2) (by decide) (by decide) kt_) ?_
        show own_Go p e below s _ _ _ (T1.setTop (mkF m 31 #[.val (.ref r0), .val (.int p1), .val (.int p2), .val (.long q3), .second, .val (.int sz), .val (.long rs), .second, .unset, .unset] []))
        have hdd : k + 1 = d := own_Dg_uniq ⟨by omega, by omega, own_lt0 (by omega), by rcases hk.2 with q | q; exact Or.inl (by omega); exact Or.inr q⟩ c6
        have hsd : sz.toInt = (d : Int) := by omega
        have i1 := own_plus c1 hsd (by omega)
        have i2 := own_subI (x := (p1 + sz)) (y := 1) (by omega) (by decide)
        rw [own_l1] at i2
        have i3 := own_addI (x := (p1 + sz)) (y := 1) (by omega) (by decide)
        rw [own_l1] at i3
        have J119 : ∀ (T2 : State) (locs2 : List Loc) (X2 : Stand p l e ({ frames := 0, cells := 0, slots := 0, locals := 0 } : Room) s m #[(.ref r0), (.int p1), (.int p2), (.long q3)] below meth c T2 locs2 0 0) (e2 : T2.heap = h0) (N2 : Fr n0 locs2) (z : Int32) (vl : Int64) (ix : Int32) (hz : (z = 1 ∧ (own_Ok u ss d N p2.toInt)) ∨ (z = 0 ∧ ¬ (own_Ok u ss d N p2.toInt))), own_Go p e below s (Q3 Z r0 p1 p2 q3 u ss d N h0 n0) (({ frames := 0, cells := 0, slots := 0, locals := 0 } : Room)).cells (({ frames := 0, cells := 0, slots := 0, locals := 0 } : Room)).slots (T2.setTop (mkF m 119 #[.val (.ref r0), .val (.int p1), .val (.int p2), .val (.long q3), .second, .val (.int sz), .val (.int z), .val (.long vl), .second, .val (.int ix)] [])) := by
          intro T2 locs2 X2 e2 N2 z vl ix hz
          refine own_go (fun t_ kt_ => XS.iload X2.here hx rfl (hb hby d3_119) rfl kt_) ?_
          show own_Go p e below s _ _ _ (T2.setTop (mkF m 121 #[.val (.ref r0), .val (.int p1), .val (.int p2), .val (.long q3), .second, .val (.int sz), .val (.int z), .val (.long vl), .second, .val (.int ix)] [(.int z)]))
          by_cases hc121 : z = (0 : Int32)
          · skip
            have hi121 : z.toInt = 0 := congrArg Int32.toInt hc121
            refine own_go (fun t_ kt_ => XS.ifYes X2.here hx rfl (pc0 := 121) (pc' := 133) rfl (hb hby d3_121) rfl ((if0 _ _).trans (teq hc121).1) (by decide) (by decide) kt_) ?_
            show own_Go p e below s _ _ _ (T2.setTop (mkF m 133 #[.val (.ref r0), .val (.int p1), .val (.int p2), .val (.long q3), .second, .val (.int sz), .val (.int z), .val (.long vl), .second, .val (.int ix)] []))
            refine own_go (fun t_ kt_ => XS.iconst X2.here hx rfl (hb hby d3_133) kt_) ?_
            show own_Go p e below s _ _ _ (T2.setTop (mkF m 134 #[.val (.ref r0), .val (.int p1), .val (.int p2), .val (.long q3), .second, .val (.int sz), .val (.int z), .val (.long vl), .second, .val (.int ix)] [(.int (-1 : Int32))]))
            refine own_ret X2 (v := some (.int (-1 : Int32))) (fun h => by rw [hret] at h; cases h) hlk ?_ (by decide) (by decide) (fun fs hr => retI X2 hx hret (hb hby d3_134) hr)
            show Q3 Z r0 p1 p2 q3 u ss d N h0 n0 (some (.int (-1 : Int32))) T2.heap _
            rw [e2]
            refine ⟨_, rfl, ?_, N2, rfl⟩
            rcases hz with ⟨h1, h2⟩ | ⟨h1, h2⟩
            · first | exact Or.inl ⟨h2, by omega⟩ | exact absurd (h1.symm.trans hc121) (by decide)
            · first | exact Or.inr ⟨h2, by decide⟩ | exact absurd h1 hc121
          · skip
            have hi121 : ¬ z.toInt = 0 := fun q => hc121 (Int32.toInt_inj.mp q)
            refine own_go (fun t_ kt_ => XS.ifNo X2.here hx rfl (hb hby d3_121) rfl ((if0 _ _).trans (feq hc121).1) kt_) ?_
            show own_Go p e below s _ _ _ (T2.setTop (mkF m 124 #[.val (.ref r0), .val (.int p1), .val (.int p2), .val (.long q3), .second, .val (.int sz), .val (.int z), .val (.long vl), .second, .val (.int ix)] []))
            refine own_go (fun t_ kt_ => XS.iloadN X2.here hx rfl (hb hby d3_124) rfl kt_) ?_
            show own_Go p e below s _ _ _ (T2.setTop (mkF m 125 #[.val (.ref r0), .val (.int p1), .val (.int p2), .val (.long q3), .second, .val (.int sz), .val (.int z), .val (.long vl), .second, .val (.int ix)] [(.int p1)]))
            refine own_go (fun t_ kt_ => XS.iload X2.here hx rfl (hb hby d3_125) rfl kt_) ?_
            show own_Go p e below s _ _ _ (T2.setTop (mkF m 127 #[.val (.ref r0), .val (.int p1), .val (.int p2), .val (.long q3), .second, .val (.int sz), .val (.int z), .val (.long vl), .second, .val (.int ix)] [(.int sz), (.int p1)]))
            refine own_go (fun t_ kt_ => XS.iadd X2.here hx rfl (hb hby d3_127) rfl kt_) ?_
            show own_Go p e below s _ _ _ (T2.setTop (mkF m 128 #[.val (.ref r0), .val (.int p1), .val (.int p2), .val (.long q3), .second, .val (.int sz), .val (.int z), .val (.long vl), .second, .val (.int ix)] [(.int (p1 + sz))]))
            refine own_go (fun t_ kt_ => XS.iconst X2.here hx rfl (hb hby d3_128) kt_) ?_
            show own_Go p e below s _ _ _ (T2.setTop (mkF m 129 #[.val (.ref r0), .val (.int p1), .val (.int p2), .val (.long q3), .second, .val (.int sz), .val (.int z), .val (.long vl), .second, .val (.int ix)] [(.int (1 : Int32)), (.int (p1 + sz))]))
            refine own_go (fun t_ kt_ => XS.iadd X2.here hx rfl (hb hby d3_129) rfl kt_) ?_
            show own_Go p e below s _ _ _ (T2.setTop (mkF m 130 #[.val (.ref r0), .val (.int p1), .val (.int p2), .val (.long q3), .second, .val (.int sz), .val (.int z), .val (.long vl), .second, .val (.int ix)] [(.int ((p1 + sz) + (1 : Int32)))]))
            refine own_go (fun t_ kt_ => XS.goto X2.here hx rfl (pc0 := 130) (pc' := 134) rfl (hb hby d3_130) (by decide) (by decide) kt_) ?_
            show own_Go p e below s _ _ _ (T2.setTop (mkF m 134 #[.val (.ref r0), .val (.int p1), .val (.int p2), .val (.long q3), .second, .val (.int sz), .val (.int z), .val (.long vl), .second, .val (.int ix)] [(.int ((p1 + sz) + (1 : Int32)))]))
            refine own_ret X2 (v := some (.int ((p1 + sz) + (1 : Int32)))) (fun h => by rw [hret] at h; cases h) hlk ?_ (by decide) (by decide) (fun fs hr => retI X2 hx hret (hb hby d3_134) hr)
            show Q3 Z r0 p1 p2 q3 u ss d N h0 n0 (some (.int ((p1 + sz) + (1 : Int32)))) T2.heap _
            rw [e2]
            refine ⟨_, rfl, ?_, N2, rfl⟩
            rcases hz with ⟨h1, h2⟩ | ⟨h1, h2⟩
            · first | exact Or.inl ⟨h2, by omega⟩ | exact absurd (h1.symm.trans hc121) (by decide)
            · first | exact Or.inr ⟨h2, by decide⟩ | exact absurd h1 hc121
        have J68 : ∀ (kk2 : Nat) (T3 : State) (locs3 : List Loc) (X3 : Stand p l e ({ frames := 0, cells := 0, slots := 0, locals := 0 } : Room) s m #[(.ref r0), (.int p1), (.int p2), (.long q3)] below meth c T3 locs3 0 0) (e3 : T3.heap = h0) (N3 : Fr n0 locs3) (z : Int32) (vl : Int64) (ix : Int32) (kj : Nat) (hvl : vl.toInt = ((N / 10 ^ kj : Nat) : Int)) (hix : ix.toInt = ((ss + d : Nat) : Int) - 1 - (kj : Int)) (hz : (z = 1 ∧ ((ss + d : Nat) : Int) < p2.toInt ∧ u (ss + d) = (44 : Int32) ∧ ∀ j, j < kj → u (ss + d - 1 - j) = own_dig N j) ∨ (z = 0 ∧ ¬ (own_Ok u ss d N p2.toInt))) (hkj : kj ≤ d) (hm2 : kk2 = d - kj), own_Go p e below s (Q3 Z r0 p1 p2 q3 u ss d N h0 n0) (({ frames := 0, cells := 0, slots := 0, locals := 0 } : Room)).cells (({ frames := 0, cells := 0, slots := 0, locals := 0 } : Room)).slots (T3.setTop (mkF m 68 #[.val (.ref r0), .val (.int p1), .val (.int p2), .val (.long q3), .second, .val (.int sz), .val (.int z), .val (.long vl), .second, .val (.int ix)] [])) := by
          intro kk2
          induction kk2 using Nat.strongRecOn with
          | ind kk2 ih =>
            intro T3 locs3 X3 e3 N3 z vl ix kj hvl hix hz hkj hm2
            refine own_go (fun t_ kt_ => XS.iload X3.here hx rfl (hb hby d3_68) rfl kt_) ?_
            show own_Go p e below s _ _ _ (T3.setTop (mkF m 70 #[.val (.ref r0), .val (.int p1), .val (.int p2), .val (.long q3), .second, .val (.int sz), .val (.int z), .val (.long vl), .second, .val (.int ix)] [(.int z)]))
            by_cases hc70 : z = (0 : Int32)
            · skip
              have hi70 : z.toInt = 0 := congrArg Int32.toInt hc70
              refine own_go (fun t_ kt_ => XS.ifYes X3.here hx rfl (pc0 := 70) (pc' := 119) rfl (hb hby d3_70) rfl ((if0 _ _).trans (teq hc70).1) (by decide) (by decide) kt_) ?_
              show own_Go p e below s _ _ _ (T3.setTop (mkF m 119 #[.val (.ref r0), .val (.int p1), .val (.int p2), .val (.long q3), .second, .val (.int sz), .val (.int z), .val (.long vl), .second, .val (.int ix)] []))
              exact J119 T3 _ X3 e3 N3 (z) (vl) (ix)  (by first | exact Or.inl ⟨hz1, hz2, hz3, fun j hj => hz4 j (by omega)⟩ | (rcases hz with ⟨h1, -⟩ | h2; (exact absurd (h1.symm.trans hc70) (by decide)); exact Or.inr h2))
            · skip
              have hi70 : ¬ z.toInt = 0 := fun q => hc70 (Int32.toInt_inj.mp q)
              refine own_go (fun t_ kt_ => XS.ifNo X3.here hx rfl (hb hby d3_70) rfl ((if0 _ _).trans (feq hc70).1) kt_) ?_
              show own_Go p e below s _ _ _ (T3.setTop (mkF m 73 #[.val (.ref r0), .val (.int p1), .val (.int p2), .val (.long q3), .second, .val (.int sz), .val (.int z), .val (.long vl), .second, .val (.int ix)] []))
              obtain ⟨hz1, hz2, hz3, hz4⟩ : z = 1 ∧ ((ss + d : Nat) : Int) < p2.toInt ∧ u (ss + d) = (44 : Int32) ∧ ∀ j, j < kj → u (ss + d - 1 - j) = own_dig N j := by
                rcases hz with h | ⟨h1, -⟩
                · exact h
                · exact absurd h1 hc70
              refine own_go (fun t_ kt_ => XS.iload X3.here hx rfl (hb hby d3_73) rfl kt_) ?_
              show own_Go p e below s _ _ _ (T3.setTop (mkF m 75 #[.val (.ref r0), .val (.int p1), .val (.int p2), .val (.long q3), .second, .val (.int sz), .val (.int z), .val (.long vl), .second, .val (.int ix)] [(.int ix)]))
              refine own_go (fun t_ kt_ => XS.iloadN X3.here hx rfl (hb hby d3_75) rfl kt_) ?_
              show own_Go p e below s _ _ _ (T3.setTop (mkF m 76 #[.val (.ref r0), .val (.int p1), .val (.int p2), .val (.long q3), .second, .val (.int sz), .val (.int z), .val (.long vl), .second, .val (.int ix)] [(.int p1), (.int ix)]))
              by_cases hc76 : ix < p1
              · skip
                have hi76 : ix.toInt < p1.toInt := Int32.lt_iff_toInt_lt.mp hc76
                refine own_go (fun t_ kt_ => XS.icmpYes X3.here hx rfl (pc0 := 76) (pc' := 119) rfl (hb hby d3_76) rfl (tlt hc76).1 (by decide) (by decide) kt_) ?_
                show own_Go p e below s _ _ _ (T3.setTop (mkF m 119 #[.val (.ref r0), .val (.int p1), .val (.int p2), .val (.long q3), .second, .val (.int sz), .val (.int z), .val (.long vl), .second, .val (.int ix)] []))
                exact J119 T3 _ X3 e3 N3 (z) (vl) (ix)  (by first | exact Or.inl ⟨hz1, hz2, hz3, fun j hj => hz4 j (by omega)⟩ | (rcases hz with ⟨h1, -⟩ | h2; (exact absurd (h1.symm.trans hc70) (by decide)); exact Or.inr h2))
              · skip
                have hi76 : ¬ ix.toInt < p1.toInt := fun q => hc76 (Int32.lt_iff_toInt_lt.mpr q)
                refine own_go (fun t_ kt_ => XS.icmpNo X3.here hx rfl (hb hby d3_76) rfl (flt hc76).1 kt_) ?_
                show own_Go p e below s _ _ _ (T3.setTop (mkF m 79 #[.val (.ref r0), .val (.int p1), .val (.int p2), .val (.long q3), .second, .val (.int sz), .val (.int z), .val (.long vl), .second, .val (.int ix)] []))
                refine own_go (fun t_ kt_ => XS.aloadN X3.here hx rfl (hb hby d3_79) rfl rfl kt_) ?_
                show own_Go p e below s _ _ _ (T3.setTop (mkF m 80 #[.val (.ref r0), .val (.int p1), .val (.int p2), .val (.long q3), .second, .val (.int sz), .val (.int z), .val (.long vl), .second, .val (.int ix)] [(.ref r0)]))
                refine own_go (fun t_ kt_ => XS.iload X3.here hx rfl (hb hby d3_80) rfl kt_) ?_
                show own_Go p e below s _ _ _ (T3.setTop (mkF m 82 #[.val (.ref r0), .val (.int p1), .val (.int p2), .val (.long q3), .second, .val (.int sz), .val (.int z), .val (.long vl), .second, .val (.int ix)] [(.int ix), (.ref r0)]))
                obtain ⟨ce4, Ar4, S4, G4⟩ := id A0
                have q4 : ce4.slots[(ix).toNatClampNeg]? = some (.int (u (ss + d - 1 - kj))) := by rw [own_cl (j := ix) (i := (ss + d - 1 - kj)) (by omega)]; exact (G4 _ (by omega)).trans (congrArg some (rfl))
                refine own_go (fun t_ kt_ => X3.baloadBytes hx (j := ix) (v := (.int (u (ss + d - 1 - kj)))) (by rw [e3]; exact Ar4.1) (State.isArrayOf_alike hZ.alike Ar4.2.1) Ar4.2.2 (own_in (i := (ss + d - 1 - kj)) S4 (by omega) (by omega)) q4 (g := (mkF m 82 #[.val (.ref r0), .val (.int p1), .val (.int p2), .val (.long q3), .second, .val (.int sz), .val (.int z), .val (.long vl), .second, .val (.int ix)] [(.int ix), (.ref r0)])) rfl rfl (hb hby d3_82) _ kt_) ?_
                show own_Go p e below s _ _ _ (T3.setTop (mkF m 83 #[.val (.ref r0), .val (.int p1), .val (.int p2), .val (.long q3), .second, .val (.int sz), .val (.int z), .val (.long vl), .second, .val (.int ix)] [(.int (u (ss + d - 1 - kj)))]))
                refine own_go (fun t_ kt_ => XS.i2l X3.here hx rfl (hb hby d3_83) rfl kt_) ?_
                show own_Go p e below s _ _ _ (T3.setTop (mkF m 84 #[.val (.ref r0), .val (.int p1), .val (.int p2), .val (.long q3), .second, .val (.int sz), .val (.int z), .val (.long vl), .second, .val (.int ix)] [(.long ((u (ss + d - 1 - kj)).toInt64))]))
                refine own_go (fun t_ kt_ => X3.ldc2Long hx hown (mvT hZ (hw _ (List.mem_of_getElem? (i := 33) rfl))) (g := (mkF m 84 #[.val (.ref r0), .val (.int p1), .val (.int p2), .val (.long q3), .second, .val (.int sz), .val (.int z), .val (.long vl), .second, .val (.int ix)] [(.long ((u (ss + d - 1 - kj)).toInt64))])) rfl (hb hby d3_84) _ kt_) ?_
                show own_Go p e below s _ _ _ (T3.setTop (mkF m 87 #[.val (.ref r0), .val (.int p1), .val (.int p2), .val (.long q3), .second, .val (.int sz), .val (.int z), .val (.long vl), .second, .val (.int ix)] [(.long (48 : Int64)), (.long ((u (ss + d - 1 - kj)).toInt64))]))
                refine own_go (fun t_ kt_ => XS.lload X3.here hx rfl (hb hby d3_87) rfl kt_) ?_
                show own_Go p e below s _ _ _ (T3.setTop (mkF m 89 #[.val (.ref r0), .val (.int p1), .val (.int p2), .val (.long q3), .second, .val (.int sz), .val (.int z), .val (.long vl), .second, .val (.int ix)] [(.long vl), (.long (48 : Int64)), (.long ((u (ss + d - 1 - kj)).toInt64))]))
                refine own_go (fun t_ kt_ => X3.ldc2Long hx hown (mvT hZ (hw _ (List.mem_of_getElem? (i := 32) rfl))) (g := (mkF m 89 #[.val (.ref r0), .val (.int p1), .val (.int p2), .val (.long q3), .second, .val (.int sz), .val (.int z), .val (.long vl), .second, .val (.int ix)] [(.long vl), (.long (48 : Int64)), (.long ((u (ss + d - 1 - kj)).toInt64))])) rfl (hb hby d3_89) _ kt_) ?_
                show own_Go p e below s _ _ _ (T3.setTop (mkF m 92 #[.val (.ref r0), .val (.int p1), .val (.int p2), .val (.long q3), .second, .val (.int sz), .val (.int z), .val (.long vl), .second, .val (.int ix)] [(.long (10 : Int64)), (.long vl), (.long (48 : Int64)), (.long ((u (ss + d - 1 - kj)).toInt64))]))
                refine own_go (fun t_ kt_ => own_lrem X3 hx rfl (hb hby d3_92) rfl (by decide) kt_) ?_
                show own_Go p e below s _ _ _ (T3.setTop (mkF m 93 #[.val (.ref r0), .val (.int p1), .val (.int p2), .val (.long q3), .second, .val (.int sz), .val (.int z), .val (.long vl), .second, .val (.int ix)] [(.long (vl % (10 : Int64))), (.long (48 : Int64)), (.long ((u (ss + d - 1 - kj)).toInt64))]))
                refine own_go (fun t_ kt_ => XS.ladd X3.here hx rfl (hb hby d3_93) rfl kt_) ?_
                show own_Go p e below s _ _ _ (T3.setTop (mkF m 94 #[.val (.ref r0), .val (.int p1), .val (.int p2), .val (.long q3), .second, .val (.int sz), .val (.int z), .val (.long vl), .second, .val (.int ix)] [(.long ((48 : Int64) + (vl % (10 : Int64)))), (.long ((u (ss + d - 1 - kj)).toInt64))]))
                refine own_go (fun t_ kt_ => XS.lcmp X3.here hx rfl (hb hby d3_94) rfl kt_) ?_
                show own_Go p e below s _ _ _ (T3.setTop (mkF m 95 #[.val (.ref r0), .val (.int p1), .val (.int p2), .val (.long q3), .second, .val (.int sz), .val (.int z), .val (.long vl), .second, .val (.int ix)] [(.int (lcmpW ((u (ss + d - 1 - kj)).toInt64) ((48 : Int64) + (vl % (10 : Int64)))))]))
                by_cases hc95 : ((u (ss + d - 1 - kj)).toInt64) = ((48 : Int64) + (vl % (10 : Int64)))
                · skip
                  have hi95 : (((u (ss + d - 1 - kj)).toInt64)).toInt = (((48 : Int64) + (vl % (10 : Int64)))).toInt := congrArg Int64.toInt hc95
                  refine own_go (fun t_ kt_ => XS.ifNo X3.here hx rfl (hb hby d3_95) rfl ((if0 _ _).trans (teq ((lw_eq ((u (ss + d - 1 - kj)).toInt64) ((48 : Int64) + (vl % (10 : Int64)))).mpr hc95)).2) kt_) ?_
                  show own_Go p e below s _ _ _ (T3.setTop (mkF m 98 #[.val (.ref r0), .val (.int p1), .val (.int p2), .val (.long q3), .second, .val (.int sz), .val (.int z), .val (.long vl), .second, .val (.int ix)] []))
                  refine own_go (fun t_ kt_ => XS.iconst X3.here hx rfl (hb hby d3_98) kt_) ?_
                  show own_Go p e below s _ _ _ (T3.setTop (mkF m 99 #[.val (.ref r0), .val (.int p1), .val (.int p2), .val (.long q3), .second, .val (.int sz), .val (.int z), .val (.long vl), .second, .val (.int ix)] [(.int (1 : Int32))]))
                  refine own_go (fun t_ kt_ => XS.goto X3.here hx rfl (pc0 := 99) (pc' := 103) rfl (hb hby d3_99) (by decide) (by decide) kt_) ?_
                  show own_Go p e below s _ _ _ (T3.setTop (mkF m 103 #[.val (.ref r0), .val (.int p1), .val (.int p2), .val (.long q3), .second, .val (.int sz), .val (.int z), .val (.long vl), .second, .val (.int ix)] [(.int (1 : Int32))]))
                  refine own_go (fun t_ kt_ => XS.istore X3.here hx rfl (hb hby d3_103) rfl (l' := #[.val (.ref r0), .val (.int p1), .val (.int p2), .val (.long q3), .second, .val (.int sz), .val (.int (1 : Int32)), .val (.long vl), .second, .val (.int ix)]) rfl kt_) ?_
                  show own_Go p e below s _ _ _ (T3.setTop (mkF m 105 #[.val (.ref r0), .val (.int p1), .val (.int p2), .val (.long q3), .second, .val (.int sz), .val (.int (1 : Int32)), .val (.long vl), .second, .val (.int ix)] []))
                  refine own_go (fun t_ kt_ => XS.lload X3.here hx rfl (hb hby d3_105) rfl kt_) ?_
                  show own_Go p e below s _ _ _ (T3.setTop (mkF m 107 #[.val (.ref r0), .val (.int p1), .val (.int p2), .val (.long q3), .second, .val (.int sz), .val (.int (1 : Int32)), .val (.long vl), .second, .val (.int ix)] [(.long vl)]))
                  refine own_go (fun t_ kt_ => X3.ldc2Long hx hown (mvT hZ (hw _ (List.mem_of_getElem? (i := 32) rfl))) (g := (mkF m 107 #[.val (.ref r0), .val (.int p1), .val (.int p2), .val (.long q3), .second, .val (.int sz), .val (.int (1 : Int32)), .val (.long vl), .second, .val (.int ix)] [(.long vl)])) rfl (hb hby d3_107) _ kt_) ?_
                  show own_Go p e below s _ _ _ (T3.setTop (mkF m 110 #[.val (.ref r0), .val (.int p1), .val (.int p2), .val (.long q3), .second, .val (.int sz), .val (.int (1 : Int32)), .val (.long vl), .second, .val (.int ix)] [(.long (10 : Int64)), (.long vl)]))
                  refine own_go (fun t_ kt_ => XS.ldiv X3.here hx rfl (hb hby d3_110) rfl (by decide) kt_) ?_
                  show own_Go p e below s _ _ _ (T3.setTop (mkF m 111 #[.val (.ref r0), .val (.int p1), .val (.int p2), .val (.long q3), .second, .val (.int sz), .val (.int (1 : Int32)), .val (.long vl), .second, .val (.int ix)] [(.long (vl / (10 : Int64)))]))
                  refine own_go (fun t_ kt_ => XS.lstore X3.here hx rfl (hb hby d3_111) rfl (l' := #[.val (.ref r0), .val (.int p1), .val (.int p2), .val (.long q3), .second, .val (.int sz), .val (.int (1 : Int32)), .val (.long (vl / (10 : Int64))), .second, .val (.int ix)]) rfl kt_) ?_
                  show own_Go p e below s _ _ _ (T3.setTop (mkF m 113 #[.val (.ref r0), .val (.int p1), .val (.int p2), .val (.long q3), .second, .val (.int sz), .val (.int (1 : Int32)), .val (.long (vl / (10 : Int64))), .second, .val (.int ix)] []))
                  refine own_go (fun t_ kt_ => XS.iinc X3.here hx rfl (hb hby d3_113) rfl (l' := #[.val (.ref r0), .val (.int p1), .val (.int p2), .val (.long q3), .second, .val (.int sz), .val (.int (1 : Int32)), .val (.long (vl / (10 : Int64))), .second, .val (.int (ix + Int32.ofInt (-1)))]) rfl kt_) ?_
                  show own_Go p e below s _ _ _ (T3.setTop (mkF m 116 #[.val (.ref r0), .val (.int p1), .val (.int p2), .val (.long q3), .second, .val (.int sz), .val (.int (1 : Int32)), .val (.long (vl / (10 : Int64))), .second, .val (.int (ix + Int32.ofInt (-1)))] []))
                  refine own_go (fun t_ kt_ => XS.goto X3.here hx rfl (pc0 := 116) (pc' := 68) rfl (hb hby d3_116) (by decide) (by decide) kt_) ?_
                  show own_Go p e below s _ _ _ (T3.setTop (mkF m 68 #[.val (.ref r0), .val (.int p1), .val (.int p2), .val (.long q3), .second, .val (.int sz), .val (.int (1 : Int32)), .val (.long (vl / (10 : Int64))), .second, .val (.int (ix + Int32.ofInt (-1)))] []))
                  exact ih (d - (kj + 1)) (by omega) T3 _ X3 e3 N3 ((1 : Int32)) ((vl / (10 : Int64))) ((ix + Int32.ofInt (-1))) ((kj + 1))  (by have := own_div10 hvl; rw [this, own_dd]) ((own_dec hix (by omega)).trans (by omega)) (by first | exact Or.inl ⟨rfl, hz2, hz3, own_up (P := fun j => u (ss + d - 1 - j) = own_dig N j) hz4 ((own_cmp hvl).mp hc95)⟩ | exact Or.inr ⟨rfl, fun q => hc95 ((own_cmp hvl).mpr (q.2.2 kj (by omega)))⟩) (by omega) (rfl)
                · skip
                  have hi95 : ¬ (((u (ss + d - 1 - kj)).toInt64)).toInt = (((48 : Int64) + (vl % (10 : Int64)))).toInt := fun q => hc95 (Int64.toInt_inj.mp q)
                  refine own_go (fun t_ kt_ => XS.ifYes X3.here hx rfl (pc0 := 95) (pc' := 102) rfl (hb hby d3_95) rfl ((if0 _ _).trans (feq (fun q => hc95 ((lw_eq ((u (ss + d - 1 - kj)).toInt64) ((48 : Int64) + (vl % (10 : Int64)))).mp q))).2) (by decide) (by decide) kt_) ?_
                  show own_Go p e below s _ _ _ (T3.setTop (mkF m 102 #[.val (.ref r0), .val (.int p1), .val (.int p2), .val (.long q3), .second, .val (.int sz), .val (.int z), .val (.long vl), .second, .val (.int ix)] []))
                  refine own_go (fun t_ kt_ => XS.iconst X3.here hx rfl (hb hby d3_102) kt_) ?_
                  show own_Go p e below s _ _ _ (T3.setTop (mkF m 103 #[.val (.ref r0), .val (.int p1), .val (.int p2), .val (.long q3), .second, .val (.int sz), .val (.int z), .val (.long vl), .second, .val (.int ix)] [(.int (0 : Int32))]))
                  refine own_go (fun t_ kt_ => XS.istore X3.here hx rfl (hb hby d3_103) rfl (l' := #[.val (.ref r0), .val (.int p1), .val (.int p2), .val (.long q3), .second, .val (.int sz), .val (.int (0 : Int32)), .val (.long vl), .second, .val (.int ix)]) rfl kt_) ?_
                  show own_Go p e below s _ _ _ (T3.setTop (mkF m 105 #[.val (.ref r0), .val (.int p1), .val (.int p2), .val (.long q3), .second, .val (.int sz), .val (.int (0 : Int32)), .val (.long vl), .second, .val (.int ix)] []))
                  refine own_go (fun t_ kt_ => XS.lload X3.here hx rfl (hb hby d3_105) rfl kt_) ?_
                  show own_Go p e below s _ _ _ (T3.setTop (mkF m 107 #[.val (.ref r0), .val (.int p1), .val (.int p2), .val (.long q3), .second, .val (.int sz), .val (.int (0 : Int32)), .val (.long vl), .second, .val (.int ix)] [(.long vl)]))
                  refine own_go (fun t_ kt_ => X3.ldc2Long hx hown (mvT hZ (hw _ (List.mem_of_getElem? (i := 32) rfl))) (g := (mkF m 107 #[.val (.ref r0), .val (.int p1), .val (.int p2), .val (.long q3), .second, .val (.int sz), .val (.int (0 : Int32)), .val (.long vl), .second, .val (.int ix)] [(.long vl)])) rfl (hb hby d3_107) _ kt_) ?_
                  show own_Go p e below s _ _ _ (T3.setTop (mkF m 110 #[.val (.ref r0), .val (.int p1), .val (.int p2), .val (.long q3), .second, .val (.int sz), .val (.int (0 : Int32)), .val (.long vl), .second, .val (.int ix)] [(.long (10 : Int64)), (.long vl)]))
                  refine own_go (fun t_ kt_ => XS.ldiv X3.here hx rfl (hb hby d3_110) rfl (by decide) kt_) ?_
                  show own_Go p e below s _ _ _ (T3.setTop (mkF m 111 #[.val (.ref r0), .val (.int p1), .val (.int p2), .val (.long q3), .second, .val (.int sz), .val (.int (0 : Int32)), .val (.long vl), .second, .val (.int ix)] [(.long (vl / (10 : Int64)))]))
                  refine own_go (fun t_ kt_ => XS.lstore X3.here hx rfl (hb hby d3_111) rfl (l' := #[.val (.ref r0), .val (.int p1), .val (.int p2), .val (.long q3), .second, .val (.int sz), .val (.int (0 : Int32)), .val (.long (vl / (10 : Int64))), .second, .val (.int ix)]) rfl kt_) ?_
                  show own_Go p e below s _ _ _ (T3.setTop (mkF m 113 #[.val (.ref r0), .val (.int p1), .val (.int p2), .val (.long q3), .second, .val (.int sz), .val (.int (0 : Int32)), .val (.long (vl / (10 : Int64))), .second, .val (.int ix)] []))
                  refine own_go (fun t_ kt_ => XS.iinc X3.here hx rfl (hb hby d3_113) rfl (l' := #[.val (.ref r0), .val (.int p1), .val (.int p2), .val (.long q3), .second, .val (.int sz), .val (.int (0 : Int32)), .val (.long (vl / (10 : Int64))), .second, .val (.int (ix + Int32.ofInt (-1)))]) rfl kt_) ?_
                  show own_Go p e below s _ _ _ (T3.setTop (mkF m 116 #[.val (.ref r0), .val (.int p1), .val (.int p2), .val (.long q3), .second, .val (.int sz), .val (.int (0 : Int32)), .val (.long (vl / (10 : Int64))), .second, .val (.int (ix + Int32.ofInt (-1)))] []))
                  refine own_go (fun t_ kt_ => XS.goto X3.here hx rfl (pc0 := 116) (pc' := 68) rfl (hb hby d3_116) (by decide) (by decide) kt_) ?_
                  show own_Go p e below s _ _ _ (T3.setTop (mkF m 68 #[.val (.ref r0), .val (.int p1), .val (.int p2), .val (.long q3), .second, .val (.int sz), .val (.int (0 : Int32)), .val (.long (vl / (10 : Int64))), .second, .val (.int (ix + Int32.ofInt (-1)))] []))
                  exact ih (d - (kj + 1)) (by omega) T3 _ X3 e3 N3 ((0 : Int32)) ((vl / (10 : Int64))) ((ix + Int32.ofInt (-1))) ((kj + 1))  (by have := own_div10 hvl; rw [this, own_dd]) ((own_dec hix (by omega)).trans (by omega)) (by first | exact Or.inl ⟨rfl, hz2, hz3, own_up (P := fun j => u (ss + d - 1 - j) = own_dig N j) hz4 ((own_cmp hvl).mp hc95)⟩ | exact Or.inr ⟨rfl, fun q => hc95 ((own_cmp hvl).mpr (q.2.2 kj (by omega)))⟩) (by omega) (rfl)
        refine own_go (fun t_ kt_ => XS.iloadN X1.here hx rfl (hb hby d3_31) rfl kt_) ?_
        show own_Go p e below s _ _ _ (T1.setTop (mkF m 32 #[.val (.ref r0), .val (.int p1), .val (.int p2), .val (.long q3), .second, .val (.int sz), .val (.long rs), .second, .unset, .unset] [(.int p1)]))
        refine own_go (fun t_ kt_ => XS.iload X1.here hx rfl (hb hby d3_32) rfl kt_) ?_
        show own_Go p e below s _ _ _ (T1.setTop (mkF m 34 #[.val (.ref r0), .val (.int p1), .val (.int p2), .val (.long q3), .second, .val (.int sz), .val (.long rs), .second, .unset, .unset] [(.int sz), (.int p1)]))
        refine own_go (fun t_ kt_ => XS.iadd X1.here hx rfl (hb hby d3_34) rfl kt_) ?_
        show own_Go p e below s _ _ _ (T1.setTop (mkF m 35 #[.val (.ref r0), .val (.int p1), .val (.int p2), .val (.long q3), .second, .val (.int sz), .val (.long rs), .second, .unset, .unset] [(.int (p1 + sz))]))
        refine own_go (fun t_ kt_ => XS.iloadN X1.here hx rfl (hb hby d3_35) rfl kt_) ?_
        show own_Go p e below s _ _ _ (T1.setTop (mkF m 36 #[.val (.ref r0), .val (.int p1), .val (.int p2), .val (.long q3), .second, .val (.int sz), .val (.long rs), .second, .unset, .unset] [(.int p2), (.int (p1 + sz))]))
        by_cases hc36 : (p1 + sz) < p2
        · skip
          have hi36 : ((p1 + sz)).toInt < p2.toInt := Int32.lt_iff_toInt_lt.mp hc36
          refine own_go (fun t_ kt_ => XS.icmpNo X1.here hx rfl (hb hby d3_36) rfl (tlt hc36).2.1 kt_) ?_
          show own_Go p e below s _ _ _ (T1.setTop (mkF m 39 #[.val (.ref r0), .val (.int p1), .val (.int p2), .val (.long q3), .second, .val (.int sz), .val (.long rs), .second, .unset, .unset] []))
          refine own_go (fun t_ kt_ => XS.aloadN X1.here hx rfl (hb hby d3_39) rfl rfl kt_) ?_
          show own_Go p e below s _ _ _ (T1.setTop (mkF m 40 #[.val (.ref r0), .val (.int p1), .val (.int p2), .val (.long q3), .second, .val (.int sz), .val (.long rs), .second, .unset, .unset] [(.ref r0)]))
          refine own_go (fun t_ kt_ => XS.iloadN X1.here hx rfl (hb hby d3_40) rfl kt_) ?_
          show own_Go p e below s _ _ _ (T1.setTop (mkF m 41 #[.val (.ref r0), .val (.int p1), .val (.int p2), .val (.long q3), .second, .val (.int sz), .val (.long rs), .second, .unset, .unset] [(.int p1), (.ref r0)]))
          refine own_go (fun t_ kt_ => XS.iload X1.here hx rfl (hb hby d3_41) rfl kt_) ?_
          show own_Go p e below s _ _ _ (T1.setTop (mkF m 43 #[.val (.ref r0), .val (.int p1), .val (.int p2), .val (.long q3), .second, .val (.int sz), .val (.long rs), .second, .unset, .unset] [(.int sz), (.int p1), (.ref r0)]))
          refine own_go (fun t_ kt_ => XS.iadd X1.here hx rfl (hb hby d3_43) rfl kt_) ?_
          show own_Go p e below s _ _ _ (T1.setTop (mkF m 44 #[.val (.ref r0), .val (.int p1), .val (.int p2), .val (.long q3), .second, .val (.int sz), .val (.long rs), .second, .unset, .unset] [(.int (p1 + sz)), (.ref r0)]))
          obtain ⟨ce5, Ar5, S5, G5⟩ := id A0
          have q5 : ce5.slots[((p1 + sz)).toNatClampNeg]? = some (.int (u (ss + d))) := by rw [own_cl (j := (p1 + sz)) (i := (ss + d)) i1]; exact (G5 _ (by omega)).trans (congrArg some (rfl))
          refine own_go (fun t_ kt_ => X1.baloadBytes hx (j := (p1 + sz)) (v := (.int (u (ss + d)))) (by rw [e1]; exact Ar5.1) (State.isArrayOf_alike hZ.alike Ar5.2.1) Ar5.2.2 (own_in (i := (ss + d)) S5 i1 (by omega)) q5 (g := (mkF m 44 #[.val (.ref r0), .val (.int p1), .val (.int p2), .val (.long q3), .second, .val (.int sz), .val (.long rs), .second, .unset, .unset] [(.int (p1 + sz)), (.ref r0)])) rfl rfl (hb hby d3_44) _ kt_) ?_
          show own_Go p e below s _ _ _ (T1.setTop (mkF m 45 #[.val (.ref r0), .val (.int p1), .val (.int p2), .val (.long q3), .second, .val (.int sz), .val (.long rs), .second, .unset, .unset] [(.int (u (ss + d)))]))
          refine own_go (fun t_ kt_ => XS.bipush X1.here hx rfl (hb hby d3_45) kt_) ?_
          show own_Go p e below s _ _ _ (T1.setTop (mkF m 47 #[.val (.ref r0), .val (.int p1), .val (.int p2), .val (.long q3), .second, .val (.int sz), .val (.long rs), .second, .unset, .unset] [(.int (44 : Int32)), (.int (u (ss + d)))]))
          by_cases hc47 : (u (ss + d)) = (44 : Int32)
          · skip
            have hi47 : ((u (ss + d))).toInt = 44 := congrArg Int32.toInt hc47
            refine own_go (fun t_ kt_ => XS.icmpNo X1.here hx rfl (hb hby d3_47) rfl (teq hc47).2 kt_) ?_
            show own_Go p e below s _ _ _ (T1.setTop (mkF m 50 #[.val (.ref r0), .val (.int p1), .val (.int p2), .val (.long q3), .second, .val (.int sz), .val (.long rs), .second, .unset, .unset] []))
            refine own_go (fun t_ kt_ => XS.iconst X1.here hx rfl (hb hby d3_50) kt_) ?_
            show own_Go p e below s _ _ _ (T1.setTop (mkF m 51 #[.val (.ref r0), .val (.int p1), .val (.int p2), .val (.long q3), .second, .val (.int sz), .val (.long rs), .second, .unset, .unset] [(.int (1 : Int32))]))
            refine own_go (fun t_ kt_ => XS.goto X1.here hx rfl (pc0 := 51) (pc' := 55) rfl (hb hby d3_51) (by decide) (by decide) kt_) ?_
            show own_Go p e below s _ _ _ (T1.setTop (mkF m 55 #[.val (.ref r0), .val (.int p1), .val (.int p2), .val (.long q3), .second, .val (.int sz), .val (.long rs), .second, .unset, .unset] [(.int (1 : Int32))]))
            refine own_go (fun t_ kt_ => XS.istore X1.here hx rfl (hb hby d3_55) rfl (l' := #[.val (.ref r0), .val (.int p1), .val (.int p2), .val (.long q3), .second, .val (.int sz), .val (.int (1 : Int32)), .unset, .unset, .unset]) rfl kt_) ?_
            show own_Go p e below s _ _ _ (T1.setTop (mkF m 57 #[.val (.ref r0), .val (.int p1), .val (.int p2), .val (.long q3), .second, .val (.int sz), .val (.int (1 : Int32)), .unset, .unset, .unset] []))
            refine own_go (fun t_ kt_ => XS.lloadN X1.here hx rfl (hb hby d3_57) rfl kt_) ?_
            show own_Go p e below s _ _ _ (T1.setTop (mkF m 58 #[.val (.ref r0), .val (.int p1), .val (.int p2), .val (.long q3), .second, .val (.int sz), .val (.int (1 : Int32)), .unset, .unset, .unset] [(.long q3)]))
            refine own_go (fun t_ kt_ => XS.lstore X1.here hx rfl (hb hby d3_58) rfl (l' := #[.val (.ref r0), .val (.int p1), .val (.int p2), .val (.long q3), .second, .val (.int sz), .val (.int (1 : Int32)), .val (.long q3), .second, .unset]) rfl kt_) ?_
            show own_Go p e below s _ _ _ (T1.setTop (mkF m 60 #[.val (.ref r0), .val (.int p1), .val (.int p2), .val (.long q3), .second, .val (.int sz), .val (.int (1 : Int32)), .val (.long q3), .second, .unset] []))
            refine own_go (fun t_ kt_ => XS.iloadN X1.here hx rfl (hb hby d3_60) rfl kt_) ?_
            show own_Go p e below s _ _ _ (T1.setTop (mkF m 61 #[.val (.ref r0), .val (.int p1), .val (.int p2), .val (.long q3), .second, .val (.int sz), .val (.int (1 : Int32)), .val (.long q3), .second, .unset] [(.int p1)]))
            refine own_go (fun t_ kt_ => XS.iload X1.here hx rfl (hb hby d3_61) rfl kt_) ?_
            show own_Go p e below s _ _ _ (T1.setTop (mkF m 63 #[.val (.ref r0), .val (.int p1), .val (.int p2), .val (.long q3), .second, .val (.int sz), .val (.int (1 : Int32)), .val (.long q3), .second, .unset] [(.int sz), (.int p1)]))
            refine own_go (fun t_ kt_ => XS.iadd X1.here hx rfl (hb hby d3_63) rfl kt_) ?_
            show own_Go p e below s _ _ _ (T1.setTop (mkF m 64 #[.val (.ref r0), .val (.int p1), .val (.int p2), .val (.long q3), .second, .val (.int sz), .val (.int (1 : Int32)), .val (.long q3), .second, .unset] [(.int (p1 + sz))]))
            refine own_go (fun t_ kt_ => XS.iconst X1.here hx rfl (hb hby d3_64) kt_) ?_
            show own_Go p e below s _ _ _ (T1.setTop (mkF m 65 #[.val (.ref r0), .val (.int p1), .val (.int p2), .val (.long q3), .second, .val (.int sz), .val (.int (1 : Int32)), .val (.long q3), .second, .unset] [(.int (1 : Int32)), (.int (p1 + sz))]))
            refine own_go (fun t_ kt_ => XS.isub X1.here hx rfl (hb hby d3_65) rfl kt_) ?_
            show own_Go p e below s _ _ _ (T1.setTop (mkF m 66 #[.val (.ref r0), .val (.int p1), .val (.int p2), .val (.long q3), .second, .val (.int sz), .val (.int (1 : Int32)), .val (.long q3), .second, .unset] [(.int ((p1 + sz) - (1 : Int32)))]))
            refine own_go (fun t_ kt_ => XS.istore X1.here hx rfl (hb hby d3_66) rfl (l' := #[.val (.ref r0), .val (.int p1), .val (.int p2), .val (.long q3), .second, .val (.int sz), .val (.int (1 : Int32)), .val (.long q3), .second, .val (.int ((p1 + sz) - (1 : Int32)))]) rfl kt_) ?_
            show own_Go p e below s _ _ _ (T1.setTop (mkF m 68 #[.val (.ref r0), .val (.int p1), .val (.int p2), .val (.long q3), .second, .val (.int sz), .val (.int (1 : Int32)), .val (.long q3), .second, .val (.int ((p1 + sz) - (1 : Int32)))] []))
            exact J68 (d - 0) T1 _ X1 e1 N1 ((1 : Int32)) (q3) (((p1 + sz) - (1 : Int32))) (0)  (by rw [c3, Nat.pow_zero, Nat.div_one]) (by omega) (by first | exact Or.inl ⟨rfl, by omega, hc47, fun j hj => absurd hj (Nat.not_lt_zero j)⟩ | exact Or.inr ⟨rfl, fun q => hc47 q.2.1⟩ | exact Or.inr ⟨rfl, fun q => absurd q.1 (by omega)⟩) (by omega) (rfl)
          · skip
            have hi47 : ¬ ((u (ss + d))).toInt = 44 := fun q => hc47 (Int32.toInt_inj.mp q)
            refine own_go (fun t_ kt_ => XS.icmpYes X1.here hx rfl (pc0 := 47) (pc' := 54) rfl (hb hby d3_47) rfl (feq hc47).2 (by decide) (by decide) kt_) ?_
            show own_Go p e below s _ _ _ (T1.setTop (mkF m 54 #[.val (.ref r0), .val (.int p1), .val (.int p2), .val (.long q3), .second, .val (.int sz), .val (.long rs), .second, .unset, .unset] []))
            refine own_go (fun t_ kt_ => XS.iconst X1.here hx rfl (hb hby d3_54) kt_) ?_
            show own_Go p e below s _ _ _ (T1.setTop (mkF m 55 #[.val (.ref r0), .val (.int p1), .val (.int p2), .val (.long q3), .second, .val (.int sz), .val (.long rs), .second, .unset, .unset] [(.int (0 : Int32))]))
            refine own_go (fun t_ kt_ => XS.istore X1.here hx rfl (hb hby d3_55) rfl (l' := #[.val (.ref r0), .val (.int p1), .val (.int p2), .val (.long q3), .second, .val (.int sz), .val (.int (0 : Int32)), .unset, .unset, .unset]) rfl kt_) ?_
            show own_Go p e below s _ _ _ (T1.setTop (mkF m 57 #[.val (.ref r0), .val (.int p1), .val (.int p2), .val (.long q3), .second, .val (.int sz), .val (.int (0 : Int32)), .unset, .unset, .unset] []))
            refine own_go (fun t_ kt_ => XS.lloadN X1.here hx rfl (hb hby d3_57) rfl kt_) ?_
            show own_Go p e below s _ _ _ (T1.setTop (mkF m 58 #[.val (.ref r0), .val (.int p1), .val (.int p2), .val (.long q3), .second, .val (.int sz), .val (.int (0 : Int32)), .unset, .unset, .unset] [(.long q3)]))
            refine own_go (fun t_ kt_ => XS.lstore X1.here hx rfl (hb hby d3_58) rfl (l' := #[.val (.ref r0), .val (.int p1), .val (.int p2), .val (.long q3), .second, .val (.int sz), .val (.int (0 : Int32)), .val (.long q3), .second, .unset]) rfl kt_) ?_
            show own_Go p e below s _ _ _ (T1.setTop (mkF m 60 #[.val (.ref r0), .val (.int p1), .val (.int p2), .val (.long q3), .second, .val (.int sz), .val (.int (0 : Int32)), .val (.long q3), .second, .unset] []))
            refine own_go (fun t_ kt_ => XS.iloadN X1.here hx rfl (hb hby d3_60) rfl kt_) ?_
            show own_Go p e below s _ _ _ (T1.setTop (mkF m 61 #[.val (.ref r0), .val (.int p1), .val (.int p2), .val (.long q3), .second, .val (.int sz), .val (.int (0 : Int32)), .val (.long q3), .second, .unset] [(.int p1)]))
            refine own_go (fun t_ kt_ => XS.iload X1.here hx rfl (hb hby d3_61) rfl kt_) ?_
            show own_Go p e below s _ _ _ (T1.setTop (mkF m 63 #[.val (.ref r0), .val (.int p1), .val (.int p2), .val (.long q3), .second, .val (.int sz), .val (.int (0 : Int32)), .val (.long q3), .second, .unset] [(.int sz), (.int p1)]))
            refine own_go (fun t_ kt_ => XS.iadd X1.here hx rfl (hb hby d3_63) rfl kt_) ?_
            show own_Go p e below s _ _ _ (T1.setTop (mkF m 64 #[.val (.ref r0), .val (.int p1), .val (.int p2), .val (.long q3), .second, .val (.int sz), .val (.int (0 : Int32)), .val (.long q3), .second, .unset] [(.int (p1 + sz))]))
            refine own_go (fun t_ kt_ => XS.iconst X1.here hx rfl (hb hby d3_64) kt_) ?_
            show own_Go p e below s _ _ _ (T1.setTop (mkF m 65 #[.val (.ref r0), .val (.int p1), .val (.int p2), .val (.long q3), .second, .val (.int sz), .val (.int (0 : Int32)), .val (.long q3), .second, .unset] [(.int (1 : Int32)), (.int (p1 + sz))]))
            refine own_go (fun t_ kt_ => XS.isub X1.here hx rfl (hb hby d3_65) rfl kt_) ?_
            show own_Go p e below s _ _ _ (T1.setTop (mkF m 66 #[.val (.ref r0), .val (.int p1), .val (.int p2), .val (.long q3), .second, .val (.int sz), .val (.int (0 : Int32)), .val (.long q3), .second, .unset] [(.int ((p1 + sz) - (1 : Int32)))]))
            refine own_go (fun t_ kt_ => XS.istore X1.here hx rfl (hb hby d3_66) rfl (l' := #[.val (.ref r0), .val (.int p1), .val (.int p2), .val (.long q3), .second, .val (.int sz), .val (.int (0 : Int32)), .val (.long q3), .second, .val (.int ((p1 + sz) - (1 : Int32)))]) rfl kt_) ?_
            show own_Go p e below s _ _ _ (T1.setTop (mkF m 68 #[.val (.ref r0), .val (.int p1), .val (.int p2), .val (.long q3), .second, .val (.int sz), .val (.int (0 : Int32)), .val (.long q3), .second, .val (.int ((p1 + sz) - (1 : Int32)))] []))
            exact J68 (d - 0) T1 _ X1 e1 N1 ((0 : Int32)) (q3) (((p1 + sz) - (1 : Int32))) (0)  (by rw [c3, Nat.pow_zero, Nat.div_one]) (by omega) (by first | exact Or.inl ⟨rfl, by omega, hc47, fun j hj => absurd hj (Nat.not_lt_zero j)⟩ | exact Or.inr ⟨rfl, fun q => hc47 q.2.1⟩ | exact Or.inr ⟨rfl, fun q => absurd q.1 (by omega)⟩) (by omega) (rfl)
        · skip
          have hi36 : ¬ ((p1 + sz)).toInt < p2.toInt := fun q => hc36 (Int32.lt_iff_toInt_lt.mpr q)
          refine own_go (fun t_ kt_ => XS.icmpYes X1.here hx rfl (pc0 := 36) (pc' := 54) rfl (hb hby d3_36) rfl (flt hc36).2.1 (by decide) (by decide) kt_) ?_
          show own_Go p e below s _ _ _ (T1.setTop (mkF m 54 #[.val (.ref r0), .val (.int p1), .val (.int p2), .val (.long q3), .second, .val (.int sz), .val (.long rs), .second, .unset, .unset] []))
          refine own_go (fun t_ kt_ => XS.iconst X1.here hx rfl (hb hby d3_54) kt_) ?_
          show own_Go p e below s _ _ _ (T1.setTop (mkF m 55 #[.val (.ref r0), .val (.int p1), .val (.int p2), .val (.long q3), .second, .val (.int sz), .val (.long rs), .second, .unset, .unset] [(.int (0 : Int32))]))
          refine own_go (fun t_ kt_ => XS.istore X1.here hx rfl (hb hby d3_55) rfl (l' := #[.val (.ref r0), .val (.int p1), .val (.int p2), .val (.long q3), .second, .val (.int sz), .val (.int (0 : Int32)), .unset, .unset, .unset]) rfl kt_) ?_
          show own_Go p e below s _ _ _ (T1.setTop (mkF m 57 #[.val (.ref r0), .val (.int p1), .val (.int p2), .val (.long q3), .second, .val (.int sz), .val (.int (0 : Int32)), .unset, .unset, .unset] []))
          refine own_go (fun t_ kt_ => XS.lloadN X1.here hx rfl (hb hby d3_57) rfl kt_) ?_
          show own_Go p e below s _ _ _ (T1.setTop (mkF m 58 #[.val (.ref r0), .val (.int p1), .val (.int p2), .val (.long q3), .second, .val (.int sz), .val (.int (0 : Int32)), .unset, .unset, .unset] [(.long q3)]))
          refine own_go (fun t_ kt_ => XS.lstore X1.here hx rfl (hb hby d3_58) rfl (l' := #[.val (.ref r0), .val (.int p1), .val (.int p2), .val (.long q3), .second, .val (.int sz), .val (.int (0 : Int32)), .val (.long q3), .second, .unset]) rfl kt_) ?_
          show own_Go p e below s _ _ _ (T1.setTop (mkF m 60 #[.val (.ref r0), .val (.int p1), .val (.int p2), .val (.long q3), .second, .val (.int sz), .val (.int (0 : Int32)), .val (.long q3), .second, .unset] []))
          refine own_go (fun t_ kt_ => XS.iloadN X1.here hx rfl (hb hby d3_60) rfl kt_) ?_
          show own_Go p e below s _ _ _ (T1.setTop (mkF m 61 #[.val (.ref r0), .val (.int p1), .val (.int p2), .val (.long q3), .second, .val (.int sz), .val (.int (0 : Int32)), .val (.long q3), .second, .unset] [(.int p1)]))
          refine own_go (fun t_ kt_ => XS.iload X1.here hx rfl (hb hby d3_61) rfl kt_) ?_
          show own_Go p e below s _ _ _ (T1.setTop (mkF m 63 #[.val (.ref r0), .val (.int p1), .val (.int p2), .val (.long q3), .second, .val (.int sz), .val (.int (0 : Int32)), .val (.long q3), .second, .unset] [(.int sz), (.int p1)]))
          refine own_go (fun t_ kt_ => XS.iadd X1.here hx rfl (hb hby d3_63) rfl kt_) ?_
          show own_Go p e below s _ _ _ (T1.setTop (mkF m 64 #[.val (.ref r0), .val (.int p1), .val (.int p2), .val (.long q3), .second, .val (.int sz), .val (.int (0 : Int32)), .val (.long q3), .second, .unset] [(.int (p1 + sz))]))
          refine own_go (fun t_ kt_ => XS.iconst X1.here hx rfl (hb hby d3_64) kt_) ?_
          show own_Go p e below s _ _ _ (T1.setTop (mkF m 65 #[.val (.ref r0), .val (.int p1), .val (.int p2), .val (.long q3), .second, .val (.int sz), .val (.int (0 : Int32)), .val (.long q3), .second, .unset] [(.int (1 : Int32)), (.int (p1 + sz))]))
          refine own_go (fun t_ kt_ => XS.isub X1.here hx rfl (hb hby d3_65) rfl kt_) ?_
          show own_Go p e below s _ _ _ (T1.setTop (mkF m 66 #[.val (.ref r0), .val (.int p1), .val (.int p2), .val (.long q3), .second, .val (.int sz), .val (.int (0 : Int32)), .val (.long q3), .second, .unset] [(.int ((p1 + sz) - (1 : Int32)))]))
          refine own_go (fun t_ kt_ => XS.istore X1.here hx rfl (hb hby d3_66) rfl (l' := #[.val (.ref r0), .val (.int p1), .val (.int p2), .val (.long q3), .second, .val (.int sz), .val (.int (0 : Int32)), .val (.long q3), .second, .val (.int ((p1 + sz) - (1 : Int32)))]) rfl kt_) ?_
          show own_Go p e below s _ _ _ (T1.setTop (mkF m 68 #[.val (.ref r0), .val (.int p1), .val (.int p2), .val (.long q3), .second, .val (.int sz), .val (.int (0 : Int32)), .val (.long q3), .second, .val (.int ((p1 + sz) - (1 : Int32)))] []))
          exact J68 (d - 0) T1 _ X1 e1 N1 ((0 : Int32)) (q3) (((p1 + sz) - (1 : Int32))) (0)  (by rw [c3, Nat.pow_zero, Nat.div_one]) (by omega) (by first | exact Or.inl ⟨rfl, by omega, hc47, fun j hj => absurd hj (Nat.not_lt_zero j)⟩ | exact Or.inr ⟨rfl, fun q => hc47 q.2.1⟩ | exact Or.inr ⟨rfl, fun q => absurd q.1 (by omega)⟩) (by omega) (rfl)
  exact J10 (19 - 0) s₁ _ X0 e0 N0 ((1 : Int32)) ((q3 / (10 : Int64))) (0)  (by decide) (own_div10 c3) (⟨by omega, Or.inl rfl⟩) (rfl)
def own_is (f : Nat → Value) : Prop := ∀ j, ∃ v : Int32, f j = .int v
theorem own_is0 : own_is (fun _ => (.int (0 : Int32))) := fun _ => ⟨_, rfl⟩
theorem own_is1 {f : Nat → Value} {i : Nat} {v : Int32} (h : own_is f) : own_is (own_set f i (.int v)) := fun j => by
  unfold own_set
  by_cases q : j = i
  · exact ⟨v, if_pos q⟩
  · obtain ⟨u, hu⟩ := h j; exact ⟨u, by rw [if_neg q]; exact hu⟩
def own_vi : Value → Int32
  | .int x => x
  | _ => 0
theorem own_isu {f : Nat → Value} (h : own_is f) : ∃ u : Nat → Int32, ∀ j, f j = .int (u j) :=
  ⟨fun j => own_vi (f j), fun j => by obtain ⟨x, hx⟩ := h j; exact hx.trans (congrArg Value.int (congrArg own_vi hx).symm)⟩
theorem own_dstep {u u' : Nat → Int32} {ss d N K : Nat} (h : ∀ k, k < K → k < d → u (ss + d - 1 - k) = own_dig N k) (dy : K < d → u' (ss + d - 1 - K) = own_dig N K) (dn : ∀ j, (K < d → j ≠ ss + d - 1 - K) → u' j = u j) : ∀ k, k < K + 1 → k < d → u' (ss + d - 1 - k) = own_dig N k := fun k h1 h2 => by
  by_cases e : k = K
  · subst e; exact dy h2
  · rw [dn _ (fun _ => by omega)]; exact h k (by omega) h2
theorem own_okY {w0 : Nat → Int32} {ss d N qq : Nat} {vv : Int32} {ev : Int} (h1 : ((ss + d : Nat) : Int) < ev) (w44 : w0 (ss + d) = (44 : Int32)) (wd : ∀ k, k < d → w0 (ss + d - 1 - k) = own_dig N k) (h : qq < ss ∨ ss + d < qq ∨ vv = w0 qq) : own_Ok (own_upd w0 qq vv) ss d N ev := by
  have same : ∀ j, ss ≤ j → j ≤ ss + d → own_upd w0 qq vv j = w0 j := fun j a b => by
    by_cases e : j = qq
    · subst e
      rcases h with h | h | h
      · omega
      · omega
      · rw [own_updY]; exact h
    · exact own_updN _ _ _ _ e
  exact ⟨h1, by rw [same _ (by omega) (by omega)]; exact w44, fun k hk => by rw [same _ (by omega) (by omega)]; exact wd k hk⟩
theorem own_okN {w0 : Nat → Int32} {ss d N qq : Nat} {vv : Int32} {ev : Int} (w44 : w0 (ss + d) = (44 : Int32)) (wd : ∀ k, k < d → w0 (ss + d - 1 - k) = own_dig N k) (h : ¬ ((ss + d : Nat) : Int) < ev ∨ (ss ≤ qq ∧ qq ≤ ss + d ∧ ¬ vv = w0 qq)) : ¬ own_Ok (own_upd w0 qq vv) ss d N ev := fun q => by
  rcases h with h | ⟨h1, h2, h3⟩
  · exact h q.1
  · by_cases e : qq = ss + d
    · subst e
      have := q.2.1
      rw [own_updY] at this
      exact h3 (this.trans w44.symm)
    · have e2 : ss + d - 1 - (ss + d - 1 - qq) = qq := by omega
      have := q.2.2 (ss + d - 1 - qq) (by omega)
      rw [e2, own_updY] at this
      have w := wd (ss + d - 1 - qq) (by omega)
      rw [e2] at w
      exact h3 (this.trans w.symm)
theorem own_and3 (x : Int32) : ∃ n : Nat, (x &&& (3 : Int32)).toInt = (n : Int) ∧ n ≤ 3 := by
  have h1 := c_mask x 3 2 (by decide) (by decide)
  exact ⟨(x &&& (3 : Int32)).toInt.toNat, by omega, by omega⟩
theorem own_q26 (x : Int32) : ∃ n : Nat, ((x &&& (31 : Int32)) % (26 : Int32)).toInt = (n : Int) ∧ n < 26 := by
  have h1 := c_mask x 31 5 (by decide) (by decide)
  have h2 := (c_irem (x &&& (31 : Int32)) 26 26 (by decide)).1 (by omega)
  exact ⟨((x &&& (31 : Int32)) % (26 : Int32)).toInt.toNat, by omega, by omega⟩
theorem own_pos {x : Int64} (h : ¬ (x &&& (9223372036854775807 : Int64)).toInt = 0) : 1 ≤ (x &&& (9223372036854775807 : Int64)).toInt := by
  have h1 := c_maskL x 9223372036854775807 63 (by decide) (by decide)
  omega
theorem own_one : 1 ≤ (1 : Int64).toInt := by decide
theorem own_fN {P : Prop} {R z : Int32} {a : Int} (hR : (P ∧ R.toInt = a) ∨ (¬ P ∧ R.toInt = -1)) (hz : (z = 1 ∧ P) ∨ (z = 0 ∧ ¬ P)) (h : z = 0) : R.toInt = (-1 : Int32).toInt := by
  rcases hz with ⟨h1, -⟩ | ⟨-, h2⟩
  · exact absurd (h1.symm.trans h) (by decide)
  · rcases hR with ⟨q, -⟩ | ⟨-, q⟩
    · exact absurd q h2
    · rw [q]; decide
theorem own_fY {P : Prop} {R z : Int32} {a : Int} (hR : (P ∧ R.toInt = a) ∨ (¬ P ∧ R.toInt = -1)) (hz : (z = 1 ∧ P) ∨ (z = 0 ∧ ¬ P)) (h : ¬ z = 0) : R.toInt = a := by
  rcases hz with ⟨-, h2⟩ | ⟨h1, -⟩
  · rcases hR with ⟨-, q⟩ | ⟨q, -⟩
    · exact q
    · exact absurd h2 q
  · exact absurd h1 h
theorem pd_0 : parseMethodDescriptor "(J)I" = some ⟨[.long], some .int⟩ := by decide +kernel
theorem pd_1 : parseMethodDescriptor "([BIIJIJ)V" = some ⟨[(.array .byte), .int, .int, .long, .int, .long], none⟩ := by decide +kernel
theorem pd_2 : parseMethodDescriptor "([BIIJ)I" = some ⟨[(.array .byte), .int, .int, .long], some .int⟩ := by decide +kernel
theorem ef_0 (m : MethodId) (q0 : Int64) (p1 : Int32) (p2 : Int32) (p3 : Int32) (p4 : Int32) (p5 : Int32) : entryFrame m #[(.long q0), (.int p1), (.int p2), (.int p3), (.int p4), (.int p5)] maxLocals = mkF m 0 #[.val (.long q0), .second, .val (.int p1), .val (.int p2), .val (.int p3), .val (.int p4), .val (.int p5), .unset, .unset, .unset, .unset, .unset, .unset, .unset, .unset, .unset, .unset, .unset, .unset] [] := by first | (simp [entryFrame, mkF, argsToLocals, Value.category, maxLocals]; done) | rfl
def Q0 (Z : State) (q0 : Int64) (p1 : Int32) (p2 : Int32) (p3 : Int32) (p4 : Int32) (p5 : Int32) (h0 : Heap) (n0 : Nat) (v : Option Value) (h : Heap) (L : List Loc) : Prop := v = some (.int 1) ∧ Fr n0 L
set_option maxRecDepth 65536 in
set_option maxHeartbeats 40000000 in
theorem rm0 (l : Launch) (Z : State) (a0 : Array Value) (hw : ∀ d ∈ tables_1, d.before a0 Z = true) (ws : List Jvm.Cond) (q0 : Int64) (p1 : Int32) (p2 : Int32) (p3 : Int32) (p4 : Int32) (p5 : Int32) (h0 : Heap) (n0 : Nat) (Z0 : n0 ≤ h0.size) :
    MetFree l x (head1 (Jvm.Cond.code x code maxLocals ret :: ws) room_1) (fun a U => a = #[(.long q0), (.int p1), (.int p2), (.int p3), (.int p4), (.int p5)] ∧ Z.Warmed39 U.vm ∧ U.heap = h0) (fun _ _ _ _ _ => True) (fun _ U o U' => ∃ v L, o = .returned v ∧ Q0 Z q0 p1 p2 p3 p4 p5 h0 n0 v U'.heap L ∧ FrameEnd U o U' L (room_1).cells (room_1).slots) := by
  refine MetFree.of_bodySF (plainFor_of_name pn_0) hisR ?_
  intro p e s m args below meth c s₁ Bd hml0 hP hK
  obtain ⟨rfl, hZ, hh⟩ := hP
  have hx := Bd.exec
  have hby := Bd.bytes
  have hml : c.maxLocals = 19 := hml0
  have hown : s.vm.findClass "com/example/ledgerstrike/ledgerstrike/journal/JournalFormatAfterNumberPinLaw" = some m.cls := findClass_of_methodNamed Bd.named
  have hnm := (name_of_methodNamed Bd.named Bd.method).1
  have hlk : meth.locks = false := Bd.notSynchronized
  have X0 : Stand p l e room_1 s m #[(.long q0), (.int p1), (.int p2), (.int p3), (.int p4), (.int p5)] below meth c s₁ [] 0 0 := Stand.of_body Bd
  have e0 : s₁.heap = h0 := by rw [← hh, Bd.state]; rfl
  have N0 := Fr.nil n0
  have hret := Bd.returns
  show own_Go p e below s (Q0 Z q0 p1 p2 p3 p4 p5 h0 n0) _ _ (s₁.setTop (entryFrame m #[(.long q0), (.int p1), (.int p2), (.int p3), (.int p4), (.int p5)] maxLocals))
  refine own_go (fun t k => castTop (ef_0 m q0 p1 p2 p3 p4 p5) k) ?_
  show own_Go p e below s _ _ _ (s₁.setTop (mkF m 0 #[.val (.long q0), .second, .val (.int p1), .val (.int p2), .val (.int p3), .val (.int p4), .val (.int p5), .unset, .unset, .unset, .unset, .unset, .unset, .unset, .unset, .unset, .unset, .unset, .unset] []))
  refine own_go (fun t_ kt_ => XS.lloadN X0.here hx rfl (hb hby at_0) rfl kt_) ?_
  show own_Go p e below s _ _ _ (s₁.setTop (mkF m 1 #[.val (.long q0), .second, .val (.int p1), .val (.int p2), .val (.int p3), .val (.int p4), .val (.int p5), .unset, .unset, .unset, .unset, .unset, .unset, .unset, .unset, .unset, .unset, .unset, .unset] [(.long q0)]))
  refine own_go (fun t_ kt_ => X0.ldc2Long hx hown (mvT hZ (hw _ (List.mem_of_getElem? (i := 0) rfl))) (g := (mkF m 1 #[.val (.long q0), .second, .val (.int p1), .val (.int p2), .val (.int p3), .val (.int p4), .val (.int p5), .unset, .unset, .unset, .unset, .unset, .unset, .unset, .unset, .unset, .unset, .unset, .unset] [(.long q0)])) rfl (hb hby at_1) _ kt_) ?_
  show own_Go p e below s _ _ _ (s₁.setTop (mkF m 4 #[.val (.long q0), .second, .val (.int p1), .val (.int p2), .val (.int p3), .val (.int p4), .val (.int p5), .unset, .unset, .unset, .unset, .unset, .unset, .unset, .unset, .unset, .unset, .unset, .unset] [(.long (9223372036854775807 : Int64)), (.long q0)]))
  refine own_go (fun t_ kt_ => XS.land X0.here hx rfl (hb hby at_4) rfl kt_) ?_
  show own_Go p e below s _ _ _ (s₁.setTop (mkF m 5 #[.val (.long q0), .second, .val (.int p1), .val (.int p2), .val (.int p3), .val (.int p4), .val (.int p5), .unset, .unset, .unset, .unset, .unset, .unset, .unset, .unset, .unset, .unset, .unset, .unset] [(.long (q0 &&& (9223372036854775807 : Int64)))]))
  refine own_go (fun t_ kt_ => XS.lstore X0.here hx rfl (hb hby at_5) rfl (l' := #[.val (.long q0), .second, .val (.int p1), .val (.int p2), .val (.int p3), .val (.int p4), .val (.int p5), .val (.long (q0 &&& (9223372036854775807 : Int64))), .second, .unset, .unset, .unset, .unset, .unset, .unset, .unset, .unset, .unset, .unset]) rfl kt_) ?_
  show own_Go p e below s _ _ _ (s₁.setTop (mkF m 7 #[.val (.long q0), .second, .val (.int p1), .val (.int p2), .val (.int p3), .val (.int p4), .val (.int p5), .val (.long (q0 &&& (9223372036854775807 : Int64))), .second, .unset, .unset, .unset, .unset, .unset, .unset, .unset, .unset, .unset, .unset] []))
  refine own_go (fun t_ kt_ => XS.lload X0.here hx rfl (hb hby at_7) rfl kt_) ?_
  show own_Go p e below s _ _ _ (s₁.setTop (mkF m 9 #[.val (.long q0), .second, .val (.int p1), .val (.int p2), .val (.int p3), .val (.int p4), .val (.int p5), .val (.long (q0 &&& (9223372036854775807 : Int64))), .second, .unset, .unset, .unset, .unset, .unset, .unset, .unset, .unset, .unset, .unset] [(.long (q0 &&& (9223372036854775807 : Int64)))]))
  refine own_go (fun t_ kt_ => XS.lconst X0.here hx rfl (hb hby at_9) kt_) ?_
  show own_Go p e below s _ _ _ (s₁.setTop (mkF m 10 #[.val (.long q0), .second, .val (.int p1), .val (.int p2), .val (.int p3), .val (.int p4), .val (.int p5), .val (.long (q0 &&& (9223372036854775807 : Int64))), .second, .unset, .unset, .unset, .unset, .unset, .unset, .unset, .unset, .unset, .unset] [(.long (0 : Int64)), (.long (q0 &&& (9223372036854775807 : Int64)))]))
  refine own_go (fun t_ kt_ => XS.lcmp X0.here hx rfl (hb hby at_10) rfl kt_) ?_
  show own_Go p e below s _ _ _ (s₁.setTop (mkF m 11 #[.val (.long q0), .second, .val (.int p1), .val (.int p2), .val (.int p3), .val (.int p4), .val (.int p5), .val (.long (q0 &&& (9223372036854775807 : Int64))), .second, .unset, .unset, .unset, .unset, .unset, .unset, .unset, .unset, .unset, .unset] [(.int (lcmpW (q0 &&& (9223372036854775807 : Int64)) (0 : Int64)))]))
  have J17 : ∀ (T1 : State) (locs1 : List Loc) (X1 : Stand p l e room_1 s m #[(.long q0), (.int p1), (.int p2), (.int p3), (.int p4), (.int p5)] below meth c T1 locs1 0 0) (e1 : T1.heap = h0) (N1 : Fr n0 locs1) (nn : Int64) (hnn : 1 ≤ nn.toInt), own_Go p e below s (Q0 Z q0 p1 p2 p3 p4 p5 h0 n0) (room_1).cells (room_1).slots (T1.setTop (mkF m 17 #[.val (.long q0), .second, .val (.int p1), .val (.int p2), .val (.int p3), .val (.int p4), .val (.int p5), .val (.long nn), .second, .unset, .unset, .unset, .unset, .unset, .unset, .unset, .unset, .unset, .unset] [])) := by
    intro T1 locs1 X1 e1 N1 nn hnn
    obtain ⟨N, hN, hN19, hN1⟩ : ∃ N : Nat, nn.toInt = (N : Int) ∧ N < 10 ^ 19 ∧ 1 ≤ N := ⟨_, own_nat hnn⟩
    refine own_go (fun t_ kt_ => XS.iloadN X1.here hx rfl (hb hby at_17) rfl kt_) ?_
    show own_Go p e below s _ _ _ (T1.setTop (mkF m 18 #[.val (.long q0), .second, .val (.int p1), .val (.int p2), .val (.int p3), .val (.int p4), .val (.int p5), .val (.long nn), .second, .unset, .unset, .unset, .unset, .unset, .unset, .unset, .unset, .unset, .unset] [(.int p1)]))
    refine own_go (fun t_ kt_ => XS.iconst X1.here hx rfl (hb hby at_18) kt_) ?_
    show own_Go p e below s _ _ _ (T1.setTop (mkF m 19 #[.val (.long q0), .second, .val (.int p1), .val (.int p2), .val (.int p3), .val (.int p4), .val (.int p5), .val (.long nn), .second, .unset, .unset, .unset, .unset, .unset, .unset, .unset, .unset, .unset, .unset] [(.int (3 : Int32)), (.int p1)]))
    refine own_go (fun t_ kt_ => XS.iand X1.here hx rfl (hb hby at_19) rfl kt_) ?_
    show own_Go p e below s _ _ _ (T1.setTop (mkF m 20 #[.val (.long q0), .second, .val (.int p1), .val (.int p2), .val (.int p3), .val (.int p4), .val (.int p5), .val (.long nn), .second, .unset, .unset, .unset, .unset, .unset, .unset, .unset, .unset, .unset, .unset] [(.int (p1 &&& (3 : Int32)))]))
    refine own_go (fun t_ kt_ => XS.istore X1.here hx rfl (hb hby at_20) rfl (l' := #[.val (.long q0), .second, .val (.int p1), .val (.int p2), .val (.int p3), .val (.int p4), .val (.int p5), .val (.long nn), .second, .val (.int (p1 &&& (3 : Int32))), .unset, .unset, .unset, .unset, .unset, .unset, .unset, .unset, .unset]) rfl kt_) ?_
    show own_Go p e below s _ _ _ (T1.setTop (mkF m 22 #[.val (.long q0), .second, .val (.int p1), .val (.int p2), .val (.int p3), .val (.int p4), .val (.int p5), .val (.long nn), .second, .val (.int (p1 &&& (3 : Int32))), .unset, .unset, .unset, .unset, .unset, .unset, .unset, .unset, .unset] []))
    obtain ⟨sv, hsv⟩ : ∃ z, z = (p1 &&& (3 : Int32)) := ⟨_, rfl⟩
    rw [← hsv]
    show own_Go p e below s _ _ _ (T1.setTop (mkF m 22 #[.val (.long q0), .second, .val (.int p1), .val (.int p2), .val (.int p3), .val (.int p4), .val (.int p5), .val (.long nn), .second, .val (.int sv), .unset, .unset, .unset, .unset, .unset, .unset, .unset, .unset, .unset] []))
    obtain ⟨ss, hs, hs3⟩ : ∃ n : Nat, sv.toInt = (n : Int) ∧ n ≤ 3 := by rw [hsv]; exact own_and3 _
    refine own_go (fun t_ kt_ => XS.lload X1.here hx rfl (hb hby at_22) rfl kt_) ?_
    show own_Go p e below s _ _ _ (T1.setTop (mkF m 24 #[.val (.long q0), .second, .val (.int p1), .val (.int p2), .val (.int p3), .val (.int p4), .val (.int p5), .val (.long nn), .second, .val (.int sv), .unset, .unset, .unset, .unset, .unset, .unset, .unset, .unset, .unset] [(.long nn)]))
    obtain ⟨_, _, ⟨T2, L2, k2, n2⟩, -, X2, ⟨Lc2, hQ2, l2, y2, z2⟩, st2⟩ := Jvm.LawKit.callS X1 hx (y := (⟨"com/example/ledgerstrike/ledgerstrike/journal/JournalFormatAfterNumberPinLaw", "digits", "(J)I"⟩ : MethodName)) hown (mvT hZ (hw _ (List.mem_of_getElem? (i := 1) rfl))) (mvT hZ (hw _ (List.mem_of_getElem? (i := 2) rfl))) (mvT hZ (hw _ (List.mem_of_getElem? (i := 3) rfl))) (mvT hZ (hw _ (List.mem_of_getElem? (i := 4) rfl))) (by decide) (backOf (W := 0) (rm1 l Z a0 hw [] (nn) h0 n0 Z0 hnn) hZ (hw _ (List.mem_of_getElem? (i := 4) rfl)) (hw _ (List.mem_of_getElem? (i := 3) rfl)) (by decide) (by decide)) (g := (mkF m 24 #[.val (.long q0), .second, .val (.int p1), .val (.int p2), .val (.int p3), .val (.int p4), .val (.int p5), .val (.long nn), .second, .val (.int sv), .unset, .unset, .unset, .unset, .unset, .unset, .unset, .unset, .unset] [(.long nn)])) rfl (by rw [hml]; rfl) (argsL := [(.long nn)]) (rest := []) (lenOf pd_0 rfl) rfl (by show 2 * 0 + _ ≤ _; exact Nat.le_of_eq rfl) (hb hby at_24) (fun _ _ => ⟨rfl, e1, (by decide : 0 + 0 ≤ _), (by decide : 0 + 0 ≤ _)⟩)
    dsimp only [Pt.U, Pt.locs, Pt.cells, Pt.slots] at X2 l2 y2 z2 st2 hQ2
    subst l2 y2 z2
    obtain ⟨dv, d, rfl, hdv, hDg0, Nq2, eh2⟩ := hQ2
    have N2 := Fr.app N1 Nq2
    refine own_go (fun t_ kt_ => st2 _ kt_) ?_
    obtain ⟨lo2, X2g, N2g⟩ : ∃ lo, Stand p l e room_1 s m #[(.long q0), (.int p1), (.int p2), (.int p3), (.int p4), (.int p5)] below meth c T2 lo 0 0 ∧ Fr n0 lo := ⟨_, X2, N2⟩
    have e2 : T2.heap = h0 := eh2
    have hDg : own_Dg N d := by rw [show nn.toInt.toNat = N from by omega] at hDg0; exact hDg0
    have hd1 := hDg.1
    have hd2 := hDg.2.1
    have i1 := own_plus hs hdv (by omega)
    have i2 := own_plus i1 (show (1 : Int32).toInt = ((1 : Nat) : Int) from by decide) (by omega)
    have i3 := own_plus i1 (show (2 : Int32).toInt = ((2 : Nat) : Int) from by decide) (by omega)
    show own_Go p e below s _ _ _ (T2.setTop (mkF m 27 #[.val (.long q0), .second, .val (.int p1), .val (.int p2), .val (.int p3), .val (.int p4), .val (.int p5), .val (.long nn), .second, .val (.int sv), .unset, .unset, .unset, .unset, .unset, .unset, .unset, .unset, .unset] [(.int dv)]))
    refine own_go (fun t_ kt_ => XS.istore X2g.here hx rfl (hb hby at_27) rfl (l' := #[.val (.long q0), .second, .val (.int p1), .val (.int p2), .val (.int p3), .val (.int p4), .val (.int p5), .val (.long nn), .second, .val (.int sv), .val (.int dv), .unset, .unset, .unset, .unset, .unset, .unset, .unset, .unset]) rfl kt_) ?_
    show own_Go p e below s _ _ _ (T2.setTop (mkF m 29 #[.val (.long q0), .second, .val (.int p1), .val (.int p2), .val (.int p3), .val (.int p4), .val (.int p5), .val (.long nn), .second, .val (.int sv), .val (.int dv), .unset, .unset, .unset, .unset, .unset, .unset, .unset, .unset] []))
    refine own_go (fun t_ kt_ => XS.bipush X2g.here hx rfl (hb hby at_29) kt_) ?_
    show own_Go p e below s _ _ _ (T2.setTop (mkF m 31 #[.val (.long q0), .second, .val (.int p1), .val (.int p2), .val (.int p3), .val (.int p4), .val (.int p5), .val (.long nn), .second, .val (.int sv), .val (.int dv), .unset, .unset, .unset, .unset, .unset, .unset, .unset, .unset] [(.int (26 : Int32))]))
    obtain ⟨T3, h3, k3, X3, e3, E3, A3, st3⟩ := newP X2g hx hZ (hw _ (List.mem_of_getElem? (i := 23) rfl)) e2 (g := (mkF m 31 #[.val (.long q0), .second, .val (.int p1), .val (.int p2), .val (.int p3), .val (.int p4), .val (.int p5), .val (.long nn), .second, .val (.int sv), .val (.int dv), .unset, .unset, .unset, .unset, .unset, .unset, .unset, .unset] [(.int (26 : Int32))])) rfl (hb hby at_31) rfl (by decide) (cap := 26) (by decide) (by decide) (by decide) (by decide)
    obtain ⟨ln, g3⟩ : ∃ z, z = h0.size := ⟨_, rfl⟩
    rw [← g3] at A3 st3
    refine own_go (fun t_ kt_ => st3 _ kt_) ?_
    have gt_ln : n0 ≤ ln := Nat.le_trans Z0 (Nat.le_of_eq g3.symm)
    have ZZ_3 : n0 ≤ h3.size := Nat.le_trans Z0 E3.1
    have V_ln : own_Ary Z h3 ln .byte 26 (fun _ => (.int (0 : Int32))) := own_Ary.new A3 (by decide)
    show own_Go p e below s _ _ _ (T3.setTop (mkF m 33 #[.val (.long q0), .second, .val (.int p1), .val (.int p2), .val (.int p3), .val (.int p4), .val (.int p5), .val (.long nn), .second, .val (.int sv), .val (.int dv), .unset, .unset, .unset, .unset, .unset, .unset, .unset, .unset] [(.ref ln)]))
    refine own_go (fun t_ kt_ => XS.astore X3.here hx rfl (hb hby at_33) rfl rfl (l' := #[.val (.long q0), .second, .val (.int p1), .val (.int p2), .val (.int p3), .val (.int p4), .val (.int p5), .val (.long nn), .second, .val (.int sv), .val (.int dv), .val (.ref ln), .unset, .unset, .unset, .unset, .unset, .unset, .unset]) rfl kt_) ?_
    show own_Go p e below s _ _ _ (T3.setTop (mkF m 35 #[.val (.long q0), .second, .val (.int p1), .val (.int p2), .val (.int p3), .val (.int p4), .val (.int p5), .val (.long nn), .second, .val (.int sv), .val (.int dv), .val (.ref ln), .unset, .unset, .unset, .unset, .unset, .unset, .unset] []))
    refine own_go (fun t_ kt_ => XS.iload X3.here hx rfl (hb hby at_35) rfl kt_) ?_
    show own_Go p e below s _ _ _ (T3.setTop (mkF m 37 #[.val (.long q0), .second, .val (.int p1), .val (.int p2), .val (.int p3), .val (.int p4), .val (.int p5), .val (.long nn), .second, .val (.int sv), .val (.int dv), .val (.ref ln), .unset, .unset, .unset, .unset, .unset, .unset, .unset] [(.int p5)]))
    refine own_go (fun t_ kt_ => XS.i2b X3.here hx rfl (hb hby at_37) rfl kt_) ?_
    show own_Go p e below s _ _ _ (T3.setTop (mkF m 38 #[.val (.long q0), .second, .val (.int p1), .val (.int p2), .val (.int p3), .val (.int p4), .val (.int p5), .val (.long nn), .second, .val (.int sv), .val (.int dv), .val (.ref ln), .unset, .unset, .unset, .unset, .unset, .unset, .unset] [(.int (p5.toInt8.toInt32))]))
    refine own_go (fun t_ kt_ => XS.istore X3.here hx rfl (hb hby at_38) rfl (l' := #[.val (.long q0), .second, .val (.int p1), .val (.int p2), .val (.int p3), .val (.int p4), .val (.int p5), .val (.long nn), .second, .val (.int sv), .val (.int dv), .val (.ref ln), .val (.int (p5.toInt8.toInt32)), .unset, .unset, .unset, .unset, .unset, .unset]) rfl kt_) ?_
    show own_Go p e below s _ _ _ (T3.setTop (mkF m 40 #[.val (.long q0), .second, .val (.int p1), .val (.int p2), .val (.int p3), .val (.int p4), .val (.int p5), .val (.long nn), .second, .val (.int sv), .val (.int dv), .val (.ref ln), .val (.int (p5.toInt8.toInt32)), .unset, .unset, .unset, .unset, .unset, .unset] []))
    obtain ⟨fl, hfl⟩ : ∃ z, z = (p5.toInt8.toInt32) := ⟨_, rfl⟩
    rw [← hfl]
    show own_Go p e below s _ _ _ (T3.setTop (mkF m 40 #[.val (.long q0), .second, .val (.int p1), .val (.int p2), .val (.int p3), .val (.int p4), .val (.int p5), .val (.long nn), .second, .val (.int sv), .val (.int dv), .val (.ref ln), .val (.int fl), .unset, .unset, .unset, .unset, .unset, .unset] []))
    have nfl : nar .byte fl = fl := by rw [hfl]; exact own_nb8 _
    refine own_go (fun t_ kt_ => XS.aload X3.here hx rfl (hb hby at_40) rfl rfl kt_) ?_
    show own_Go p e below s _ _ _ (T3.setTop (mkF m 42 #[.val (.long q0), .second, .val (.int p1), .val (.int p2), .val (.int p3), .val (.int p4), .val (.int p5), .val (.long nn), .second, .val (.int sv), .val (.int dv), .val (.ref ln), .val (.int fl), .unset, .unset, .unset, .unset, .unset, .unset] [(.ref ln)]))
    refine own_go (fun t_ kt_ => XS.iconst X3.here hx rfl (hb hby at_42) kt_) ?_
    show own_Go p e below s _ _ _ (T3.setTop (mkF m 43 #[.val (.long q0), .second, .val (.int p1), .val (.int p2), .val (.int p3), .val (.int p4), .val (.int p5), .val (.long nn), .second, .val (.int sv), .val (.int dv), .val (.ref ln), .val (.int fl), .unset, .unset, .unset, .unset, .unset, .unset] [(.int (0 : Int32)), (.ref ln)]))
    refine own_go (fun t_ kt_ => XS.iload X3.here hx rfl (hb hby at_43) rfl kt_) ?_
    show own_Go p e below s _ _ _ (T3.setTop (mkF m 45 #[.val (.long q0), .second, .val (.int p1), .val (.int p2), .val (.int p3), .val (.int p4), .val (.int p5), .val (.long nn), .second, .val (.int sv), .val (.int dv), .val (.ref ln), .val (.int fl), .unset, .unset, .unset, .unset, .unset, .unset] [(.int fl), (.int (0 : Int32)), (.ref ln)]))
    obtain ⟨ce4, Ar4, S4, G4⟩ := id V_ln
    obtain ⟨T4, h4, X4, e4, W4, st4⟩ := stB X3 hx hZ e3 Ar4 (j := (0 : Int32)) (own_in (i := 0) S4 (by decide) (by decide)) (g := (mkF m 45 #[.val (.long q0), .second, .val (.int p1), .val (.int p2), .val (.int p3), .val (.int p4), .val (.int p5), .val (.long nn), .second, .val (.int sv), .val (.int dv), .val (.ref ln), .val (.int fl), .unset, .unset, .unset, .unset, .unset, .unset] [(.int fl), (.int (0 : Int32)), (.ref ln)])) rfl rfl (hb hby at_45)
    rw [own_cl (j := (0 : Int32)) (i := 0) (by decide)] at W4 X4
    refine own_go (fun t_ kt_ => st4 _ kt_) ?_
    have N4 := Fr.snoc X4 N2g gt_ln
    obtain ⟨lo4, X4g, N4g⟩ : ∃ lo, Stand p l e room_1 s m #[(.long q0), (.int p1), (.int p2), (.int p3), (.int p4), (.int p5)] below meth c T4 lo 1 26 ∧ Fr n0 lo := ⟨_, X4, N4⟩
    rw [(nfl : nar .byte fl = fl)] at W4
    have ZZ_4 : n0 ≤ h4.size := Nat.le_trans ZZ_3 (Nat.le_of_eq W4.size.symm)
    have V_ln_4 : own_Ary Z h4 ln .byte 26 (own_set (fun _ => (.int (0 : Int32))) 0 (.int fl)) := own_Ary.set Ar4 S4 G4 W4
    show own_Go p e below s _ _ _ (T4.setTop (mkF m 46 #[.val (.long q0), .second, .val (.int p1), .val (.int p2), .val (.int p3), .val (.int p4), .val (.int p5), .val (.long nn), .second, .val (.int sv), .val (.int dv), .val (.ref ln), .val (.int fl), .unset, .unset, .unset, .unset, .unset, .unset] []))
    refine own_go (fun t_ kt_ => XS.aload X4g.here hx rfl (hb hby at_46) rfl rfl kt_) ?_
    show own_Go p e below s _ _ _ (T4.setTop (mkF m 48 #[.val (.long q0), .second, .val (.int p1), .val (.int p2), .val (.int p3), .val (.int p4), .val (.int p5), .val (.long nn), .second, .val (.int sv), .val (.int dv), .val (.ref ln), .val (.int fl), .unset, .unset, .unset, .unset, .unset, .unset] [(.ref ln)]))
    refine own_go (fun t_ kt_ => XS.iconst X4g.here hx rfl (hb hby at_48) kt_) ?_
    show own_Go p e below s _ _ _ (T4.setTop (mkF m 49 #[.val (.long q0), .second, .val (.int p1), .val (.int p2), .val (.int p3), .val (.int p4), .val (.int p5), .val (.long nn), .second, .val (.int sv), .val (.int dv), .val (.ref ln), .val (.int fl), .unset, .unset, .unset, .unset, .unset, .unset] [(.int (1 : Int32)), (.ref ln)]))
    refine own_go (fun t_ kt_ => XS.iload X4g.here hx rfl (hb hby at_49) rfl kt_) ?_
    show own_Go p e below s _ _ _ (T4.setTop (mkF m 51 #[.val (.long q0), .second, .val (.int p1), .val (.int p2), .val (.int p3), .val (.int p4), .val (.int p5), .val (.long nn), .second, .val (.int sv), .val (.int dv), .val (.ref ln), .val (.int fl), .unset, .unset, .unset, .unset, .unset, .unset] [(.int fl), (.int (1 : Int32)), (.ref ln)]))
    obtain ⟨ce5, Ar5, S5, G5⟩ := id V_ln_4
    obtain ⟨T5, h5, X5, e5, W5, st5⟩ := stB X4g hx hZ e4 Ar5 (j := (1 : Int32)) (own_in (i := 1) S5 (by decide) (by decide)) (g := (mkF m 51 #[.val (.long q0), .second, .val (.int p1), .val (.int p2), .val (.int p3), .val (.int p4), .val (.int p5), .val (.long nn), .second, .val (.int sv), .val (.int dv), .val (.ref ln), .val (.int fl), .unset, .unset, .unset, .unset, .unset, .unset] [(.int fl), (.int (1 : Int32)), (.ref ln)])) rfl rfl (hb hby at_51)
    rw [own_cl (j := (1 : Int32)) (i := 1) (by decide)] at W5 X5
    refine own_go (fun t_ kt_ => st5 _ kt_) ?_
    have N5 := Fr.snoc X5 N4g gt_ln
    obtain ⟨lo5, X5g, N5g⟩ : ∃ lo, Stand p l e room_1 s m #[(.long q0), (.int p1), (.int p2), (.int p3), (.int p4), (.int p5)] below meth c T5 lo 1 26 ∧ Fr n0 lo := ⟨_, X5, N5⟩
    rw [(nfl : nar .byte fl = fl)] at W5
    have ZZ_5 : n0 ≤ h5.size := Nat.le_trans ZZ_4 (Nat.le_of_eq W5.size.symm)
    have V_ln_5 : own_Ary Z h5 ln .byte 26 (own_set (own_set (fun _ => (.int (0 : Int32))) 0 (.int fl)) 1 (.int fl)) := own_Ary.set Ar5 S5 G5 W5
    show own_Go p e below s _ _ _ (T5.setTop (mkF m 52 #[.val (.long q0), .second, .val (.int p1), .val (.int p2), .val (.int p3), .val (.int p4), .val (.int p5), .val (.long nn), .second, .val (.int sv), .val (.int dv), .val (.ref ln), .val (.int fl), .unset, .unset, .unset, .unset, .unset, .unset] []))
    refine own_go (fun t_ kt_ => XS.aload X5g.here hx rfl (hb hby at_52) rfl rfl kt_) ?_
    show own_Go p e below s _ _ _ (T5.setTop (mkF m 54 #[.val (.long q0), .second, .val (.int p1), .val (.int p2), .val (.int p3), .val (.int p4), .val (.int p5), .val (.long nn), .second, .val (.int sv), .val (.int dv), .val (.ref ln), .val (.int fl), .unset, .unset, .unset, .unset, .unset, .unset] [(.ref ln)]))
    refine own_go (fun t_ kt_ => XS.iconst X5g.here hx rfl (hb hby at_54) kt_) ?_
    show own_Go p e below s _ _ _ (T5.setTop (mkF m 55 #[.val (.long q0), .second, .val (.int p1), .val (.int p2), .val (.int p3), .val (.int p4), .val (.int p5), .val (.long nn), .second, .val (.int sv), .val (.int dv), .val (.ref ln), .val (.int fl), .unset, .unset, .unset, .unset, .unset, .unset] [(.int (2 : Int32)), (.ref ln)]))
    refine own_go (fun t_ kt_ => XS.iload X5g.here hx rfl (hb hby at_55) rfl kt_) ?_
    show own_Go p e below s _ _ _ (T5.setTop (mkF m 57 #[.val (.long q0), .second, .val (.int p1), .val (.int p2), .val (.int p3), .val (.int p4), .val (.int p5), .val (.long nn), .second, .val (.int sv), .val (.int dv), .val (.ref ln), .val (.int fl), .unset, .unset, .unset, .unset, .unset, .unset] [(.int fl), (.int (2 : Int32)), (.ref ln)]))
    obtain ⟨ce6, Ar6, S6, G6⟩ := id V_ln_5
    obtain ⟨T6, h6, X6, e6, W6, st6⟩ := stB X5g hx hZ e5 Ar6 (j := (2 : Int32)) (own_in (i := 2) S6 (by decide) (by decide)) (g := (mkF m 57 #[.val (.long q0), .second, .val (.int p1), .val (.int p2), .val (.int p3), .val (.int p4), .val (.int p5), .val (.long nn), .second, .val (.int sv), .val (.int dv), .val (.ref ln), .val (.int fl), .unset, .unset, .unset, .unset, .unset, .unset] [(.int fl), (.int (2 : Int32)), (.ref ln)])) rfl rfl (hb hby at_57)
    rw [own_cl (j := (2 : Int32)) (i := 2) (by decide)] at W6 X6
    refine own_go (fun t_ kt_ => st6 _ kt_) ?_
    have N6 := Fr.snoc X6 N5g gt_ln
    obtain ⟨lo6, X6g, N6g⟩ : ∃ lo, Stand p l e room_1 s m #[(.long q0), (.int p1), (.int p2), (.int p3), (.int p4), (.int p5)] below meth c T6 lo 1 26 ∧ Fr n0 lo := ⟨_, X6, N6⟩
    rw [(nfl : nar .byte fl = fl)] at W6
    have ZZ_6 : n0 ≤ h6.size := Nat.le_trans ZZ_5 (Nat.le_of_eq W6.size.symm)
    have V_ln_6 : own_Ary Z h6 ln .byte 26 (own_set (own_set (own_set (fun _ => (.int (0 : Int32))) 0 (.int fl)) 1 (.int fl)) 2 (.int fl)) := own_Ary.set Ar6 S6 G6 W6
    show own_Go p e below s _ _ _ (T6.setTop (mkF m 58 #[.val (.long q0), .second, .val (.int p1), .val (.int p2), .val (.int p3), .val (.int p4), .val (.int p5), .val (.long nn), .second, .val (.int sv), .val (.int dv), .val (.ref ln), .val (.int fl), .unset, .unset, .unset, .unset, .unset, .unset] []))
    obtain ⟨u0, hu0⟩ := own_isu (own_is1 (i := 2) (v := fl) (own_is1 (i := 1) (v := fl) (own_is1 (i := 0) (v := fl) own_is0)))
    have VU0 : own_Ary Z h6 ln .byte 26 (fun j => .int (u0 j)) := V_ln_6.congr (fun j _ => hu0 j)
    have hk0 : ∀ k, k < 0 → k < d → u0 (ss + d - 1 - k) = own_dig N k := fun k h => absurd h (Nat.not_lt_zero k)
    refine own_go (fun t_ kt_ => XS.aload X6g.here hx rfl (hb hby at_58) rfl rfl kt_) ?_
    show own_Go p e below s _ _ _ (T6.setTop (mkF m 60 #[.val (.long q0), .second, .val (.int p1), .val (.int p2), .val (.int p3), .val (.int p4), .val (.int p5), .val (.long nn), .second, .val (.int sv), .val (.int dv), .val (.ref ln), .val (.int fl), .unset, .unset, .unset, .unset, .unset, .unset] [(.ref ln)]))
    refine own_go (fun t_ kt_ => XS.iload X6g.here hx rfl (hb hby at_60) rfl kt_) ?_
    show own_Go p e below s _ _ _ (T6.setTop (mkF m 62 #[.val (.long q0), .second, .val (.int p1), .val (.int p2), .val (.int p3), .val (.int p4), .val (.int p5), .val (.long nn), .second, .val (.int sv), .val (.int dv), .val (.ref ln), .val (.int fl), .unset, .unset, .unset, .unset, .unset, .unset] [(.int sv), (.ref ln)]))
    refine own_go (fun t_ kt_ => XS.iload X6g.here hx rfl (hb hby at_62) rfl kt_) ?_
    show own_Go p e below s _ _ _ (T6.setTop (mkF m 64 #[.val (.long q0), .second, .val (.int p1), .val (.int p2), .val (.int p3), .val (.int p4), .val (.int p5), .val (.long nn), .second, .val (.int sv), .val (.int dv), .val (.ref ln), .val (.int fl), .unset, .unset, .unset, .unset, .unset, .unset] [(.int dv), (.int sv), (.ref ln)]))
    refine own_go (fun t_ kt_ => XS.lload X6g.here hx rfl (hb hby at_64) rfl kt_) ?_
    show own_Go p e below s _ _ _ (T6.setTop (mkF m 66 #[.val (.long q0), .second, .val (.int p1), .val (.int p2), .val (.int p3), .val (.int p4), .val (.int p5), .val (.long nn), .second, .val (.int sv), .val (.int dv), .val (.ref ln), .val (.int fl), .unset, .unset, .unset, .unset, .unset, .unset] [(.long nn), (.int dv), (.int sv), (.ref ln)]))
    refine own_go (fun t_ kt_ => XS.iconst X6g.here hx rfl (hb hby at_66) kt_) ?_
    show own_Go p e below s _ _ _ (T6.setTop (mkF m 67 #[.val (.long q0), .second, .val (.int p1), .val (.int p2), .val (.int p3), .val (.int p4), .val (.int p5), .val (.long nn), .second, .val (.int sv), .val (.int dv), .val (.ref ln), .val (.int fl), .unset, .unset, .unset, .unset, .unset, .unset] [(.int (0 : Int32)), (.long nn), (.int dv), (.int sv), (.ref ln)]))
    refine own_go (fun t_ kt_ => XS.lconst X6g.here hx rfl (hb hby at_67) kt_) ?_
    show own_Go p e below s _ _ _ (T6.setTop (mkF m 68 #[.val (.long q0), .second, .val (.int p1), .val (.int p2), .val (.int p3), .val (.int p4), .val (.int p5), .val (.long nn), .second, .val (.int sv), .val (.int dv), .val (.ref ln), .val (.int fl), .unset, .unset, .unset, .unset, .unset, .unset] [(.long (1 : Int64)), (.int (0 : Int32)), (.long nn), (.int dv), (.int sv), (.ref ln)]))
    obtain ⟨_, _, ⟨T7, L7, k7, n7⟩, -, X7, ⟨Lc7, hQ7, l7, y7, z7⟩, st7⟩ := Jvm.LawKit.callS X6g hx (y := (⟨"com/example/ledgerstrike/ledgerstrike/journal/JournalFormatAfterNumberPinLaw", "digit", "([BIIJIJ)V"⟩ : MethodName)) hown (mvT hZ (hw _ (List.mem_of_getElem? (i := 24) rfl))) (mvT hZ (hw _ (List.mem_of_getElem? (i := 25) rfl))) (mvT hZ (hw _ (List.mem_of_getElem? (i := 3) rfl))) (mvT hZ (hw _ (List.mem_of_getElem? (i := 26) rfl))) (by decide) (backOf (W := 0) (rm2 l Z a0 hw [] (ln) (sv) (dv) (nn) ((0 : Int32)) ((1 : Int64)) (u0) (ss) (d) (N) (0) h6 n0 ZZ_6 VU0 gt_ln hs hdv hN (by decide) (by decide +kernel) ⟨hs3, hd1, hd2, by decide⟩) hZ (hw _ (List.mem_of_getElem? (i := 26) rfl)) (hw _ (List.mem_of_getElem? (i := 3) rfl)) (by decide) (by decide)) (g := (mkF m 68 #[.val (.long q0), .second, .val (.int p1), .val (.int p2), .val (.int p3), .val (.int p4), .val (.int p5), .val (.long nn), .second, .val (.int sv), .val (.int dv), .val (.ref ln), .val (.int fl), .unset, .unset, .unset, .unset, .unset, .unset] [(.long (1 : Int64)), (.int (0 : Int32)), (.long nn), (.int dv), (.int sv), (.ref ln)])) rfl (by rw [hml]; rfl) (argsL := [(.ref ln), (.int sv), (.int dv), (.long nn), (.int (0 : Int32)), (.long (1 : Int64))]) (rest := []) (lenOf pd_1 rfl) rfl (by show 2 * 0 + _ ≤ _; exact Nat.le_of_eq rfl) (hb hby at_68) (fun _ _ => ⟨rfl, e6, (by decide : 1 + 0 ≤ _), (by decide : 26 + 0 ≤ _)⟩)
    dsimp only [Pt.U, Pt.locs, Pt.cells, Pt.slots] at X7 l7 y7 z7 st7 hQ7
    subst l7 y7 z7
    obtain ⟨rfl, Nq7, Kq7, uu7, Vq7, dy7, dn7⟩ := hQ7
    have N7 := Fr.app N6g Nq7
    refine own_go (fun t_ kt_ => st7 _ kt_) ?_
    obtain ⟨lo7, X7g, N7g⟩ : ∃ lo, Stand p l e room_1 s m #[(.long q0), (.int p1), (.int p2), (.int p3), (.int p4), (.int p5)] below meth c T7 lo 1 26 ∧ Fr n0 lo := ⟨_, X7, N7⟩
    obtain ⟨h7, e7⟩ : ∃ z, T7.heap = z := ⟨_, rfl⟩
    rw [e7] at Kq7 Vq7
    have ZZ_7 : n0 ≤ h7.size := Nat.le_trans ZZ_6 Kq7.1
    have hk1 := own_dstep hk0 dy7 dn7
    show own_Go p e below s _ _ _ (T7.setTop (mkF m 71 #[.val (.long q0), .second, .val (.int p1), .val (.int p2), .val (.int p3), .val (.int p4), .val (.int p5), .val (.long nn), .second, .val (.int sv), .val (.int dv), .val (.ref ln), .val (.int fl), .unset, .unset, .unset, .unset, .unset, .unset] []))
    refine own_go (fun t_ kt_ => XS.aload X7g.here hx rfl (hb hby at_71) rfl rfl kt_) ?_
    show own_Go p e below s _ _ _ (T7.setTop (mkF m 73 #[.val (.long q0), .second, .val (.int p1), .val (.int p2), .val (.int p3), .val (.int p4), .val (.int p5), .val (.long nn), .second, .val (.int sv), .val (.int dv), .val (.ref ln), .val (.int fl), .unset, .unset, .unset, .unset, .unset, .unset] [(.ref ln)]))
    refine own_go (fun t_ kt_ => XS.iload X7g.here hx rfl (hb hby at_73) rfl kt_) ?_
    show own_Go p e below s _ _ _ (T7.setTop (mkF m 75 #[.val (.long q0), .second, .val (.int p1), .val (.int p2), .val (.int p3), .val (.int p4), .val (.int p5), .val (.long nn), .second, .val (.int sv), .val (.int dv), .val (.ref ln), .val (.int fl), .unset, .unset, .unset, .unset, .unset, .unset] [(.int sv), (.ref ln)]))
    refine own_go (fun t_ kt_ => XS.iload X7g.here hx rfl (hb hby at_75) rfl kt_) ?_
    show own_Go p e below s _ _ _ (T7.setTop (mkF m 77 #[.val (.long q0), .second, .val (.int p1), .val (.int p2), .val (.int p3), .val (.int p4), .val (.int p5), .val (.long nn), .second, .val (.int sv), .val (.int dv), .val (.ref ln), .val (.int fl), .unset, .unset, .unset, .unset, .unset, .unset] [(.int dv), (.int sv), (.ref ln)]))
    refine own_go (fun t_ kt_ => XS.lload X7g.here hx rfl (hb hby at_77) rfl kt_) ?_
    show own_Go p e below s _ _ _ (T7.setTop (mkF m 79 #[.val (.long q0), .second, .val (.int p1), .val (.int p2), .val (.int p3), .val (.int p4), .val (.int p5), .val (.long nn), .second, .val (.int sv), .val (.int dv), .val (.ref ln), .val (.int fl), .unset, .unset, .unset, .unset, .unset, .unset] [(.long nn), (.int dv), (.int sv), (.ref ln)]))
    refine own_go (fun t_ kt_ => XS.iconst X7g.here hx rfl (hb hby at_79) kt_) ?_
    show own_Go p e below s _ _ _ (T7.setTop (mkF m 80 #[.val (.long q0), .second, .val (.int p1), .val (.int p2), .val (.int p3), .val (.int p4), .val (.int p5), .val (.long nn), .second, .val (.int sv), .val (.int dv), .val (.ref ln), .val (.int fl), .unset, .unset, .unset, .unset, .unset, .unset] [(.int (1 : Int32)), (.long nn), (.int dv), (.int sv), (.ref ln)]))
    refine own_go (fun t_ kt_ => X7g.ldc2Long hx hown (mvT hZ (hw _ (List.mem_of_getElem? (i := 5) rfl))) (g := (mkF m 80 #[.val (.long q0), .second, .val (.int p1), .val (.int p2), .val (.int p3), .val (.int p4), .val (.int p5), .val (.long nn), .second, .val (.int sv), .val (.int dv), .val (.ref ln), .val (.int fl), .unset, .unset, .unset, .unset, .unset, .unset] [(.int (1 : Int32)), (.long nn), (.int dv), (.int sv), (.ref ln)])) rfl (hb hby at_80) _ kt_) ?_
    show own_Go p e below s _ _ _ (T7.setTop (mkF m 83 #[.val (.long q0), .second, .val (.int p1), .val (.int p2), .val (.int p3), .val (.int p4), .val (.int p5), .val (.long nn), .second, .val (.int sv), .val (.int dv), .val (.ref ln), .val (.int fl), .unset, .unset, .unset, .unset, .unset, .unset] [(.long (10 : Int64)), (.int (1 : Int32)), (.long nn), (.int dv), (.int sv), (.ref ln)]))
    obtain ⟨_, _, ⟨T8, L8, k8, n8⟩, -, X8, ⟨Lc8, hQ8, l8, y8, z8⟩, st8⟩ := Jvm.LawKit.callS X7g hx (y := (⟨"com/example/ledgerstrike/ledgerstrike/journal/JournalFormatAfterNumberPinLaw", "digit", "([BIIJIJ)V"⟩ : MethodName)) hown (mvT hZ (hw _ (List.mem_of_getElem? (i := 24) rfl))) (mvT hZ (hw _ (List.mem_of_getElem? (i := 25) rfl))) (mvT hZ (hw _ (List.mem_of_getElem? (i := 3) rfl))) (mvT hZ (hw _ (List.mem_of_getElem? (i := 26) rfl))) (by decide) (backOf (W := 0) (rm2 l Z a0 hw [] (ln) (sv) (dv) (nn) ((1 : Int32)) ((10 : Int64)) (uu7) (ss) (d) (N) (1) h7 n0 ZZ_7 Vq7 gt_ln hs hdv hN (by decide) (by decide +kernel) ⟨hs3, hd1, hd2, by decide⟩) hZ (hw _ (List.mem_of_getElem? (i := 26) rfl)) (hw _ (List.mem_of_getElem? (i := 3) rfl)) (by decide) (by decide)) (g := (mkF m 83 #[.val (.long q0), .second, .val (.int p1), .val (.int p2), .val (.int p3), .val (.int p4), .val (.int p5), .val (.long nn), .second, .val (.int sv), .val (.int dv), .val (.ref ln), .val (.int fl), .unset, .unset, .unset, .unset, .unset, .unset] [(.long (10 : Int64)), (.int (1 : Int32)), (.long nn), (.int dv), (.int sv), (.ref ln)])) rfl (by rw [hml]; rfl) (argsL := [(.ref ln), (.int sv), (.int dv), (.long nn), (.int (1 : Int32)), (.long (10 : Int64))]) (rest := []) (lenOf pd_1 rfl) rfl (by show 2 * 0 + _ ≤ _; exact Nat.le_of_eq rfl) (hb hby at_83) (fun _ _ => ⟨rfl, e7, (by decide : 1 + 0 ≤ _), (by decide : 26 + 0 ≤ _)⟩)
    dsimp only [Pt.U, Pt.locs, Pt.cells, Pt.slots] at X8 l8 y8 z8 st8 hQ8
    subst l8 y8 z8
    obtain ⟨rfl, Nq8, Kq8, uu8, Vq8, dy8, dn8⟩ := hQ8
    have N8 := Fr.app N7g Nq8
    refine own_go (fun t_ kt_ => st8 _ kt_) ?_
    obtain ⟨lo8, X8g, N8g⟩ : ∃ lo, Stand p l e room_1 s m #[(.long q0), (.int p1), (.int p2), (.int p3), (.int p4), (.int p5)] below meth c T8 lo 1 26 ∧ Fr n0 lo := ⟨_, X8, N8⟩
    obtain ⟨h8, e8⟩ : ∃ z, T8.heap = z := ⟨_, rfl⟩
    rw [e8] at Kq8 Vq8
    have ZZ_8 : n0 ≤ h8.size := Nat.le_trans ZZ_7 Kq8.1
    have hk2 := own_dstep hk1 dy8 dn8
    show own_Go p e below s _ _ _ (T8.setTop (mkF m 86 #[.val (.long q0), .second, .val (.int p1), .val (.int p2), .val (.int p3), .val (.int p4), .val (.int p5), .val (.long nn), .second, .val (.int sv), .val (.int dv), .val (.ref ln), .val (.int fl), .unset, .unset, .unset, .unset, .unset, .unset] []))
    refine own_go (fun t_ kt_ => XS.aload X8g.here hx rfl (hb hby at_86) rfl rfl kt_) ?_
    show own_Go p e below s _ _ _ (T8.setTop (mkF m 88 #[.val (.long q0), .second, .val (.int p1), .val (.int p2), .val (.int p3), .val (.int p4), .val (.int p5), .val (.long nn), .second, .val (.int sv), .val (.int dv), .val (.ref ln), .val (.int fl), .unset, .unset, .unset, .unset, .unset, .unset] [(.ref ln)]))
    refine own_go (fun t_ kt_ => XS.iload X8g.here hx rfl (hb hby at_88) rfl kt_) ?_
    show own_Go p e below s _ _ _ (T8.setTop (mkF m 90 #[.val (.long q0), .second, .val (.int p1), .val (.int p2), .val (.int p3), .val (.int p4), .val (.int p5), .val (.long nn), .second, .val (.int sv), .val (.int dv), .val (.ref ln), .val (.int fl), .unset, .unset, .unset, .unset, .unset, .unset] [(.int sv), (.ref ln)]))
    refine own_go (fun t_ kt_ => XS.iload X8g.here hx rfl (hb hby at_90) rfl kt_) ?_
    show own_Go p e below s _ _ _ (T8.setTop (mkF m 92 #[.val (.long q0), .second, .val (.int p1), .val (.int p2), .val (.int p3), .val (.int p4), .val (.int p5), .val (.long nn), .second, .val (.int sv), .val (.int dv), .val (.ref ln), .val (.int fl), .unset, .unset, .unset, .unset, .unset, .unset] [(.int dv), (.int sv), (.ref ln)]))
    refine own_go (fun t_ kt_ => XS.lload X8g.here hx rfl (hb hby at_92) rfl kt_) ?_
    show own_Go p e below s _ _ _ (T8.setTop (mkF m 94 #[.val (.long q0), .second, .val (.int p1), .val (.int p2), .val (.int p3), .val (.int p4), .val (.int p5), .val (.long nn), .second, .val (.int sv), .val (.int dv), .val (.ref ln), .val (.int fl), .unset, .unset, .unset, .unset, .unset, .unset] [(.long nn), (.int dv), (.int sv), (.ref ln)]))
    refine own_go (fun t_ kt_ => XS.iconst X8g.here hx rfl (hb hby at_94) kt_) ?_
    show own_Go p e below s _ _ _ (T8.setTop (mkF m 95 #[.val (.long q0), .second, .val (.int p1), .val (.int p2), .val (.int p3), .val (.int p4), .val (.int p5), .val (.long nn), .second, .val (.int sv), .val (.int dv), .val (.ref ln), .val (.int fl), .unset, .unset, .unset, .unset, .unset, .unset] [(.int (2 : Int32)), (.long nn), (.int dv), (.int sv), (.ref ln)]))
    refine own_go (fun t_ kt_ => X8g.ldc2Long hx hown (mvT hZ (hw _ (List.mem_of_getElem? (i := 6) rfl))) (g := (mkF m 95 #[.val (.long q0), .second, .val (.int p1), .val (.int p2), .val (.int p3), .val (.int p4), .val (.int p5), .val (.long nn), .second, .val (.int sv), .val (.int dv), .val (.ref ln), .val (.int fl), .unset, .unset, .unset, .unset, .unset, .unset] [(.int (2 : Int32)), (.long nn), (.int dv), (.int sv), (.ref ln)])) rfl (hb hby at_95) _ kt_) ?_
    show own_Go p e below s _ _ _ (T8.setTop (mkF m 98 #[.val (.long q0), .second, .val (.int p1), .val (.int p2), .val (.int p3), .val (.int p4), .val (.int p5), .val (.long nn), .second, .val (.int sv), .val (.int dv), .val (.ref ln), .val (.int fl), .unset, .unset, .unset, .unset, .unset, .unset] [(.long (100 : Int64)), (.int (2 : Int32)), (.long nn), (.int dv), (.int sv), (.ref ln)]))
    obtain ⟨_, _, ⟨T9, L9, k9, n9⟩, -, X9, ⟨Lc9, hQ9, l9, y9, z9⟩, st9⟩ := Jvm.LawKit.callS X8g hx (y := (⟨"com/example/ledgerstrike/ledgerstrike/journal/JournalFormatAfterNumberPinLaw", "digit", "([BIIJIJ)V"⟩ : MethodName)) hown (mvT hZ (hw _ (List.mem_of_getElem? (i := 24) rfl))) (mvT hZ (hw _ (List.mem_of_getElem? (i := 25) rfl))) (mvT hZ (hw _ (List.mem_of_getElem? (i := 3) rfl))) (mvT hZ (hw _ (List.mem_of_getElem? (i := 26) rfl))) (by decide) (backOf (W := 0) (rm2 l Z a0 hw [] (ln) (sv) (dv) (nn) ((2 : Int32)) ((100 : Int64)) (uu8) (ss) (d) (N) (2) h8 n0 ZZ_8 Vq8 gt_ln hs hdv hN (by decide) (by decide +kernel) ⟨hs3, hd1, hd2, by decide⟩) hZ (hw _ (List.mem_of_getElem? (i := 26) rfl)) (hw _ (List.mem_of_getElem? (i := 3) rfl)) (by decide) (by decide)) (g := (mkF m 98 #[.val (.long q0), .second, .val (.int p1), .val (.int p2), .val (.int p3), .val (.int p4), .val (.int p5), .val (.long nn), .second, .val (.int sv), .val (.int dv), .val (.ref ln), .val (.int fl), .unset, .unset, .unset, .unset, .unset, .unset] [(.long (100 : Int64)), (.int (2 : Int32)), (.long nn), (.int dv), (.int sv), (.ref ln)])) rfl (by rw [hml]; rfl) (argsL := [(.ref ln), (.int sv), (.int dv), (.long nn), (.int (2 : Int32)), (.long (100 : Int64))]) (rest := []) (lenOf pd_1 rfl) rfl (by show 2 * 0 + _ ≤ _; exact Nat.le_of_eq rfl) (hb hby at_98) (fun _ _ => ⟨rfl, e8, (by decide : 1 + 0 ≤ _), (by decide : 26 + 0 ≤ _)⟩)
    dsimp only [Pt.U, Pt.locs, Pt.cells, Pt.slots] at X9 l9 y9 z9 st9 hQ9
    subst l9 y9 z9
    obtain ⟨rfl, Nq9, Kq9, uu9, Vq9, dy9, dn9⟩ := hQ9
    have N9 := Fr.app N8g Nq9
    refine own_go (fun t_ kt_ => st9 _ kt_) ?_
    obtain ⟨lo9, X9g, N9g⟩ : ∃ lo, Stand p l e room_1 s m #[(.long q0), (.int p1), (.int p2), (.int p3), (.int p4), (.int p5)] below meth c T9 lo 1 26 ∧ Fr n0 lo := ⟨_, X9, N9⟩
    obtain ⟨h9, e9⟩ : ∃ z, T9.heap = z := ⟨_, rfl⟩
    rw [e9] at Kq9 Vq9
    have ZZ_9 : n0 ≤ h9.size := Nat.le_trans ZZ_8 Kq9.1
    have hk3 := own_dstep hk2 dy9 dn9
    show own_Go p e below s _ _ _ (T9.setTop (mkF m 101 #[.val (.long q0), .second, .val (.int p1), .val (.int p2), .val (.int p3), .val (.int p4), .val (.int p5), .val (.long nn), .second, .val (.int sv), .val (.int dv), .val (.ref ln), .val (.int fl), .unset, .unset, .unset, .unset, .unset, .unset] []))
    refine own_go (fun t_ kt_ => XS.aload X9g.here hx rfl (hb hby at_101) rfl rfl kt_) ?_
    show own_Go p e below s _ _ _ (T9.setTop (mkF m 103 #[.val (.long q0), .second, .val (.int p1), .val (.int p2), .val (.int p3), .val (.int p4), .val (.int p5), .val (.long nn), .second, .val (.int sv), .val (.int dv), .val (.ref ln), .val (.int fl), .unset, .unset, .unset, .unset, .unset, .unset] [(.ref ln)]))
    refine own_go (fun t_ kt_ => XS.iload X9g.here hx rfl (hb hby at_103) rfl kt_) ?_
    show own_Go p e below s _ _ _ (T9.setTop (mkF m 105 #[.val (.long q0), .second, .val (.int p1), .val (.int p2), .val (.int p3), .val (.int p4), .val (.int p5), .val (.long nn), .second, .val (.int sv), .val (.int dv), .val (.ref ln), .val (.int fl), .unset, .unset, .unset, .unset, .unset, .unset] [(.int sv), (.ref ln)]))
    refine own_go (fun t_ kt_ => XS.iload X9g.here hx rfl (hb hby at_105) rfl kt_) ?_
    show own_Go p e below s _ _ _ (T9.setTop (mkF m 107 #[.val (.long q0), .second, .val (.int p1), .val (.int p2), .val (.int p3), .val (.int p4), .val (.int p5), .val (.long nn), .second, .val (.int sv), .val (.int dv), .val (.ref ln), .val (.int fl), .unset, .unset, .unset, .unset, .unset, .unset] [(.int dv), (.int sv), (.ref ln)]))
    refine own_go (fun t_ kt_ => XS.lload X9g.here hx rfl (hb hby at_107) rfl kt_) ?_
    show own_Go p e below s _ _ _ (T9.setTop (mkF m 109 #[.val (.long q0), .second, .val (.int p1), .val (.int p2), .val (.int p3), .val (.int p4), .val (.int p5), .val (.long nn), .second, .val (.int sv), .val (.int dv), .val (.ref ln), .val (.int fl), .unset, .unset, .unset, .unset, .unset, .unset] [(.long nn), (.int dv), (.int sv), (.ref ln)]))
    refine own_go (fun t_ kt_ => XS.iconst X9g.here hx rfl (hb hby at_109) kt_) ?_
    show own_Go p e below s _ _ _ (T9.setTop (mkF m 110 #[.val (.long q0), .second, .val (.int p1), .val (.int p2), .val (.int p3), .val (.int p4), .val (.int p5), .val (.long nn), .second, .val (.int sv), .val (.int dv), .val (.ref ln), .val (.int fl), .unset, .unset, .unset, .unset, .unset, .unset] [(.int (3 : Int32)), (.long nn), (.int dv), (.int sv), (.ref ln)]))
    refine own_go (fun t_ kt_ => X9g.ldc2Long hx hown (mvT hZ (hw _ (List.mem_of_getElem? (i := 7) rfl))) (g := (mkF m 110 #[.val (.long q0), .second, .val (.int p1), .val (.int p2), .val (.int p3), .val (.int p4), .val (.int p5), .val (.long nn), .second, .val (.int sv), .val (.int dv), .val (.ref ln), .val (.int fl), .unset, .unset, .unset, .unset, .unset, .unset] [(.int (3 : Int32)), (.long nn), (.int dv), (.int sv), (.ref ln)])) rfl (hb hby at_110) _ kt_) ?_
    show own_Go p e below s _ _ _ (T9.setTop (mkF m 113 #[.val (.long q0), .second, .val (.int p1), .val (.int p2), .val (.int p3), .val (.int p4), .val (.int p5), .val (.long nn), .second, .val (.int sv), .val (.int dv), .val (.ref ln), .val (.int fl), .unset, .unset, .unset, .unset, .unset, .unset] [(.long (1000 : Int64)), (.int (3 : Int32)), (.long nn), (.int dv), (.int sv), (.ref ln)]))
    obtain ⟨_, _, ⟨T10, L10, k10, n10⟩, -, X10, ⟨Lc10, hQ10, l10, y10, z10⟩, st10⟩ := Jvm.LawKit.callS X9g hx (y := (⟨"com/example/ledgerstrike/ledgerstrike/journal/JournalFormatAfterNumberPinLaw", "digit", "([BIIJIJ)V"⟩ : MethodName)) hown (mvT hZ (hw _ (List.mem_of_getElem? (i := 24) rfl))) (mvT hZ (hw _ (List.mem_of_getElem? (i := 25) rfl))) (mvT hZ (hw _ (List.mem_of_getElem? (i := 3) rfl))) (mvT hZ (hw _ (List.mem_of_getElem? (i := 26) rfl))) (by decide) (backOf (W := 0) (rm2 l Z a0 hw [] (ln) (sv) (dv) (nn) ((3 : Int32)) ((1000 : Int64)) (uu9) (ss) (d) (N) (3) h9 n0 ZZ_9 Vq9 gt_ln hs hdv hN (by decide) (by decide +kernel) ⟨hs3, hd1, hd2, by decide⟩) hZ (hw _ (List.mem_of_getElem? (i := 26) rfl)) (hw _ (List.mem_of_getElem? (i := 3) rfl)) (by decide) (by decide)) (g := (mkF m 113 #[.val (.long q0), .second, .val (.int p1), .val (.int p2), .val (.int p3), .val (.int p4), .val (.int p5), .val (.long nn), .second, .val (.int sv), .val (.int dv), .val (.ref ln), .val (.int fl), .unset, .unset, .unset, .unset, .unset, .unset] [(.long (1000 : Int64)), (.int (3 : Int32)), (.long nn), (.int dv), (.int sv), (.ref ln)])) rfl (by rw [hml]; rfl) (argsL := [(.ref ln), (.int sv), (.int dv), (.long nn), (.int (3 : Int32)), (.long (1000 : Int64))]) (rest := []) (lenOf pd_1 rfl) rfl (by show 2 * 0 + _ ≤ _; exact Nat.le_of_eq rfl) (hb hby at_113) (fun _ _ => ⟨rfl, e9, (by decide : 1 + 0 ≤ _), (by decide : 26 + 0 ≤ _)⟩)
    dsimp only [Pt.U, Pt.locs, Pt.cells, Pt.slots] at X10 l10 y10 z10 st10 hQ10
    subst l10 y10 z10
    obtain ⟨rfl, Nq10, Kq10, uu10, Vq10, dy10, dn10⟩ := hQ10
    have N10 := Fr.app N9g Nq10
    refine own_go (fun t_ kt_ => st10 _ kt_) ?_
    obtain ⟨lo10, X10g, N10g⟩ : ∃ lo, Stand p l e room_1 s m #[(.long q0), (.int p1), (.int p2), (.int p3), (.int p4), (.int p5)] below meth c T10 lo 1 26 ∧ Fr n0 lo := ⟨_, X10, N10⟩
    obtain ⟨h10, e10⟩ : ∃ z, T10.heap = z := ⟨_, rfl⟩
    rw [e10] at Kq10 Vq10
    have ZZ_10 : n0 ≤ h10.size := Nat.le_trans ZZ_9 Kq10.1
    have hk4 := own_dstep hk3 dy10 dn10
    show own_Go p e below s _ _ _ (T10.setTop (mkF m 116 #[.val (.long q0), .second, .val (.int p1), .val (.int p2), .val (.int p3), .val (.int p4), .val (.int p5), .val (.long nn), .second, .val (.int sv), .val (.int dv), .val (.ref ln), .val (.int fl), .unset, .unset, .unset, .unset, .unset, .unset] []))
    refine own_go (fun t_ kt_ => XS.aload X10g.here hx rfl (hb hby at_116) rfl rfl kt_) ?_
    show own_Go p e below s _ _ _ (T10.setTop (mkF m 118 #[.val (.long q0), .second, .val (.int p1), .val (.int p2), .val (.int p3), .val (.int p4), .val (.int p5), .val (.long nn), .second, .val (.int sv), .val (.int dv), .val (.ref ln), .val (.int fl), .unset, .unset, .unset, .unset, .unset, .unset] [(.ref ln)]))
    refine own_go (fun t_ kt_ => XS.iload X10g.here hx rfl (hb hby at_118) rfl kt_) ?_
    show own_Go p e below s _ _ _ (T10.setTop (mkF m 120 #[.val (.long q0), .second, .val (.int p1), .val (.int p2), .val (.int p3), .val (.int p4), .val (.int p5), .val (.long nn), .second, .val (.int sv), .val (.int dv), .val (.ref ln), .val (.int fl), .unset, .unset, .unset, .unset, .unset, .unset] [(.int sv), (.ref ln)]))
    refine own_go (fun t_ kt_ => XS.iload X10g.here hx rfl (hb hby at_120) rfl kt_) ?_
    show own_Go p e below s _ _ _ (T10.setTop (mkF m 122 #[.val (.long q0), .second, .val (.int p1), .val (.int p2), .val (.int p3), .val (.int p4), .val (.int p5), .val (.long nn), .second, .val (.int sv), .val (.int dv), .val (.ref ln), .val (.int fl), .unset, .unset, .unset, .unset, .unset, .unset] [(.int dv), (.int sv), (.ref ln)]))
    refine own_go (fun t_ kt_ => XS.lload X10g.here hx rfl (hb hby at_122) rfl kt_) ?_
    show own_Go p e below s _ _ _ (T10.setTop (mkF m 124 #[.val (.long q0), .second, .val (.int p1), .val (.int p2), .val (.int p3), .val (.int p4), .val (.int p5), .val (.long nn), .second, .val (.int sv), .val (.int dv), .val (.ref ln), .val (.int fl), .unset, .unset, .unset, .unset, .unset, .unset] [(.long nn), (.int dv), (.int sv), (.ref ln)]))
    refine own_go (fun t_ kt_ => XS.iconst X10g.here hx rfl (hb hby at_124) kt_) ?_
    show own_Go p e below s _ _ _ (T10.setTop (mkF m 125 #[.val (.long q0), .second, .val (.int p1), .val (.int p2), .val (.int p3), .val (.int p4), .val (.int p5), .val (.long nn), .second, .val (.int sv), .val (.int dv), .val (.ref ln), .val (.int fl), .unset, .unset, .unset, .unset, .unset, .unset] [(.int (4 : Int32)), (.long nn), (.int dv), (.int sv), (.ref ln)]))
    refine own_go (fun t_ kt_ => X10g.ldc2Long hx hown (mvT hZ (hw _ (List.mem_of_getElem? (i := 8) rfl))) (g := (mkF m 125 #[.val (.long q0), .second, .val (.int p1), .val (.int p2), .val (.int p3), .val (.int p4), .val (.int p5), .val (.long nn), .second, .val (.int sv), .val (.int dv), .val (.ref ln), .val (.int fl), .unset, .unset, .unset, .unset, .unset, .unset] [(.int (4 : Int32)), (.long nn), (.int dv), (.int sv), (.ref ln)])) rfl (hb hby at_125) _ kt_) ?_
    show own_Go p e below s _ _ _ (T10.setTop (mkF m 128 #[.val (.long q0), .second, .val (.int p1), .val (.int p2), .val (.int p3), .val (.int p4), .val (.int p5), .val (.long nn), .second, .val (.int sv), .val (.int dv), .val (.ref ln), .val (.int fl), .unset, .unset, .unset, .unset, .unset, .unset] [(.long (10000 : Int64)), (.int (4 : Int32)), (.long nn), (.int dv), (.int sv), (.ref ln)]))
    obtain ⟨_, _, ⟨T11, L11, k11, n11⟩, -, X11, ⟨Lc11, hQ11, l11, y11, z11⟩, st11⟩ := Jvm.LawKit.callS X10g hx (y := (⟨"com/example/ledgerstrike/ledgerstrike/journal/JournalFormatAfterNumberPinLaw", "digit", "([BIIJIJ)V"⟩ : MethodName)) hown (mvT hZ (hw _ (List.mem_of_getElem? (i := 24) rfl))) (mvT hZ (hw _ (List.mem_of_getElem? (i := 25) rfl))) (mvT hZ (hw _ (List.mem_of_getElem? (i := 3) rfl))) (mvT hZ (hw _ (List.mem_of_getElem? (i := 26) rfl))) (by decide) (backOf (W := 0) (rm2 l Z a0 hw [] (ln) (sv) (dv) (nn) ((4 : Int32)) ((10000 : Int64)) (uu10) (ss) (d) (N) (4) h10 n0 ZZ_10 Vq10 gt_ln hs hdv hN (by decide) (by decide +kernel) ⟨hs3, hd1, hd2, by decide⟩) hZ (hw _ (List.mem_of_getElem? (i := 26) rfl)) (hw _ (List.mem_of_getElem? (i := 3) rfl)) (by decide) (by decide)) (g := (mkF m 128 #[.val (.long q0), .second, .val (.int p1), .val (.int p2), .val (.int p3), .val (.int p4), .val (.int p5), .val (.long nn), .second, .val (.int sv), .val (.int dv), .val (.ref ln), .val (.int fl), .unset, .unset, .unset, .unset, .unset, .unset] [(.long (10000 : Int64)), (.int (4 : Int32)), (.long nn), (.int dv), (.int sv), (.ref ln)])) rfl (by rw [hml]; rfl) (argsL := [(.ref ln), (.int sv), (.int dv), (.long nn), (.int (4 : Int32)), (.long (10000 : Int64))]) (rest := []) (lenOf pd_1 rfl) rfl (by show 2 * 0 + _ ≤ _; exact Nat.le_of_eq rfl) (hb hby at_128) (fun _ _ => ⟨rfl, e10, (by decide : 1 + 0 ≤ _), (by decide : 26 + 0 ≤ _)⟩)
    dsimp only [Pt.U, Pt.locs, Pt.cells, Pt.slots] at X11 l11 y11 z11 st11 hQ11
    subst l11 y11 z11
    obtain ⟨rfl, Nq11, Kq11, uu11, Vq11, dy11, dn11⟩ := hQ11
    have N11 := Fr.app N10g Nq11
    refine own_go (fun t_ kt_ => st11 _ kt_) ?_
    obtain ⟨lo11, X11g, N11g⟩ : ∃ lo, Stand p l e room_1 s m #[(.long q0), (.int p1), (.int p2), (.int p3), (.int p4), (.int p5)] below meth c T11 lo 1 26 ∧ Fr n0 lo := ⟨_, X11, N11⟩
    obtain ⟨h11, e11⟩ : ∃ z, T11.heap = z := ⟨_, rfl⟩
    rw [e11] at Kq11 Vq11
    have ZZ_11 : n0 ≤ h11.size := Nat.le_trans ZZ_10 Kq11.1
    have hk5 := own_dstep hk4 dy11 dn11
    show own_Go p e below s _ _ _ (T11.setTop (mkF m 131 #[.val (.long q0), .second, .val (.int p1), .val (.int p2), .val (.int p3), .val (.int p4), .val (.int p5), .val (.long nn), .second, .val (.int sv), .val (.int dv), .val (.ref ln), .val (.int fl), .unset, .unset, .unset, .unset, .unset, .unset] []))
    refine own_go (fun t_ kt_ => XS.aload X11g.here hx rfl (hb hby at_131) rfl rfl kt_) ?_
    show own_Go p e below s _ _ _ (T11.setTop (mkF m 133 #[.val (.long q0), .second, .val (.int p1), .val (.int p2), .val (.int p3), .val (.int p4), .val (.int p5), .val (.long nn), .second, .val (.int sv), .val (.int dv), .val (.ref ln), .val (.int fl), .unset, .unset, .unset, .unset, .unset, .unset] [(.ref ln)]))
    refine own_go (fun t_ kt_ => XS.iload X11g.here hx rfl (hb hby at_133) rfl kt_) ?_
    show own_Go p e below s _ _ _ (T11.setTop (mkF m 135 #[.val (.long q0), .second, .val (.int p1), .val (.int p2), .val (.int p3), .val (.int p4), .val (.int p5), .val (.long nn), .second, .val (.int sv), .val (.int dv), .val (.ref ln), .val (.int fl), .unset, .unset, .unset, .unset, .unset, .unset] [(.int sv), (.ref ln)]))
    refine own_go (fun t_ kt_ => XS.iload X11g.here hx rfl (hb hby at_135) rfl kt_) ?_
    show own_Go p e below s _ _ _ (T11.setTop (mkF m 137 #[.val (.long q0), .second, .val (.int p1), .val (.int p2), .val (.int p3), .val (.int p4), .val (.int p5), .val (.long nn), .second, .val (.int sv), .val (.int dv), .val (.ref ln), .val (.int fl), .unset, .unset, .unset, .unset, .unset, .unset] [(.int dv), (.int sv), (.ref ln)]))
    refine own_go (fun t_ kt_ => XS.lload X11g.here hx rfl (hb hby at_137) rfl kt_) ?_
    show own_Go p e below s _ _ _ (T11.setTop (mkF m 139 #[.val (.long q0), .second, .val (.int p1), .val (.int p2), .val (.int p3), .val (.int p4), .val (.int p5), .val (.long nn), .second, .val (.int sv), .val (.int dv), .val (.ref ln), .val (.int fl), .unset, .unset, .unset, .unset, .unset, .unset] [(.long nn), (.int dv), (.int sv), (.ref ln)]))
    refine own_go (fun t_ kt_ => XS.iconst X11g.here hx rfl (hb hby at_139) kt_) ?_
    show own_Go p e below s _ _ _ (T11.setTop (mkF m 140 #[.val (.long q0), .second, .val (.int p1), .val (.int p2), .val (.int p3), .val (.int p4), .val (.int p5), .val (.long nn), .second, .val (.int sv), .val (.int dv), .val (.ref ln), .val (.int fl), .unset, .unset, .unset, .unset, .unset, .unset] [(.int (5 : Int32)), (.long nn), (.int dv), (.int sv), (.ref ln)]))
    refine own_go (fun t_ kt_ => X11g.ldc2Long hx hown (mvT hZ (hw _ (List.mem_of_getElem? (i := 9) rfl))) (g := (mkF m 140 #[.val (.long q0), .second, .val (.int p1), .val (.int p2), .val (.int p3), .val (.int p4), .val (.int p5), .val (.long nn), .second, .val (.int sv), .val (.int dv), .val (.ref ln), .val (.int fl), .unset, .unset, .unset, .unset, .unset, .unset] [(.int (5 : Int32)), (.long nn), (.int dv), (.int sv), (.ref ln)])) rfl (hb hby at_140) _ kt_) ?_
    show own_Go p e below s _ _ _ (T11.setTop (mkF m 143 #[.val (.long q0), .second, .val (.int p1), .val (.int p2), .val (.int p3), .val (.int p4), .val (.int p5), .val (.long nn), .second, .val (.int sv), .val (.int dv), .val (.ref ln), .val (.int fl), .unset, .unset, .unset, .unset, .unset, .unset] [(.long (100000 : Int64)), (.int (5 : Int32)), (.long nn), (.int dv), (.int sv), (.ref ln)]))
    obtain ⟨_, _, ⟨T12, L12, k12, n12⟩, -, X12, ⟨Lc12, hQ12, l12, y12, z12⟩, st12⟩ := Jvm.LawKit.callS X11g hx (y := (⟨"com/example/ledgerstrike/ledgerstrike/journal/JournalFormatAfterNumberPinLaw", "digit", "([BIIJIJ)V"⟩ : MethodName)) hown (mvT hZ (hw _ (List.mem_of_getElem? (i := 24) rfl))) (mvT hZ (hw _ (List.mem_of_getElem? (i := 25) rfl))) (mvT hZ (hw _ (List.mem_of_getElem? (i := 3) rfl))) (mvT hZ (hw _ (List.mem_of_getElem? (i := 26) rfl))) (by decide) (backOf (W := 0) (rm2 l Z a0 hw [] (ln) (sv) (dv) (nn) ((5 : Int32)) ((100000 : Int64)) (uu11) (ss) (d) (N) (5) h11 n0 ZZ_11 Vq11 gt_ln hs hdv hN (by decide) (by decide +kernel) ⟨hs3, hd1, hd2, by decide⟩) hZ (hw _ (List.mem_of_getElem? (i := 26) rfl)) (hw _ (List.mem_of_getElem? (i := 3) rfl)) (by decide) (by decide)) (g := (mkF m 143 #[.val (.long q0), .second, .val (.int p1), .val (.int p2), .val (.int p3), .val (.int p4), .val (.int p5), .val (.long nn), .second, .val (.int sv), .val (.int dv), .val (.ref ln), .val (.int fl), .unset, .unset, .unset, .unset, .unset, .unset] [(.long (100000 : Int64)), (.int (5 : Int32)), (.long nn), (.int dv), (.int sv), (.ref ln)])) rfl (by rw [hml]; rfl) (argsL := [(.ref ln), (.int sv), (.int dv), (.long nn), (.int (5 : Int32)), (.long (100000 : Int64))]) (rest := []) (lenOf pd_1 rfl) rfl (by show 2 * 0 + _ ≤ _; exact Nat.le_of_eq rfl) (hb hby at_143) (fun _ _ => ⟨rfl, e11, (by decide : 1 + 0 ≤ _), (by decide : 26 + 0 ≤ _)⟩)
    dsimp only [Pt.U, Pt.locs, Pt.cells, Pt.slots] at X12 l12 y12 z12 st12 hQ12
    subst l12 y12 z12
    obtain ⟨rfl, Nq12, Kq12, uu12, Vq12, dy12, dn12⟩ := hQ12
    have N12 := Fr.app N11g Nq12
    refine own_go (fun t_ kt_ => st12 _ kt_) ?_
    obtain ⟨lo12, X12g, N12g⟩ : ∃ lo, Stand p l e room_1 s m #[(.long q0), (.int p1), (.int p2), (.int p3), (.int p4), (.int p5)] below meth c T12 lo 1 26 ∧ Fr n0 lo := ⟨_, X12, N12⟩
    obtain ⟨h12, e12⟩ : ∃ z, T12.heap = z := ⟨_, rfl⟩
    rw [e12] at Kq12 Vq12
    have ZZ_12 : n0 ≤ h12.size := Nat.le_trans ZZ_11 Kq12.1
    have hk6 := own_dstep hk5 dy12 dn12
    show own_Go p e below s _ _ _ (T12.setTop (mkF m 146 #[.val (.long q0), .second, .val (.int p1), .val (.int p2), .val (.int p3), .val (.int p4), .val (.int p5), .val (.long nn), .second, .val (.int sv), .val (.int dv), .val (.ref ln), .val (.int fl), .unset, .unset, .unset, .unset, .unset, .unset] []))
    refine own_go (fun t_ kt_ => XS.aload X12g.here hx rfl (hb hby at_146) rfl rfl kt_) ?_
    show own_Go p e below s _ _ _ (T12.setTop (mkF m 148 #[.val (.long q0), .second, .val (.int p1), .val (.int p2), .val (.int p3), .val (.int p4), .val (.int p5), .val (.long nn), .second, .val (.int sv), .val (.int dv), .val (.ref ln), .val (.int fl), .unset, .unset, .unset, .unset, .unset, .unset] [(.ref ln)]))
    refine own_go (fun t_ kt_ => XS.iload X12g.here hx rfl (hb hby at_148) rfl kt_) ?_
    show own_Go p e below s _ _ _ (T12.setTop (mkF m 150 #[.val (.long q0), .second, .val (.int p1), .val (.int p2), .val (.int p3), .val (.int p4), .val (.int p5), .val (.long nn), .second, .val (.int sv), .val (.int dv), .val (.ref ln), .val (.int fl), .unset, .unset, .unset, .unset, .unset, .unset] [(.int sv), (.ref ln)]))
    refine own_go (fun t_ kt_ => XS.iload X12g.here hx rfl (hb hby at_150) rfl kt_) ?_
    show own_Go p e below s _ _ _ (T12.setTop (mkF m 152 #[.val (.long q0), .second, .val (.int p1), .val (.int p2), .val (.int p3), .val (.int p4), .val (.int p5), .val (.long nn), .second, .val (.int sv), .val (.int dv), .val (.ref ln), .val (.int fl), .unset, .unset, .unset, .unset, .unset, .unset] [(.int dv), (.int sv), (.ref ln)]))
    refine own_go (fun t_ kt_ => XS.lload X12g.here hx rfl (hb hby at_152) rfl kt_) ?_
    show own_Go p e below s _ _ _ (T12.setTop (mkF m 154 #[.val (.long q0), .second, .val (.int p1), .val (.int p2), .val (.int p3), .val (.int p4), .val (.int p5), .val (.long nn), .second, .val (.int sv), .val (.int dv), .val (.ref ln), .val (.int fl), .unset, .unset, .unset, .unset, .unset, .unset] [(.long nn), (.int dv), (.int sv), (.ref ln)]))
    refine own_go (fun t_ kt_ => XS.bipush X12g.here hx rfl (hb hby at_154) kt_) ?_
    show own_Go p e below s _ _ _ (T12.setTop (mkF m 156 #[.val (.long q0), .second, .val (.int p1), .val (.int p2), .val (.int p3), .val (.int p4), .val (.int p5), .val (.long nn), .second, .val (.int sv), .val (.int dv), .val (.ref ln), .val (.int fl), .unset, .unset, .unset, .unset, .unset, .unset] [(.int (6 : Int32)), (.long nn), (.int dv), (.int sv), (.ref ln)]))
    refine own_go (fun t_ kt_ => X12g.ldc2Long hx hown (mvT hZ (hw _ (List.mem_of_getElem? (i := 10) rfl))) (g := (mkF m 156 #[.val (.long q0), .second, .val (.int p1), .val (.int p2), .val (.int p3), .val (.int p4), .val (.int p5), .val (.long nn), .second, .val (.int sv), .val (.int dv), .val (.ref ln), .val (.int fl), .unset, .unset, .unset, .unset, .unset, .unset] [(.int (6 : Int32)), (.long nn), (.int dv), (.int sv), (.ref ln)])) rfl (hb hby at_156) _ kt_) ?_
    show own_Go p e below s _ _ _ (T12.setTop (mkF m 159 #[.val (.long q0), .second, .val (.int p1), .val (.int p2), .val (.int p3), .val (.int p4), .val (.int p5), .val (.long nn), .second, .val (.int sv), .val (.int dv), .val (.ref ln), .val (.int fl), .unset, .unset, .unset, .unset, .unset, .unset] [(.long (1000000 : Int64)), (.int (6 : Int32)), (.long nn), (.int dv), (.int sv), (.ref ln)]))
    obtain ⟨_, _, ⟨T13, L13, k13, n13⟩, -, X13, ⟨Lc13, hQ13, l13, y13, z13⟩, st13⟩ := Jvm.LawKit.callS X12g hx (y := (⟨"com/example/ledgerstrike/ledgerstrike/journal/JournalFormatAfterNumberPinLaw", "digit", "([BIIJIJ)V"⟩ : MethodName)) hown (mvT hZ (hw _ (List.mem_of_getElem? (i := 24) rfl))) (mvT hZ (hw _ (List.mem_of_getElem? (i := 25) rfl))) (mvT hZ (hw _ (List.mem_of_getElem? (i := 3) rfl))) (mvT hZ (hw _ (List.mem_of_getElem? (i := 26) rfl))) (by decide) (backOf (W := 0) (rm2 l Z a0 hw [] (ln) (sv) (dv) (nn) ((6 : Int32)) ((1000000 : Int64)) (uu12) (ss) (d) (N) (6) h12 n0 ZZ_12 Vq12 gt_ln hs hdv hN (by decide) (by decide +kernel) ⟨hs3, hd1, hd2, by decide⟩) hZ (hw _ (List.mem_of_getElem? (i := 26) rfl)) (hw _ (List.mem_of_getElem? (i := 3) rfl)) (by decide) (by decide)) (g := (mkF m 159 #[.val (.long q0), .second, .val (.int p1), .val (.int p2), .val (.int p3), .val (.int p4), .val (.int p5), .val (.long nn), .second, .val (.int sv), .val (.int dv), .val (.ref ln), .val (.int fl), .unset, .unset, .unset, .unset, .unset, .unset] [(.long (1000000 : Int64)), (.int (6 : Int32)), (.long nn), (.int dv), (.int sv), (.ref ln)])) rfl (by rw [hml]; rfl) (argsL := [(.ref ln), (.int sv), (.int dv), (.long nn), (.int (6 : Int32)), (.long (1000000 : Int64))]) (rest := []) (lenOf pd_1 rfl) rfl (by show 2 * 0 + _ ≤ _; exact Nat.le_of_eq rfl) (hb hby at_159) (fun _ _ => ⟨rfl, e12, (by decide : 1 + 0 ≤ _), (by decide : 26 + 0 ≤ _)⟩)
    dsimp only [Pt.U, Pt.locs, Pt.cells, Pt.slots] at X13 l13 y13 z13 st13 hQ13
    subst l13 y13 z13
    obtain ⟨rfl, Nq13, Kq13, uu13, Vq13, dy13, dn13⟩ := hQ13
    have N13 := Fr.app N12g Nq13
    refine own_go (fun t_ kt_ => st13 _ kt_) ?_
    obtain ⟨lo13, X13g, N13g⟩ : ∃ lo, Stand p l e room_1 s m #[(.long q0), (.int p1), (.int p2), (.int p3), (.int p4), (.int p5)] below meth c T13 lo 1 26 ∧ Fr n0 lo := ⟨_, X13, N13⟩
    obtain ⟨h13, e13⟩ : ∃ z, T13.heap = z := ⟨_, rfl⟩
    rw [e13] at Kq13 Vq13
    have ZZ_13 : n0 ≤ h13.size := Nat.le_trans ZZ_12 Kq13.1
    have hk7 := own_dstep hk6 dy13 dn13
    show own_Go p e below s _ _ _ (T13.setTop (mkF m 162 #[.val (.long q0), .second, .val (.int p1), .val (.int p2), .val (.int p3), .val (.int p4), .val (.int p5), .val (.long nn), .second, .val (.int sv), .val (.int dv), .val (.ref ln), .val (.int fl), .unset, .unset, .unset, .unset, .unset, .unset] []))
    refine own_go (fun t_ kt_ => XS.aload X13g.here hx rfl (hb hby at_162) rfl rfl kt_) ?_
    show own_Go p e below s _ _ _ (T13.setTop (mkF m 164 #[.val (.long q0), .second, .val (.int p1), .val (.int p2), .val (.int p3), .val (.int p4), .val (.int p5), .val (.long nn), .second, .val (.int sv), .val (.int dv), .val (.ref ln), .val (.int fl), .unset, .unset, .unset, .unset, .unset, .unset] [(.ref ln)]))
    refine own_go (fun t_ kt_ => XS.iload X13g.here hx rfl (hb hby at_164) rfl kt_) ?_
    show own_Go p e below s _ _ _ (T13.setTop (mkF m 166 #[.val (.long q0), .second, .val (.int p1), .val (.int p2), .val (.int p3), .val (.int p4), .val (.int p5), .val (.long nn), .second, .val (.int sv), .val (.int dv), .val (.ref ln), .val (.int fl), .unset, .unset, .unset, .unset, .unset, .unset] [(.int sv), (.ref ln)]))
    refine own_go (fun t_ kt_ => XS.iload X13g.here hx rfl (hb hby at_166) rfl kt_) ?_
    show own_Go p e below s _ _ _ (T13.setTop (mkF m 168 #[.val (.long q0), .second, .val (.int p1), .val (.int p2), .val (.int p3), .val (.int p4), .val (.int p5), .val (.long nn), .second, .val (.int sv), .val (.int dv), .val (.ref ln), .val (.int fl), .unset, .unset, .unset, .unset, .unset, .unset] [(.int dv), (.int sv), (.ref ln)]))
    refine own_go (fun t_ kt_ => XS.lload X13g.here hx rfl (hb hby at_168) rfl kt_) ?_
    show own_Go p e below s _ _ _ (T13.setTop (mkF m 170 #[.val (.long q0), .second, .val (.int p1), .val (.int p2), .val (.int p3), .val (.int p4), .val (.int p5), .val (.long nn), .second, .val (.int sv), .val (.int dv), .val (.ref ln), .val (.int fl), .unset, .unset, .unset, .unset, .unset, .unset] [(.long nn), (.int dv), (.int sv), (.ref ln)]))
    refine own_go (fun t_ kt_ => XS.bipush X13g.here hx rfl (hb hby at_170) kt_) ?_
    show own_Go p e below s _ _ _ (T13.setTop (mkF m 172 #[.val (.long q0), .second, .val (.int p1), .val (.int p2), .val (.int p3), .val (.int p4), .val (.int p5), .val (.long nn), .second, .val (.int sv), .val (.int dv), .val (.ref ln), .val (.int fl), .unset, .unset, .unset, .unset, .unset, .unset] [(.int (7 : Int32)), (.long nn), (.int dv), (.int sv), (.ref ln)]))
    refine own_go (fun t_ kt_ => X13g.ldc2Long hx hown (mvT hZ (hw _ (List.mem_of_getElem? (i := 11) rfl))) (g := (mkF m 172 #[.val (.long q0), .second, .val (.int p1), .val (.int p2), .val (.int p3), .val (.int p4), .val (.int p5), .val (.long nn), .second, .val (.int sv), .val (.int dv), .val (.ref ln), .val (.int fl), .unset, .unset, .unset, .unset, .unset, .unset] [(.int (7 : Int32)), (.long nn), (.int dv), (.int sv), (.ref ln)])) rfl (hb hby at_172) _ kt_) ?_
    show own_Go p e below s _ _ _ (T13.setTop (mkF m 175 #[.val (.long q0), .second, .val (.int p1), .val (.int p2), .val (.int p3), .val (.int p4), .val (.int p5), .val (.long nn), .second, .val (.int sv), .val (.int dv), .val (.ref ln), .val (.int fl), .unset, .unset, .unset, .unset, .unset, .unset] [(.long (10000000 : Int64)), (.int (7 : Int32)), (.long nn), (.int dv), (.int sv), (.ref ln)]))
    obtain ⟨_, _, ⟨T14, L14, k14, n14⟩, -, X14, ⟨Lc14, hQ14, l14, y14, z14⟩, st14⟩ := Jvm.LawKit.callS X13g hx (y := (⟨"com/example/ledgerstrike/ledgerstrike/journal/JournalFormatAfterNumberPinLaw", "digit", "([BIIJIJ)V"⟩ : MethodName)) hown (mvT hZ (hw _ (List.mem_of_getElem? (i := 24) rfl))) (mvT hZ (hw _ (List.mem_of_getElem? (i := 25) rfl))) (mvT hZ (hw _ (List.mem_of_getElem? (i := 3) rfl))) (mvT hZ (hw _ (List.mem_of_getElem? (i := 26) rfl))) (by decide) (backOf (W := 0) (rm2 l Z a0 hw [] (ln) (sv) (dv) (nn) ((7 : Int32)) ((10000000 : Int64)) (uu13) (ss) (d) (N) (7) h13 n0 ZZ_13 Vq13 gt_ln hs hdv hN (by decide) (by decide +kernel) ⟨hs3, hd1, hd2, by decide⟩) hZ (hw _ (List.mem_of_getElem? (i := 26) rfl)) (hw _ (List.mem_of_getElem? (i := 3) rfl)) (by decide) (by decide)) (g := (mkF m 175 #[.val (.long q0), .second, .val (.int p1), .val (.int p2), .val (.int p3), .val (.int p4), .val (.int p5), .val (.long nn), .second, .val (.int sv), .val (.int dv), .val (.ref ln), .val (.int fl), .unset, .unset, .unset, .unset, .unset, .unset] [(.long (10000000 : Int64)), (.int (7 : Int32)), (.long nn), (.int dv), (.int sv), (.ref ln)])) rfl (by rw [hml]; rfl) (argsL := [(.ref ln), (.int sv), (.int dv), (.long nn), (.int (7 : Int32)), (.long (10000000 : Int64))]) (rest := []) (lenOf pd_1 rfl) rfl (by show 2 * 0 + _ ≤ _; exact Nat.le_of_eq rfl) (hb hby at_175) (fun _ _ => ⟨rfl, e13, (by decide : 1 + 0 ≤ _), (by decide : 26 + 0 ≤ _)⟩)
    dsimp only [Pt.U, Pt.locs, Pt.cells, Pt.slots] at X14 l14 y14 z14 st14 hQ14
    subst l14 y14 z14
    obtain ⟨rfl, Nq14, Kq14, uu14, Vq14, dy14, dn14⟩ := hQ14
    have N14 := Fr.app N13g Nq14
    refine own_go (fun t_ kt_ => st14 _ kt_) ?_
    obtain ⟨lo14, X14g, N14g⟩ : ∃ lo, Stand p l e room_1 s m #[(.long q0), (.int p1), (.int p2), (.int p3), (.int p4), (.int p5)] below meth c T14 lo 1 26 ∧ Fr n0 lo := ⟨_, X14, N14⟩
    obtain ⟨h14, e14⟩ : ∃ z, T14.heap = z := ⟨_, rfl⟩
    rw [e14] at Kq14 Vq14
    have ZZ_14 : n0 ≤ h14.size := Nat.le_trans ZZ_13 Kq14.1
    have hk8 := own_dstep hk7 dy14 dn14
    show own_Go p e below s _ _ _ (T14.setTop (mkF m 178 #[.val (.long q0), .second, .val (.int p1), .val (.int p2), .val (.int p3), .val (.int p4), .val (.int p5), .val (.long nn), .second, .val (.int sv), .val (.int dv), .val (.ref ln), .val (.int fl), .unset, .unset, .unset, .unset, .unset, .unset] []))
    refine own_go (fun t_ kt_ => XS.aload X14g.here hx rfl (hb hby at_178) rfl rfl kt_) ?_
    show own_Go p e below s _ _ _ (T14.setTop (mkF m 180 #[.val (.long q0), .second, .val (.int p1), .val (.int p2), .val (.int p3), .val (.int p4), .val (.int p5), .val (.long nn), .second, .val (.int sv), .val (.int dv), .val (.ref ln), .val (.int fl), .unset, .unset, .unset, .unset, .unset, .unset] [(.ref ln)]))
    refine own_go (fun t_ kt_ => XS.iload X14g.here hx rfl (hb hby at_180) rfl kt_) ?_
    show own_Go p e below s _ _ _ (T14.setTop (mkF m 182 #[.val (.long q0), .second, .val (.int p1), .val (.int p2), .val (.int p3), .val (.int p4), .val (.int p5), .val (.long nn), .second, .val (.int sv), .val (.int dv), .val (.ref ln), .val (.int fl), .unset, .unset, .unset, .unset, .unset, .unset] [(.int sv), (.ref ln)]))
    refine own_go (fun t_ kt_ => XS.iload X14g.here hx rfl (hb hby at_182) rfl kt_) ?_
    show own_Go p e below s _ _ _ (T14.setTop (mkF m 184 #[.val (.long q0), .second, .val (.int p1), .val (.int p2), .val (.int p3), .val (.int p4), .val (.int p5), .val (.long nn), .second, .val (.int sv), .val (.int dv), .val (.ref ln), .val (.int fl), .unset, .unset, .unset, .unset, .unset, .unset] [(.int dv), (.int sv), (.ref ln)]))
    refine own_go (fun t_ kt_ => XS.lload X14g.here hx rfl (hb hby at_184) rfl kt_) ?_
    show own_Go p e below s _ _ _ (T14.setTop (mkF m 186 #[.val (.long q0), .second, .val (.int p1), .val (.int p2), .val (.int p3), .val (.int p4), .val (.int p5), .val (.long nn), .second, .val (.int sv), .val (.int dv), .val (.ref ln), .val (.int fl), .unset, .unset, .unset, .unset, .unset, .unset] [(.long nn), (.int dv), (.int sv), (.ref ln)]))
    refine own_go (fun t_ kt_ => XS.bipush X14g.here hx rfl (hb hby at_186) kt_) ?_
    show own_Go p e below s _ _ _ (T14.setTop (mkF m 188 #[.val (.long q0), .second, .val (.int p1), .val (.int p2), .val (.int p3), .val (.int p4), .val (.int p5), .val (.long nn), .second, .val (.int sv), .val (.int dv), .val (.ref ln), .val (.int fl), .unset, .unset, .unset, .unset, .unset, .unset] [(.int (8 : Int32)), (.long nn), (.int dv), (.int sv), (.ref ln)]))
    refine own_go (fun t_ kt_ => X14g.ldc2Long hx hown (mvT hZ (hw _ (List.mem_of_getElem? (i := 12) rfl))) (g := (mkF m 188 #[.val (.long q0), .second, .val (.int p1), .val (.int p2), .val (.int p3), .val (.int p4), .val (.int p5), .val (.long nn), .second, .val (.int sv), .val (.int dv), .val (.ref ln), .val (.int fl), .unset, .unset, .unset, .unset, .unset, .unset] [(.int (8 : Int32)), (.long nn), (.int dv), (.int sv), (.ref ln)])) rfl (hb hby at_188) _ kt_) ?_
    show own_Go p e below s _ _ _ (T14.setTop (mkF m 191 #[.val (.long q0), .second, .val (.int p1), .val (.int p2), .val (.int p3), .val (.int p4), .val (.int p5), .val (.long nn), .second, .val (.int sv), .val (.int dv), .val (.ref ln), .val (.int fl), .unset, .unset, .unset, .unset, .unset, .unset] [(.long (100000000 : Int64)), (.int (8 : Int32)), (.long nn), (.int dv), (.int sv), (.ref ln)]))
    obtain ⟨_, _, ⟨T15, L15, k15, n15⟩, -, X15, ⟨Lc15, hQ15, l15, y15, z15⟩, st15⟩ := Jvm.LawKit.callS X14g hx (y := (⟨"com/example/ledgerstrike/ledgerstrike/journal/JournalFormatAfterNumberPinLaw", "digit", "([BIIJIJ)V"⟩ : MethodName)) hown (mvT hZ (hw _ (List.mem_of_getElem? (i := 24) rfl))) (mvT hZ (hw _ (List.mem_of_getElem? (i := 25) rfl))) (mvT hZ (hw _ (List.mem_of_getElem? (i := 3) rfl))) (mvT hZ (hw _ (List.mem_of_getElem? (i := 26) rfl))) (by decide) (backOf (W := 0) (rm2 l Z a0 hw [] (ln) (sv) (dv) (nn) ((8 : Int32)) ((100000000 : Int64)) (uu14) (ss) (d) (N) (8) h14 n0 ZZ_14 Vq14 gt_ln hs hdv hN (by decide) (by decide +kernel) ⟨hs3, hd1, hd2, by decide⟩) hZ (hw _ (List.mem_of_getElem? (i := 26) rfl)) (hw _ (List.mem_of_getElem? (i := 3) rfl)) (by decide) (by decide)) (g := (mkF m 191 #[.val (.long q0), .second, .val (.int p1), .val (.int p2), .val (.int p3), .val (.int p4), .val (.int p5), .val (.long nn), .second, .val (.int sv), .val (.int dv), .val (.ref ln), .val (.int fl), .unset, .unset, .unset, .unset, .unset, .unset] [(.long (100000000 : Int64)), (.int (8 : Int32)), (.long nn), (.int dv), (.int sv), (.ref ln)])) rfl (by rw [hml]; rfl) (argsL := [(.ref ln), (.int sv), (.int dv), (.long nn), (.int (8 : Int32)), (.long (100000000 : Int64))]) (rest := []) (lenOf pd_1 rfl) rfl (by show 2 * 0 + _ ≤ _; exact Nat.le_of_eq rfl) (hb hby at_191) (fun _ _ => ⟨rfl, e14, (by decide : 1 + 0 ≤ _), (by decide : 26 + 0 ≤ _)⟩)
    dsimp only [Pt.U, Pt.locs, Pt.cells, Pt.slots] at X15 l15 y15 z15 st15 hQ15
    subst l15 y15 z15
    obtain ⟨rfl, Nq15, Kq15, uu15, Vq15, dy15, dn15⟩ := hQ15
    have N15 := Fr.app N14g Nq15
    refine own_go (fun t_ kt_ => st15 _ kt_) ?_
    obtain ⟨lo15, X15g, N15g⟩ : ∃ lo, Stand p l e room_1 s m #[(.long q0), (.int p1), (.int p2), (.int p3), (.int p4), (.int p5)] below meth c T15 lo 1 26 ∧ Fr n0 lo := ⟨_, X15, N15⟩
    obtain ⟨h15, e15⟩ : ∃ z, T15.heap = z := ⟨_, rfl⟩
    rw [e15] at Kq15 Vq15
    have ZZ_15 : n0 ≤ h15.size := Nat.le_trans ZZ_14 Kq15.1
    have hk9 := own_dstep hk8 dy15 dn15
    show own_Go p e below s _ _ _ (T15.setTop (mkF m 194 #[.val (.long q0), .second, .val (.int p1), .val (.int p2), .val (.int p3), .val (.int p4), .val (.int p5), .val (.long nn), .second, .val (.int sv), .val (.int dv), .val (.ref ln), .val (.int fl), .unset, .unset, .unset, .unset, .unset, .unset] []))
    refine own_go (fun t_ kt_ => XS.aload X15g.here hx rfl (hb hby at_194) rfl rfl kt_) ?_
    show own_Go p e below s _ _ _ (T15.setTop (mkF m 196 #[.val (.long q0), .second, .val (.int p1), .val (.int p2), .val (.int p3), .val (.int p4), .val (.int p5), .val (.long nn), .second, .val (.int sv), .val (.int dv), .val (.ref ln), .val (.int fl), .unset, .unset, .unset, .unset, .unset, .unset] [(.ref ln)]))
    refine own_go (fun t_ kt_ => XS.iload X15g.here hx rfl (hb hby at_196) rfl kt_) ?_
    show own_Go p e below s _ _ _ (T15.setTop (mkF m 198 #[.val (.long q0), .second, .val (.int p1), .val (.int p2), .val (.int p3), .val (.int p4), .val (.int p5), .val (.long nn), .second, .val (.int sv), .val (.int dv), .val (.ref ln), .val (.int fl), .unset, .unset, .unset, .unset, .unset, .unset] [(.int sv), (.ref ln)]))
    refine own_go (fun t_ kt_ => XS.iload X15g.here hx rfl (hb hby at_198) rfl kt_) ?_
    show own_Go p e below s _ _ _ (T15.setTop (mkF m 200 #[.val (.long q0), .second, .val (.int p1), .val (.int p2), .val (.int p3), .val (.int p4), .val (.int p5), .val (.long nn), .second, .val (.int sv), .val (.int dv), .val (.ref ln), .val (.int fl), .unset, .unset, .unset, .unset, .unset, .unset] [(.int dv), (.int sv), (.ref ln)]))
    refine own_go (fun t_ kt_ => XS.lload X15g.here hx rfl (hb hby at_200) rfl kt_) ?_
    show own_Go p e below s _ _ _ (T15.setTop (mkF m 202 #[.val (.long q0), .second, .val (.int p1), .val (.int p2), .val (.int p3), .val (.int p4), .val (.int p5), .val (.long nn), .second, .val (.int sv), .val (.int dv), .val (.ref ln), .val (.int fl), .unset, .unset, .unset, .unset, .unset, .unset] [(.long nn), (.int dv), (.int sv), (.ref ln)]))
    refine own_go (fun t_ kt_ => XS.bipush X15g.here hx rfl (hb hby at_202) kt_) ?_
    show own_Go p e below s _ _ _ (T15.setTop (mkF m 204 #[.val (.long q0), .second, .val (.int p1), .val (.int p2), .val (.int p3), .val (.int p4), .val (.int p5), .val (.long nn), .second, .val (.int sv), .val (.int dv), .val (.ref ln), .val (.int fl), .unset, .unset, .unset, .unset, .unset, .unset] [(.int (9 : Int32)), (.long nn), (.int dv), (.int sv), (.ref ln)]))
    refine own_go (fun t_ kt_ => X15g.ldc2Long hx hown (mvT hZ (hw _ (List.mem_of_getElem? (i := 13) rfl))) (g := (mkF m 204 #[.val (.long q0), .second, .val (.int p1), .val (.int p2), .val (.int p3), .val (.int p4), .val (.int p5), .val (.long nn), .second, .val (.int sv), .val (.int dv), .val (.ref ln), .val (.int fl), .unset, .unset, .unset, .unset, .unset, .unset] [(.int (9 : Int32)), (.long nn), (.int dv), (.int sv), (.ref ln)])) rfl (hb hby at_204) _ kt_) ?_
    show own_Go p e below s _ _ _ (T15.setTop (mkF m 207 #[.val (.long q0), .second, .val (.int p1), .val (.int p2), .val (.int p3), .val (.int p4), .val (.int p5), .val (.long nn), .second, .val (.int sv), .val (.int dv), .val (.ref ln), .val (.int fl), .unset, .unset, .unset, .unset, .unset, .unset] [(.long (1000000000 : Int64)), (.int (9 : Int32)), (.long nn), (.int dv), (.int sv), (.ref ln)]))
    obtain ⟨_, _, ⟨T16, L16, k16, n16⟩, -, X16, ⟨Lc16, hQ16, l16, y16, z16⟩, st16⟩ := Jvm.LawKit.callS X15g hx (y := (⟨"com/example/ledgerstrike/ledgerstrike/journal/JournalFormatAfterNumberPinLaw", "digit", "([BIIJIJ)V"⟩ : MethodName)) hown (mvT hZ (hw _ (List.mem_of_getElem? (i := 24) rfl))) (mvT hZ (hw _ (List.mem_of_getElem? (i := 25) rfl))) (mvT hZ (hw _ (List.mem_of_getElem? (i := 3) rfl))) (mvT hZ (hw _ (List.mem_of_getElem? (i := 26) rfl))) (by decide) (backOf (W := 0) (rm2 l Z a0 hw [] (ln) (sv) (dv) (nn) ((9 : Int32)) ((1000000000 : Int64)) (uu15) (ss) (d) (N) (9) h15 n0 ZZ_15 Vq15 gt_ln hs hdv hN (by decide) (by decide +kernel) ⟨hs3, hd1, hd2, by decide⟩) hZ (hw _ (List.mem_of_getElem? (i := 26) rfl)) (hw _ (List.mem_of_getElem? (i := 3) rfl)) (by decide) (by decide)) (g := (mkF m 207 #[.val (.long q0), .second, .val (.int p1), .val (.int p2), .val (.int p3), .val (.int p4), .val (.int p5), .val (.long nn), .second, .val (.int sv), .val (.int dv), .val (.ref ln), .val (.int fl), .unset, .unset, .unset, .unset, .unset, .unset] [(.long (1000000000 : Int64)), (.int (9 : Int32)), (.long nn), (.int dv), (.int sv), (.ref ln)])) rfl (by rw [hml]; rfl) (argsL := [(.ref ln), (.int sv), (.int dv), (.long nn), (.int (9 : Int32)), (.long (1000000000 : Int64))]) (rest := []) (lenOf pd_1 rfl) rfl (by show 2 * 0 + _ ≤ _; exact Nat.le_of_eq rfl) (hb hby at_207) (fun _ _ => ⟨rfl, e15, (by decide : 1 + 0 ≤ _), (by decide : 26 + 0 ≤ _)⟩)
    dsimp only [Pt.U, Pt.locs, Pt.cells, Pt.slots] at X16 l16 y16 z16 st16 hQ16
    subst l16 y16 z16
    obtain ⟨rfl, Nq16, Kq16, uu16, Vq16, dy16, dn16⟩ := hQ16
    have N16 := Fr.app N15g Nq16
    refine own_go (fun t_ kt_ => st16 _ kt_) ?_
    obtain ⟨lo16, X16g, N16g⟩ : ∃ lo, Stand p l e room_1 s m #[(.long q0), (.int p1), (.int p2), (.int p3), (.int p4), (.int p5)] below meth c T16 lo 1 26 ∧ Fr n0 lo := ⟨_, X16, N16⟩
    obtain ⟨h16, e16⟩ : ∃ z, T16.heap = z := ⟨_, rfl⟩
    rw [e16] at Kq16 Vq16
    have ZZ_16 : n0 ≤ h16.size := Nat.le_trans ZZ_15 Kq16.1
    have hk10 := own_dstep hk9 dy16 dn16
    show own_Go p e below s _ _ _ (T16.setTop (mkF m 210 #[.val (.long q0), .second, .val (.int p1), .val (.int p2), .val (.int p3), .val (.int p4), .val (.int p5), .val (.long nn), .second, .val (.int sv), .val (.int dv), .val (.ref ln), .val (.int fl), .unset, .unset, .unset, .unset, .unset, .unset] []))
    refine own_go (fun t_ kt_ => XS.aload X16g.here hx rfl (hb hby at_210) rfl rfl kt_) ?_
    show own_Go p e below s _ _ _ (T16.setTop (mkF m 212 #[.val (.long q0), .second, .val (.int p1), .val (.int p2), .val (.int p3), .val (.int p4), .val (.int p5), .val (.long nn), .second, .val (.int sv), .val (.int dv), .val (.ref ln), .val (.int fl), .unset, .unset, .unset, .unset, .unset, .unset] [(.ref ln)]))
    refine own_go (fun t_ kt_ => XS.iload X16g.here hx rfl (hb hby at_212) rfl kt_) ?_
    show own_Go p e below s _ _ _ (T16.setTop (mkF m 214 #[.val (.long q0), .second, .val (.int p1), .val (.int p2), .val (.int p3), .val (.int p4), .val (.int p5), .val (.long nn), .second, .val (.int sv), .val (.int dv), .val (.ref ln), .val (.int fl), .unset, .unset, .unset, .unset, .unset, .unset] [(.int sv), (.ref ln)]))
    refine own_go (fun t_ kt_ => XS.iload X16g.here hx rfl (hb hby at_214) rfl kt_) ?_
    show own_Go p e below s _ _ _ (T16.setTop (mkF m 216 #[.val (.long q0), .second, .val (.int p1), .val (.int p2), .val (.int p3), .val (.int p4), .val (.int p5), .val (.long nn), .second, .val (.int sv), .val (.int dv), .val (.ref ln), .val (.int fl), .unset, .unset, .unset, .unset, .unset, .unset] [(.int dv), (.int sv), (.ref ln)]))
    refine own_go (fun t_ kt_ => XS.lload X16g.here hx rfl (hb hby at_216) rfl kt_) ?_
    show own_Go p e below s _ _ _ (T16.setTop (mkF m 218 #[.val (.long q0), .second, .val (.int p1), .val (.int p2), .val (.int p3), .val (.int p4), .val (.int p5), .val (.long nn), .second, .val (.int sv), .val (.int dv), .val (.ref ln), .val (.int fl), .unset, .unset, .unset, .unset, .unset, .unset] [(.long nn), (.int dv), (.int sv), (.ref ln)]))
    refine own_go (fun t_ kt_ => XS.bipush X16g.here hx rfl (hb hby at_218) kt_) ?_
    show own_Go p e below s _ _ _ (T16.setTop (mkF m 220 #[.val (.long q0), .second, .val (.int p1), .val (.int p2), .val (.int p3), .val (.int p4), .val (.int p5), .val (.long nn), .second, .val (.int sv), .val (.int dv), .val (.ref ln), .val (.int fl), .unset, .unset, .unset, .unset, .unset, .unset] [(.int (10 : Int32)), (.long nn), (.int dv), (.int sv), (.ref ln)]))
    refine own_go (fun t_ kt_ => X16g.ldc2Long hx hown (mvT hZ (hw _ (List.mem_of_getElem? (i := 14) rfl))) (g := (mkF m 220 #[.val (.long q0), .second, .val (.int p1), .val (.int p2), .val (.int p3), .val (.int p4), .val (.int p5), .val (.long nn), .second, .val (.int sv), .val (.int dv), .val (.ref ln), .val (.int fl), .unset, .unset, .unset, .unset, .unset, .unset] [(.int (10 : Int32)), (.long nn), (.int dv), (.int sv), (.ref ln)])) rfl (hb hby at_220) _ kt_) ?_
    show own_Go p e below s _ _ _ (T16.setTop (mkF m 223 #[.val (.long q0), .second, .val (.int p1), .val (.int p2), .val (.int p3), .val (.int p4), .val (.int p5), .val (.long nn), .second, .val (.int sv), .val (.int dv), .val (.ref ln), .val (.int fl), .unset, .unset, .unset, .unset, .unset, .unset] [(.long (10000000000 : Int64)), (.int (10 : Int32)), (.long nn), (.int dv), (.int sv), (.ref ln)]))
    obtain ⟨_, _, ⟨T17, L17, k17, n17⟩, -, X17, ⟨Lc17, hQ17, l17, y17, z17⟩, st17⟩ := Jvm.LawKit.callS X16g hx (y := (⟨"com/example/ledgerstrike/ledgerstrike/journal/JournalFormatAfterNumberPinLaw", "digit", "([BIIJIJ)V"⟩ : MethodName)) hown (mvT hZ (hw _ (List.mem_of_getElem? (i := 24) rfl))) (mvT hZ (hw _ (List.mem_of_getElem? (i := 25) rfl))) (mvT hZ (hw _ (List.mem_of_getElem? (i := 3) rfl))) (mvT hZ (hw _ (List.mem_of_getElem? (i := 26) rfl))) (by decide) (backOf (W := 0) (rm2 l Z a0 hw [] (ln) (sv) (dv) (nn) ((10 : Int32)) ((10000000000 : Int64)) (uu16) (ss) (d) (N) (10) h16 n0 ZZ_16 Vq16 gt_ln hs hdv hN (by decide) (by decide +kernel) ⟨hs3, hd1, hd2, by decide⟩) hZ (hw _ (List.mem_of_getElem? (i := 26) rfl)) (hw _ (List.mem_of_getElem? (i := 3) rfl)) (by decide) (by decide)) (g := (mkF m 223 #[.val (.long q0), .second, .val (.int p1), .val (.int p2), .val (.int p3), .val (.int p4), .val (.int p5), .val (.long nn), .second, .val (.int sv), .val (.int dv), .val (.ref ln), .val (.int fl), .unset, .unset, .unset, .unset, .unset, .unset] [(.long (10000000000 : Int64)), (.int (10 : Int32)), (.long nn), (.int dv), (.int sv), (.ref ln)])) rfl (by rw [hml]; rfl) (argsL := [(.ref ln), (.int sv), (.int dv), (.long nn), (.int (10 : Int32)), (.long (10000000000 : Int64))]) (rest := []) (lenOf pd_1 rfl) rfl (by show 2 * 0 + _ ≤ _; exact Nat.le_of_eq rfl) (hb hby at_223) (fun _ _ => ⟨rfl, e16, (by decide : 1 + 0 ≤ _), (by decide : 26 + 0 ≤ _)⟩)
    dsimp only [Pt.U, Pt.locs, Pt.cells, Pt.slots] at X17 l17 y17 z17 st17 hQ17
    subst l17 y17 z17
    obtain ⟨rfl, Nq17, Kq17, uu17, Vq17, dy17, dn17⟩ := hQ17
    have N17 := Fr.app N16g Nq17
    refine own_go (fun t_ kt_ => st17 _ kt_) ?_
    obtain ⟨lo17, X17g, N17g⟩ : ∃ lo, Stand p l e room_1 s m #[(.long q0), (.int p1), (.int p2), (.int p3), (.int p4), (.int p5)] below meth c T17 lo 1 26 ∧ Fr n0 lo := ⟨_, X17, N17⟩
    obtain ⟨h17, e17⟩ : ∃ z, T17.heap = z := ⟨_, rfl⟩
    rw [e17] at Kq17 Vq17
    have ZZ_17 : n0 ≤ h17.size := Nat.le_trans ZZ_16 Kq17.1
    have hk11 := own_dstep hk10 dy17 dn17
    show own_Go p e below s _ _ _ (T17.setTop (mkF m 226 #[.val (.long q0), .second, .val (.int p1), .val (.int p2), .val (.int p3), .val (.int p4), .val (.int p5), .val (.long nn), .second, .val (.int sv), .val (.int dv), .val (.ref ln), .val (.int fl), .unset, .unset, .unset, .unset, .unset, .unset] []))
    refine own_go (fun t_ kt_ => XS.aload X17g.here hx rfl (hb hby at_226) rfl rfl kt_) ?_
    show own_Go p e below s _ _ _ (T17.setTop (mkF m 228 #[.val (.long q0), .second, .val (.int p1), .val (.int p2), .val (.int p3), .val (.int p4), .val (.int p5), .val (.long nn), .second, .val (.int sv), .val (.int dv), .val (.ref ln), .val (.int fl), .unset, .unset, .unset, .unset, .unset, .unset] [(.ref ln)]))
    refine own_go (fun t_ kt_ => XS.iload X17g.here hx rfl (hb hby at_228) rfl kt_) ?_
    show own_Go p e below s _ _ _ (T17.setTop (mkF m 230 #[.val (.long q0), .second, .val (.int p1), .val (.int p2), .val (.int p3), .val (.int p4), .val (.int p5), .val (.long nn), .second, .val (.int sv), .val (.int dv), .val (.ref ln), .val (.int fl), .unset, .unset, .unset, .unset, .unset, .unset] [(.int sv), (.ref ln)]))
    refine own_go (fun t_ kt_ => XS.iload X17g.here hx rfl (hb hby at_230) rfl kt_) ?_
    show own_Go p e below s _ _ _ (T17.setTop (mkF m 232 #[.val (.long q0), .second, .val (.int p1), .val (.int p2), .val (.int p3), .val (.int p4), .val (.int p5), .val (.long nn), .second, .val (.int sv), .val (.int dv), .val (.ref ln), .val (.int fl), .unset, .unset, .unset, .unset, .unset, .unset] [(.int dv), (.int sv), (.ref ln)]))
    refine own_go (fun t_ kt_ => XS.lload X17g.here hx rfl (hb hby at_232) rfl kt_) ?_
    show own_Go p e below s _ _ _ (T17.setTop (mkF m 234 #[.val (.long q0), .second, .val (.int p1), .val (.int p2), .val (.int p3), .val (.int p4), .val (.int p5), .val (.long nn), .second, .val (.int sv), .val (.int dv), .val (.ref ln), .val (.int fl), .unset, .unset, .unset, .unset, .unset, .unset] [(.long nn), (.int dv), (.int sv), (.ref ln)]))
    refine own_go (fun t_ kt_ => XS.bipush X17g.here hx rfl (hb hby at_234) kt_) ?_
    show own_Go p e below s _ _ _ (T17.setTop (mkF m 236 #[.val (.long q0), .second, .val (.int p1), .val (.int p2), .val (.int p3), .val (.int p4), .val (.int p5), .val (.long nn), .second, .val (.int sv), .val (.int dv), .val (.ref ln), .val (.int fl), .unset, .unset, .unset, .unset, .unset, .unset] [(.int (11 : Int32)), (.long nn), (.int dv), (.int sv), (.ref ln)]))
    refine own_go (fun t_ kt_ => X17g.ldc2Long hx hown (mvT hZ (hw _ (List.mem_of_getElem? (i := 15) rfl))) (g := (mkF m 236 #[.val (.long q0), .second, .val (.int p1), .val (.int p2), .val (.int p3), .val (.int p4), .val (.int p5), .val (.long nn), .second, .val (.int sv), .val (.int dv), .val (.ref ln), .val (.int fl), .unset, .unset, .unset, .unset, .unset, .unset] [(.int (11 : Int32)), (.long nn), (.int dv), (.int sv), (.ref ln)])) rfl (hb hby at_236) _ kt_) ?_
    show own_Go p e below s _ _ _ (T17.setTop (mkF m 239 #[.val (.long q0), .second, .val (.int p1), .val (.int p2), .val (.int p3), .val (.int p4), .val (.int p5), .val (.long nn), .second, .val (.int sv), .val (.int dv), .val (.ref ln), .val (.int fl), .unset, .unset, .unset, .unset, .unset, .unset] [(.long (100000000000 : Int64)), (.int (11 : Int32)), (.long nn), (.int dv), (.int sv), (.ref ln)]))
    obtain ⟨_, _, ⟨T18, L18, k18, n18⟩, -, X18, ⟨Lc18, hQ18, l18, y18, z18⟩, st18⟩ := Jvm.LawKit.callS X17g hx (y := (⟨"com/example/ledgerstrike/ledgerstrike/journal/JournalFormatAfterNumberPinLaw", "digit", "([BIIJIJ)V"⟩ : MethodName)) hown (mvT hZ (hw _ (List.mem_of_getElem? (i := 24) rfl))) (mvT hZ (hw _ (List.mem_of_getElem? (i := 25) rfl))) (mvT hZ (hw _ (List.mem_of_getElem? (i := 3) rfl))) (mvT hZ (hw _ (List.mem_of_getElem? (i := 26) rfl))) (by decide) (backOf (W := 0) (rm2 l Z a0 hw [] (ln) (sv) (dv) (nn) ((11 : Int32)) ((100000000000 : Int64)) (uu17) (ss) (d) (N) (11) h17 n0 ZZ_17 Vq17 gt_ln hs hdv hN (by decide) (by decide +kernel) ⟨hs3, hd1, hd2, by decide⟩) hZ (hw _ (List.mem_of_getElem? (i := 26) rfl)) (hw _ (List.mem_of_getElem? (i := 3) rfl)) (by decide) (by decide)) (g := (mkF m 239 #[.val (.long q0), .second, .val (.int p1), .val (.int p2), .val (.int p3), .val (.int p4), .val (.int p5), .val (.long nn), .second, .val (.int sv), .val (.int dv), .val (.ref ln), .val (.int fl), .unset, .unset, .unset, .unset, .unset, .unset] [(.long (100000000000 : Int64)), (.int (11 : Int32)), (.long nn), (.int dv), (.int sv), (.ref ln)])) rfl (by rw [hml]; rfl) (argsL := [(.ref ln), (.int sv), (.int dv), (.long nn), (.int (11 : Int32)), (.long (100000000000 : Int64))]) (rest := []) (lenOf pd_1 rfl) rfl (by show 2 * 0 + _ ≤ _; exact Nat.le_of_eq rfl) (hb hby at_239) (fun _ _ => ⟨rfl, e17, (by decide : 1 + 0 ≤ _), (by decide : 26 + 0 ≤ _)⟩)
    dsimp only [Pt.U, Pt.locs, Pt.cells, Pt.slots] at X18 l18 y18 z18 st18 hQ18
    subst l18 y18 z18
    obtain ⟨rfl, Nq18, Kq18, uu18, Vq18, dy18, dn18⟩ := hQ18
    have N18 := Fr.app N17g Nq18
    refine own_go (fun t_ kt_ => st18 _ kt_) ?_
    obtain ⟨lo18, X18g, N18g⟩ : ∃ lo, Stand p l e room_1 s m #[(.long q0), (.int p1), (.int p2), (.int p3), (.int p4), (.int p5)] below meth c T18 lo 1 26 ∧ Fr n0 lo := ⟨_, X18, N18⟩
    obtain ⟨h18, e18⟩ : ∃ z, T18.heap = z := ⟨_, rfl⟩
    rw [e18] at Kq18 Vq18
    have ZZ_18 : n0 ≤ h18.size := Nat.le_trans ZZ_17 Kq18.1
    have hk12 := own_dstep hk11 dy18 dn18
    show own_Go p e below s _ _ _ (T18.setTop (mkF m 242 #[.val (.long q0), .second, .val (.int p1), .val (.int p2), .val (.int p3), .val (.int p4), .val (.int p5), .val (.long nn), .second, .val (.int sv), .val (.int dv), .val (.ref ln), .val (.int fl), .unset, .unset, .unset, .unset, .unset, .unset] []))
    refine own_go (fun t_ kt_ => XS.aload X18g.here hx rfl (hb hby at_242) rfl rfl kt_) ?_
    show own_Go p e below s _ _ _ (T18.setTop (mkF m 244 #[.val (.long q0), .second, .val (.int p1), .val (.int p2), .val (.int p3), .val (.int p4), .val (.int p5), .val (.long nn), .second, .val (.int sv), .val (.int dv), .val (.ref ln), .val (.int fl), .unset, .unset, .unset, .unset, .unset, .unset] [(.ref ln)]))
    refine own_go (fun t_ kt_ => XS.iload X18g.here hx rfl (hb hby at_244) rfl kt_) ?_
    show own_Go p e below s _ _ _ (T18.setTop (mkF m 246 #[.val (.long q0), .second, .val (.int p1), .val (.int p2), .val (.int p3), .val (.int p4), .val (.int p5), .val (.long nn), .second, .val (.int sv), .val (.int dv), .val (.ref ln), .val (.int fl), .unset, .unset, .unset, .unset, .unset, .unset] [(.int sv), (.ref ln)]))
    refine own_go (fun t_ kt_ => XS.iload X18g.here hx rfl (hb hby at_246) rfl kt_) ?_
    show own_Go p e below s _ _ _ (T18.setTop (mkF m 248 #[.val (.long q0), .second, .val (.int p1), .val (.int p2), .val (.int p3), .val (.int p4), .val (.int p5), .val (.long nn), .second, .val (.int sv), .val (.int dv), .val (.ref ln), .val (.int fl), .unset, .unset, .unset, .unset, .unset, .unset] [(.int dv), (.int sv), (.ref ln)]))
    refine own_go (fun t_ kt_ => XS.lload X18g.here hx rfl (hb hby at_248) rfl kt_) ?_
    show own_Go p e below s _ _ _ (T18.setTop (mkF m 250 #[.val (.long q0), .second, .val (.int p1), .val (.int p2), .val (.int p3), .val (.int p4), .val (.int p5), .val (.long nn), .second, .val (.int sv), .val (.int dv), .val (.ref ln), .val (.int fl), .unset, .unset, .unset, .unset, .unset, .unset] [(.long nn), (.int dv), (.int sv), (.ref ln)]))
    refine own_go (fun t_ kt_ => XS.bipush X18g.here hx rfl (hb hby at_250) kt_) ?_
    show own_Go p e below s _ _ _ (T18.setTop (mkF m 252 #[.val (.long q0), .second, .val (.int p1), .val (.int p2), .val (.int p3), .val (.int p4), .val (.int p5), .val (.long nn), .second, .val (.int sv), .val (.int dv), .val (.ref ln), .val (.int fl), .unset, .unset, .unset, .unset, .unset, .unset] [(.int (12 : Int32)), (.long nn), (.int dv), (.int sv), (.ref ln)]))
    refine own_go (fun t_ kt_ => X18g.ldc2Long hx hown (mvT hZ (hw _ (List.mem_of_getElem? (i := 16) rfl))) (g := (mkF m 252 #[.val (.long q0), .second, .val (.int p1), .val (.int p2), .val (.int p3), .val (.int p4), .val (.int p5), .val (.long nn), .second, .val (.int sv), .val (.int dv), .val (.ref ln), .val (.int fl), .unset, .unset, .unset, .unset, .unset, .unset] [(.int (12 : Int32)), (.long nn), (.int dv), (.int sv), (.ref ln)])) rfl (hb hby at_252) _ kt_) ?_
    show own_Go p e below s _ _ _ (T18.setTop (mkF m 255 #[.val (.long q0), .second, .val (.int p1), .val (.int p2), .val (.int p3), .val (.int p4), .val (.int p5), .val (.long nn), .second, .val (.int sv), .val (.int dv), .val (.ref ln), .val (.int fl), .unset, .unset, .unset, .unset, .unset, .unset] [(.long (1000000000000 : Int64)), (.int (12 : Int32)), (.long nn), (.int dv), (.int sv), (.ref ln)]))
    obtain ⟨_, _, ⟨T19, L19, k19, n19⟩, -, X19, ⟨Lc19, hQ19, l19, y19, z19⟩, st19⟩ := Jvm.LawKit.callS X18g hx (y := (⟨"com/example/ledgerstrike/ledgerstrike/journal/JournalFormatAfterNumberPinLaw", "digit", "([BIIJIJ)V"⟩ : MethodName)) hown (mvT hZ (hw _ (List.mem_of_getElem? (i := 24) rfl))) (mvT hZ (hw _ (List.mem_of_getElem? (i := 25) rfl))) (mvT hZ (hw _ (List.mem_of_getElem? (i := 3) rfl))) (mvT hZ (hw _ (List.mem_of_getElem? (i := 26) rfl))) (by decide) (backOf (W := 0) (rm2 l Z a0 hw [] (ln) (sv) (dv) (nn) ((12 : Int32)) ((1000000000000 : Int64)) (uu18) (ss) (d) (N) (12) h18 n0 ZZ_18 Vq18 gt_ln hs hdv hN (by decide) (by decide +kernel) ⟨hs3, hd1, hd2, by decide⟩) hZ (hw _ (List.mem_of_getElem? (i := 26) rfl)) (hw _ (List.mem_of_getElem? (i := 3) rfl)) (by decide) (by decide)) (g := (mkF m 255 #[.val (.long q0), .second, .val (.int p1), .val (.int p2), .val (.int p3), .val (.int p4), .val (.int p5), .val (.long nn), .second, .val (.int sv), .val (.int dv), .val (.ref ln), .val (.int fl), .unset, .unset, .unset, .unset, .unset, .unset] [(.long (1000000000000 : Int64)), (.int (12 : Int32)), (.long nn), (.int dv), (.int sv), (.ref ln)])) rfl (by rw [hml]; rfl) (argsL := [(.ref ln), (.int sv), (.int dv), (.long nn), (.int (12 : Int32)), (.long (1000000000000 : Int64))]) (rest := []) (lenOf pd_1 rfl) rfl (by show 2 * 0 + _ ≤ _; exact Nat.le_of_eq rfl) (hb hby at_255) (fun _ _ => ⟨rfl, e18, (by decide : 1 + 0 ≤ _), (by decide : 26 + 0 ≤ _)⟩)
    dsimp only [Pt.U, Pt.locs, Pt.cells, Pt.slots] at X19 l19 y19 z19 st19 hQ19
    subst l19 y19 z19
    obtain ⟨rfl, Nq19, Kq19, uu19, Vq19, dy19, dn19⟩ := hQ19
    have N19 := Fr.app N18g Nq19
    refine own_go (fun t_ kt_ => st19 _ kt_) ?_
    obtain ⟨lo19, X19g, N19g⟩ : ∃ lo, Stand p l e room_1 s m #[(.long q0), (.int p1), (.int p2), (.int p3), (.int p4), (.int p5)] below meth c T19 lo 1 26 ∧ Fr n0 lo := ⟨_, X19, N19⟩
    obtain ⟨h19, e19⟩ : ∃ z, T19.heap = z := ⟨_, rfl⟩
    rw [e19] at Kq19 Vq19
    have ZZ_19 : n0 ≤ h19.size := Nat.le_trans ZZ_18 Kq19.1
    have hk13 := own_dstep hk12 dy19 dn19
    show own_Go p e below s _ _ _ (T19.setTop (mkF m 258 #[.val (.long q0), .second, .val (.int p1), .val (.int p2), .val (.int p3), .val (.int p4), .val (.int p5), .val (.long nn), .second, .val (.int sv), .val (.int dv), .val (.ref ln), .val (.int fl), .unset, .unset, .unset, .unset, .unset, .unset] []))
    refine own_go (fun t_ kt_ => XS.aload X19g.here hx rfl (hb hby at_258) rfl rfl kt_) ?_
    show own_Go p e below s _ _ _ (T19.setTop (mkF m 260 #[.val (.long q0), .second, .val (.int p1), .val (.int p2), .val (.int p3), .val (.int p4), .val (.int p5), .val (.long nn), .second, .val (.int sv), .val (.int dv), .val (.ref ln), .val (.int fl), .unset, .unset, .unset, .unset, .unset, .unset] [(.ref ln)]))
    refine own_go (fun t_ kt_ => XS.iload X19g.here hx rfl (hb hby at_260) rfl kt_) ?_
    show own_Go p e below s _ _ _ (T19.setTop (mkF m 262 #[.val (.long q0), .second, .val (.int p1), .val (.int p2), .val (.int p3), .val (.int p4), .val (.int p5), .val (.long nn), .second, .val (.int sv), .val (.int dv), .val (.ref ln), .val (.int fl), .unset, .unset, .unset, .unset, .unset, .unset] [(.int sv), (.ref ln)]))
    refine own_go (fun t_ kt_ => XS.iload X19g.here hx rfl (hb hby at_262) rfl kt_) ?_
    show own_Go p e below s _ _ _ (T19.setTop (mkF m 264 #[.val (.long q0), .second, .val (.int p1), .val (.int p2), .val (.int p3), .val (.int p4), .val (.int p5), .val (.long nn), .second, .val (.int sv), .val (.int dv), .val (.ref ln), .val (.int fl), .unset, .unset, .unset, .unset, .unset, .unset] [(.int dv), (.int sv), (.ref ln)]))
    refine own_go (fun t_ kt_ => XS.lload X19g.here hx rfl (hb hby at_264) rfl kt_) ?_
    show own_Go p e below s _ _ _ (T19.setTop (mkF m 266 #[.val (.long q0), .second, .val (.int p1), .val (.int p2), .val (.int p3), .val (.int p4), .val (.int p5), .val (.long nn), .second, .val (.int sv), .val (.int dv), .val (.ref ln), .val (.int fl), .unset, .unset, .unset, .unset, .unset, .unset] [(.long nn), (.int dv), (.int sv), (.ref ln)]))
    refine own_go (fun t_ kt_ => XS.bipush X19g.here hx rfl (hb hby at_266) kt_) ?_
    show own_Go p e below s _ _ _ (T19.setTop (mkF m 268 #[.val (.long q0), .second, .val (.int p1), .val (.int p2), .val (.int p3), .val (.int p4), .val (.int p5), .val (.long nn), .second, .val (.int sv), .val (.int dv), .val (.ref ln), .val (.int fl), .unset, .unset, .unset, .unset, .unset, .unset] [(.int (13 : Int32)), (.long nn), (.int dv), (.int sv), (.ref ln)]))
    refine own_go (fun t_ kt_ => X19g.ldc2Long hx hown (mvT hZ (hw _ (List.mem_of_getElem? (i := 17) rfl))) (g := (mkF m 268 #[.val (.long q0), .second, .val (.int p1), .val (.int p2), .val (.int p3), .val (.int p4), .val (.int p5), .val (.long nn), .second, .val (.int sv), .val (.int dv), .val (.ref ln), .val (.int fl), .unset, .unset, .unset, .unset, .unset, .unset] [(.int (13 : Int32)), (.long nn), (.int dv), (.int sv), (.ref ln)])) rfl (hb hby at_268) _ kt_) ?_
    show own_Go p e below s _ _ _ (T19.setTop (mkF m 271 #[.val (.long q0), .second, .val (.int p1), .val (.int p2), .val (.int p3), .val (.int p4), .val (.int p5), .val (.long nn), .second, .val (.int sv), .val (.int dv), .val (.ref ln), .val (.int fl), .unset, .unset, .unset, .unset, .unset, .unset] [(.long (10000000000000 : Int64)), (.int (13 : Int32)), (.long nn), (.int dv), (.int sv), (.ref ln)]))
    obtain ⟨_, _, ⟨T20, L20, k20, n20⟩, -, X20, ⟨Lc20, hQ20, l20, y20, z20⟩, st20⟩ := Jvm.LawKit.callS X19g hx (y := (⟨"com/example/ledgerstrike/ledgerstrike/journal/JournalFormatAfterNumberPinLaw", "digit", "([BIIJIJ)V"⟩ : MethodName)) hown (mvT hZ (hw _ (List.mem_of_getElem? (i := 24) rfl))) (mvT hZ (hw _ (List.mem_of_getElem? (i := 25) rfl))) (mvT hZ (hw _ (List.mem_of_getElem? (i := 3) rfl))) (mvT hZ (hw _ (List.mem_of_getElem? (i := 26) rfl))) (by decide) (backOf (W := 0) (rm2 l Z a0 hw [] (ln) (sv) (dv) (nn) ((13 : Int32)) ((10000000000000 : Int64)) (uu19) (ss) (d) (N) (13) h19 n0 ZZ_19 Vq19 gt_ln hs hdv hN (by decide) (by decide +kernel) ⟨hs3, hd1, hd2, by decide⟩) hZ (hw _ (List.mem_of_getElem? (i := 26) rfl)) (hw _ (List.mem_of_getElem? (i := 3) rfl)) (by decide) (by decide)) (g := (mkF m 271 #[.val (.long q0), .second, .val (.int p1), .val (.int p2), .val (.int p3), .val (.int p4), .val (.int p5), .val (.long nn), .second, .val (.int sv), .val (.int dv), .val (.ref ln), .val (.int fl), .unset, .unset, .unset, .unset, .unset, .unset] [(.long (10000000000000 : Int64)), (.int (13 : Int32)), (.long nn), (.int dv), (.int sv), (.ref ln)])) rfl (by rw [hml]; rfl) (argsL := [(.ref ln), (.int sv), (.int dv), (.long nn), (.int (13 : Int32)), (.long (10000000000000 : Int64))]) (rest := []) (lenOf pd_1 rfl) rfl (by show 2 * 0 + _ ≤ _; exact Nat.le_of_eq rfl) (hb hby at_271) (fun _ _ => ⟨rfl, e19, (by decide : 1 + 0 ≤ _), (by decide : 26 + 0 ≤ _)⟩)
    dsimp only [Pt.U, Pt.locs, Pt.cells, Pt.slots] at X20 l20 y20 z20 st20 hQ20
    subst l20 y20 z20
    obtain ⟨rfl, Nq20, Kq20, uu20, Vq20, dy20, dn20⟩ := hQ20
    have N20 := Fr.app N19g Nq20
    refine own_go (fun t_ kt_ => st20 _ kt_) ?_
    obtain ⟨lo20, X20g, N20g⟩ : ∃ lo, Stand p l e room_1 s m #[(.long q0), (.int p1), (.int p2), (.int p3), (.int p4), (.int p5)] below meth c T20 lo 1 26 ∧ Fr n0 lo := ⟨_, X20, N20⟩
    obtain ⟨h20, e20⟩ : ∃ z, T20.heap = z := ⟨_, rfl⟩
    rw [e20] at Kq20 Vq20
    have ZZ_20 : n0 ≤ h20.size := Nat.le_trans ZZ_19 Kq20.1
    have hk14 := own_dstep hk13 dy20 dn20
    show own_Go p e below s _ _ _ (T20.setTop (mkF m 274 #[.val (.long q0), .second, .val (.int p1), .val (.int p2), .val (.int p3), .val (.int p4), .val (.int p5), .val (.long nn), .second, .val (.int sv), .val (.int dv), .val (.ref ln), .val (.int fl), .unset, .unset, .unset, .unset, .unset, .unset] []))
    refine own_go (fun t_ kt_ => XS.aload X20g.here hx rfl (hb hby at_274) rfl rfl kt_) ?_
    show own_Go p e below s _ _ _ (T20.setTop (mkF m 276 #[.val (.long q0), .second, .val (.int p1), .val (.int p2), .val (.int p3), .val (.int p4), .val (.int p5), .val (.long nn), .second, .val (.int sv), .val (.int dv), .val (.ref ln), .val (.int fl), .unset, .unset, .unset, .unset, .unset, .unset] [(.ref ln)]))
    refine own_go (fun t_ kt_ => XS.iload X20g.here hx rfl (hb hby at_276) rfl kt_) ?_
    show own_Go p e below s _ _ _ (T20.setTop (mkF m 278 #[.val (.long q0), .second, .val (.int p1), .val (.int p2), .val (.int p3), .val (.int p4), .val (.int p5), .val (.long nn), .second, .val (.int sv), .val (.int dv), .val (.ref ln), .val (.int fl), .unset, .unset, .unset, .unset, .unset, .unset] [(.int sv), (.ref ln)]))
    refine own_go (fun t_ kt_ => XS.iload X20g.here hx rfl (hb hby at_278) rfl kt_) ?_
    show own_Go p e below s _ _ _ (T20.setTop (mkF m 280 #[.val (.long q0), .second, .val (.int p1), .val (.int p2), .val (.int p3), .val (.int p4), .val (.int p5), .val (.long nn), .second, .val (.int sv), .val (.int dv), .val (.ref ln), .val (.int fl), .unset, .unset, .unset, .unset, .unset, .unset] [(.int dv), (.int sv), (.ref ln)]))
    refine own_go (fun t_ kt_ => XS.lload X20g.here hx rfl (hb hby at_280) rfl kt_) ?_
    show own_Go p e below s _ _ _ (T20.setTop (mkF m 282 #[.val (.long q0), .second, .val (.int p1), .val (.int p2), .val (.int p3), .val (.int p4), .val (.int p5), .val (.long nn), .second, .val (.int sv), .val (.int dv), .val (.ref ln), .val (.int fl), .unset, .unset, .unset, .unset, .unset, .unset] [(.long nn), (.int dv), (.int sv), (.ref ln)]))
    refine own_go (fun t_ kt_ => XS.bipush X20g.here hx rfl (hb hby at_282) kt_) ?_
    show own_Go p e below s _ _ _ (T20.setTop (mkF m 284 #[.val (.long q0), .second, .val (.int p1), .val (.int p2), .val (.int p3), .val (.int p4), .val (.int p5), .val (.long nn), .second, .val (.int sv), .val (.int dv), .val (.ref ln), .val (.int fl), .unset, .unset, .unset, .unset, .unset, .unset] [(.int (14 : Int32)), (.long nn), (.int dv), (.int sv), (.ref ln)]))
    refine own_go (fun t_ kt_ => X20g.ldc2Long hx hown (mvT hZ (hw _ (List.mem_of_getElem? (i := 18) rfl))) (g := (mkF m 284 #[.val (.long q0), .second, .val (.int p1), .val (.int p2), .val (.int p3), .val (.int p4), .val (.int p5), .val (.long nn), .second, .val (.int sv), .val (.int dv), .val (.ref ln), .val (.int fl), .unset, .unset, .unset, .unset, .unset, .unset] [(.int (14 : Int32)), (.long nn), (.int dv), (.int sv), (.ref ln)])) rfl (hb hby at_284) _ kt_) ?_
    show own_Go p e below s _ _ _ (T20.setTop (mkF m 287 #[.val (.long q0), .second, .val (.int p1), .val (.int p2), .val (.int p3), .val (.int p4), .val (.int p5), .val (.long nn), .second, .val (.int sv), .val (.int dv), .val (.ref ln), .val (.int fl), .unset, .unset, .unset, .unset, .unset, .unset] [(.long (100000000000000 : Int64)), (.int (14 : Int32)), (.long nn), (.int dv), (.int sv), (.ref ln)]))
    obtain ⟨_, _, ⟨T21, L21, k21, n21⟩, -, X21, ⟨Lc21, hQ21, l21, y21, z21⟩, st21⟩ := Jvm.LawKit.callS X20g hx (y := (⟨"com/example/ledgerstrike/ledgerstrike/journal/JournalFormatAfterNumberPinLaw", "digit", "([BIIJIJ)V"⟩ : MethodName)) hown (mvT hZ (hw _ (List.mem_of_getElem? (i := 24) rfl))) (mvT hZ (hw _ (List.mem_of_getElem? (i := 25) rfl))) (mvT hZ (hw _ (List.mem_of_getElem? (i := 3) rfl))) (mvT hZ (hw _ (List.mem_of_getElem? (i := 26) rfl))) (by decide) (backOf (W := 0) (rm2 l Z a0 hw [] (ln) (sv) (dv) (nn) ((14 : Int32)) ((100000000000000 : Int64)) (uu20) (ss) (d) (N) (14) h20 n0 ZZ_20 Vq20 gt_ln hs hdv hN (by decide) (by decide +kernel) ⟨hs3, hd1, hd2, by decide⟩) hZ (hw _ (List.mem_of_getElem? (i := 26) rfl)) (hw _ (List.mem_of_getElem? (i := 3) rfl)) (by decide) (by decide)) (g := (mkF m 287 #[.val (.long q0), .second, .val (.int p1), .val (.int p2), .val (.int p3), .val (.int p4), .val (.int p5), .val (.long nn), .second, .val (.int sv), .val (.int dv), .val (.ref ln), .val (.int fl), .unset, .unset, .unset, .unset, .unset, .unset] [(.long (100000000000000 : Int64)), (.int (14 : Int32)), (.long nn), (.int dv), (.int sv), (.ref ln)])) rfl (by rw [hml]; rfl) (argsL := [(.ref ln), (.int sv), (.int dv), (.long nn), (.int (14 : Int32)), (.long (100000000000000 : Int64))]) (rest := []) (lenOf pd_1 rfl) rfl (by show 2 * 0 + _ ≤ _; exact Nat.le_of_eq rfl) (hb hby at_287) (fun _ _ => ⟨rfl, e20, (by decide : 1 + 0 ≤ _), (by decide : 26 + 0 ≤ _)⟩)
    dsimp only [Pt.U, Pt.locs, Pt.cells, Pt.slots] at X21 l21 y21 z21 st21 hQ21
    subst l21 y21 z21
    obtain ⟨rfl, Nq21, Kq21, uu21, Vq21, dy21, dn21⟩ := hQ21
    have N21 := Fr.app N20g Nq21
    refine own_go (fun t_ kt_ => st21 _ kt_) ?_
    obtain ⟨lo21, X21g, N21g⟩ : ∃ lo, Stand p l e room_1 s m #[(.long q0), (.int p1), (.int p2), (.int p3), (.int p4), (.int p5)] below meth c T21 lo 1 26 ∧ Fr n0 lo := ⟨_, X21, N21⟩
    obtain ⟨h21, e21⟩ : ∃ z, T21.heap = z := ⟨_, rfl⟩
    rw [e21] at Kq21 Vq21
    have ZZ_21 : n0 ≤ h21.size := Nat.le_trans ZZ_20 Kq21.1
    have hk15 := own_dstep hk14 dy21 dn21
    show own_Go p e below s _ _ _ (T21.setTop (mkF m 290 #[.val (.long q0), .second, .val (.int p1), .val (.int p2), .val (.int p3), .val (.int p4), .val (.int p5), .val (.long nn), .second, .val (.int sv), .val (.int dv), .val (.ref ln), .val (.int fl), .unset, .unset, .unset, .unset, .unset, .unset] []))
    refine own_go (fun t_ kt_ => XS.aload X21g.here hx rfl (hb hby at_290) rfl rfl kt_) ?_
    show own_Go p e below s _ _ _ (T21.setTop (mkF m 292 #[.val (.long q0), .second, .val (.int p1), .val (.int p2), .val (.int p3), .val (.int p4), .val (.int p5), .val (.long nn), .second, .val (.int sv), .val (.int dv), .val (.ref ln), .val (.int fl), .unset, .unset, .unset, .unset, .unset, .unset] [(.ref ln)]))
    refine own_go (fun t_ kt_ => XS.iload X21g.here hx rfl (hb hby at_292) rfl kt_) ?_
    show own_Go p e below s _ _ _ (T21.setTop (mkF m 294 #[.val (.long q0), .second, .val (.int p1), .val (.int p2), .val (.int p3), .val (.int p4), .val (.int p5), .val (.long nn), .second, .val (.int sv), .val (.int dv), .val (.ref ln), .val (.int fl), .unset, .unset, .unset, .unset, .unset, .unset] [(.int sv), (.ref ln)]))
    refine own_go (fun t_ kt_ => XS.iload X21g.here hx rfl (hb hby at_294) rfl kt_) ?_
    show own_Go p e below s _ _ _ (T21.setTop (mkF m 296 #[.val (.long q0), .second, .val (.int p1), .val (.int p2), .val (.int p3), .val (.int p4), .val (.int p5), .val (.long nn), .second, .val (.int sv), .val (.int dv), .val (.ref ln), .val (.int fl), .unset, .unset, .unset, .unset, .unset, .unset] [(.int dv), (.int sv), (.ref ln)]))
    refine own_go (fun t_ kt_ => XS.lload X21g.here hx rfl (hb hby at_296) rfl kt_) ?_
    show own_Go p e below s _ _ _ (T21.setTop (mkF m 298 #[.val (.long q0), .second, .val (.int p1), .val (.int p2), .val (.int p3), .val (.int p4), .val (.int p5), .val (.long nn), .second, .val (.int sv), .val (.int dv), .val (.ref ln), .val (.int fl), .unset, .unset, .unset, .unset, .unset, .unset] [(.long nn), (.int dv), (.int sv), (.ref ln)]))
    refine own_go (fun t_ kt_ => XS.bipush X21g.here hx rfl (hb hby at_298) kt_) ?_
    show own_Go p e below s _ _ _ (T21.setTop (mkF m 300 #[.val (.long q0), .second, .val (.int p1), .val (.int p2), .val (.int p3), .val (.int p4), .val (.int p5), .val (.long nn), .second, .val (.int sv), .val (.int dv), .val (.ref ln), .val (.int fl), .unset, .unset, .unset, .unset, .unset, .unset] [(.int (15 : Int32)), (.long nn), (.int dv), (.int sv), (.ref ln)]))
    refine own_go (fun t_ kt_ => X21g.ldc2Long hx hown (mvT hZ (hw _ (List.mem_of_getElem? (i := 19) rfl))) (g := (mkF m 300 #[.val (.long q0), .second, .val (.int p1), .val (.int p2), .val (.int p3), .val (.int p4), .val (.int p5), .val (.long nn), .second, .val (.int sv), .val (.int dv), .val (.ref ln), .val (.int fl), .unset, .unset, .unset, .unset, .unset, .unset] [(.int (15 : Int32)), (.long nn), (.int dv), (.int sv), (.ref ln)])) rfl (hb hby at_300) _ kt_) ?_
    show own_Go p e below s _ _ _ (T21.setTop (mkF m 303 #[.val (.long q0), .second, .val (.int p1), .val (.int p2), .val (.int p3), .val (.int p4), .val (.int p5), .val (.long nn), .second, .val (.int sv), .val (.int dv), .val (.ref ln), .val (.int fl), .unset, .unset, .unset, .unset, .unset, .unset] [(.long (1000000000000000 : Int64)), (.int (15 : Int32)), (.long nn), (.int dv), (.int sv), (.ref ln)]))
    obtain ⟨_, _, ⟨T22, L22, k22, n22⟩, -, X22, ⟨Lc22, hQ22, l22, y22, z22⟩, st22⟩ := Jvm.LawKit.callS X21g hx (y := (⟨"com/example/ledgerstrike/ledgerstrike/journal/JournalFormatAfterNumberPinLaw", "digit", "([BIIJIJ)V"⟩ : MethodName)) hown (mvT hZ (hw _ (List.mem_of_getElem? (i := 24) rfl))) (mvT hZ (hw _ (List.mem_of_getElem? (i := 25) rfl))) (mvT hZ (hw _ (List.mem_of_getElem? (i := 3) rfl))) (mvT hZ (hw _ (List.mem_of_getElem? (i := 26) rfl))) (by decide) (backOf (W := 0) (rm2 l Z a0 hw [] (ln) (sv) (dv) (nn) ((15 : Int32)) ((1000000000000000 : Int64)) (uu21) (ss) (d) (N) (15) h21 n0 ZZ_21 Vq21 gt_ln hs hdv hN (by decide) (by decide +kernel) ⟨hs3, hd1, hd2, by decide⟩) hZ (hw _ (List.mem_of_getElem? (i := 26) rfl)) (hw _ (List.mem_of_getElem? (i := 3) rfl)) (by decide) (by decide)) (g := (mkF m 303 #[.val (.long q0), .second, .val (.int p1), .val (.int p2), .val (.int p3), .val (.int p4), .val (.int p5), .val (.long nn), .second, .val (.int sv), .val (.int dv), .val (.ref ln), .val (.int fl), .unset, .unset, .unset, .unset, .unset, .unset] [(.long (1000000000000000 : Int64)), (.int (15 : Int32)), (.long nn), (.int dv), (.int sv), (.ref ln)])) rfl (by rw [hml]; rfl) (argsL := [(.ref ln), (.int sv), (.int dv), (.long nn), (.int (15 : Int32)), (.long (1000000000000000 : Int64))]) (rest := []) (lenOf pd_1 rfl) rfl (by show 2 * 0 + _ ≤ _; exact Nat.le_of_eq rfl) (hb hby at_303) (fun _ _ => ⟨rfl, e21, (by decide : 1 + 0 ≤ _), (by decide : 26 + 0 ≤ _)⟩)
    dsimp only [Pt.U, Pt.locs, Pt.cells, Pt.slots] at X22 l22 y22 z22 st22 hQ22
    subst l22 y22 z22
    obtain ⟨rfl, Nq22, Kq22, uu22, Vq22, dy22, dn22⟩ := hQ22
    have N22 := Fr.app N21g Nq22
    refine own_go (fun t_ kt_ => st22 _ kt_) ?_
    obtain ⟨lo22, X22g, N22g⟩ : ∃ lo, Stand p l e room_1 s m #[(.long q0), (.int p1), (.int p2), (.int p3), (.int p4), (.int p5)] below meth c T22 lo 1 26 ∧ Fr n0 lo := ⟨_, X22, N22⟩
    obtain ⟨h22, e22⟩ : ∃ z, T22.heap = z := ⟨_, rfl⟩
    rw [e22] at Kq22 Vq22
    have ZZ_22 : n0 ≤ h22.size := Nat.le_trans ZZ_21 Kq22.1
    have hk16 := own_dstep hk15 dy22 dn22
    show own_Go p e below s _ _ _ (T22.setTop (mkF m 306 #[.val (.long q0), .second, .val (.int p1), .val (.int p2), .val (.int p3), .val (.int p4), .val (.int p5), .val (.long nn), .second, .val (.int sv), .val (.int dv), .val (.ref ln), .val (.int fl), .unset, .unset, .unset, .unset, .unset, .unset] []))
    refine own_go (fun t_ kt_ => XS.aload X22g.here hx rfl (hb hby at_306) rfl rfl kt_) ?_
    show own_Go p e below s _ _ _ (T22.setTop (mkF m 308 #[.val (.long q0), .second, .val (.int p1), .val (.int p2), .val (.int p3), .val (.int p4), .val (.int p5), .val (.long nn), .second, .val (.int sv), .val (.int dv), .val (.ref ln), .val (.int fl), .unset, .unset, .unset, .unset, .unset, .unset] [(.ref ln)]))
    refine own_go (fun t_ kt_ => XS.iload X22g.here hx rfl (hb hby at_308) rfl kt_) ?_
    show own_Go p e below s _ _ _ (T22.setTop (mkF m 310 #[.val (.long q0), .second, .val (.int p1), .val (.int p2), .val (.int p3), .val (.int p4), .val (.int p5), .val (.long nn), .second, .val (.int sv), .val (.int dv), .val (.ref ln), .val (.int fl), .unset, .unset, .unset, .unset, .unset, .unset] [(.int sv), (.ref ln)]))
    refine own_go (fun t_ kt_ => XS.iload X22g.here hx rfl (hb hby at_310) rfl kt_) ?_
    show own_Go p e below s _ _ _ (T22.setTop (mkF m 312 #[.val (.long q0), .second, .val (.int p1), .val (.int p2), .val (.int p3), .val (.int p4), .val (.int p5), .val (.long nn), .second, .val (.int sv), .val (.int dv), .val (.ref ln), .val (.int fl), .unset, .unset, .unset, .unset, .unset, .unset] [(.int dv), (.int sv), (.ref ln)]))
    refine own_go (fun t_ kt_ => XS.lload X22g.here hx rfl (hb hby at_312) rfl kt_) ?_
    show own_Go p e below s _ _ _ (T22.setTop (mkF m 314 #[.val (.long q0), .second, .val (.int p1), .val (.int p2), .val (.int p3), .val (.int p4), .val (.int p5), .val (.long nn), .second, .val (.int sv), .val (.int dv), .val (.ref ln), .val (.int fl), .unset, .unset, .unset, .unset, .unset, .unset] [(.long nn), (.int dv), (.int sv), (.ref ln)]))
    refine own_go (fun t_ kt_ => XS.bipush X22g.here hx rfl (hb hby at_314) kt_) ?_
    show own_Go p e below s _ _ _ (T22.setTop (mkF m 316 #[.val (.long q0), .second, .val (.int p1), .val (.int p2), .val (.int p3), .val (.int p4), .val (.int p5), .val (.long nn), .second, .val (.int sv), .val (.int dv), .val (.ref ln), .val (.int fl), .unset, .unset, .unset, .unset, .unset, .unset] [(.int (16 : Int32)), (.long nn), (.int dv), (.int sv), (.ref ln)]))
    refine own_go (fun t_ kt_ => X22g.ldc2Long hx hown (mvT hZ (hw _ (List.mem_of_getElem? (i := 20) rfl))) (g := (mkF m 316 #[.val (.long q0), .second, .val (.int p1), .val (.int p2), .val (.int p3), .val (.int p4), .val (.int p5), .val (.long nn), .second, .val (.int sv), .val (.int dv), .val (.ref ln), .val (.int fl), .unset, .unset, .unset, .unset, .unset, .unset] [(.int (16 : Int32)), (.long nn), (.int dv), (.int sv), (.ref ln)])) rfl (hb hby at_316) _ kt_) ?_
    show own_Go p e below s _ _ _ (T22.setTop (mkF m 319 #[.val (.long q0), .second, .val (.int p1), .val (.int p2), .val (.int p3), .val (.int p4), .val (.int p5), .val (.long nn), .second, .val (.int sv), .val (.int dv), .val (.ref ln), .val (.int fl), .unset, .unset, .unset, .unset, .unset, .unset] [(.long (10000000000000000 : Int64)), (.int (16 : Int32)), (.long nn), (.int dv), (.int sv), (.ref ln)]))
    obtain ⟨_, _, ⟨T23, L23, k23, n23⟩, -, X23, ⟨Lc23, hQ23, l23, y23, z23⟩, st23⟩ := Jvm.LawKit.callS X22g hx (y := (⟨"com/example/ledgerstrike/ledgerstrike/journal/JournalFormatAfterNumberPinLaw", "digit", "([BIIJIJ)V"⟩ : MethodName)) hown (mvT hZ (hw _ (List.mem_of_getElem? (i := 24) rfl))) (mvT hZ (hw _ (List.mem_of_getElem? (i := 25) rfl))) (mvT hZ (hw _ (List.mem_of_getElem? (i := 3) rfl))) (mvT hZ (hw _ (List.mem_of_getElem? (i := 26) rfl))) (by decide) (backOf (W := 0) (rm2 l Z a0 hw [] (ln) (sv) (dv) (nn) ((16 : Int32)) ((10000000000000000 : Int64)) (uu22) (ss) (d) (N) (16) h22 n0 ZZ_22 Vq22 gt_ln hs hdv hN (by decide) (by decide +kernel) ⟨hs3, hd1, hd2, by decide⟩) hZ (hw _ (List.mem_of_getElem? (i := 26) rfl)) (hw _ (List.mem_of_getElem? (i := 3) rfl)) (by decide) (by decide)) (g := (mkF m 319 #[.val (.long q0), .second, .val (.int p1), .val (.int p2), .val (.int p3), .val (.int p4), .val (.int p5), .val (.long nn), .second, .val (.int sv), .val (.int dv), .val (.ref ln), .val (.int fl), .unset, .unset, .unset, .unset, .unset, .unset] [(.long (10000000000000000 : Int64)), (.int (16 : Int32)), (.long nn), (.int dv), (.int sv), (.ref ln)])) rfl (by rw [hml]; rfl) (argsL := [(.ref ln), (.int sv), (.int dv), (.long nn), (.int (16 : Int32)), (.long (10000000000000000 : Int64))]) (rest := []) (lenOf pd_1 rfl) rfl (by show 2 * 0 + _ ≤ _; exact Nat.le_of_eq rfl) (hb hby at_319) (fun _ _ => ⟨rfl, e22, (by decide : 1 + 0 ≤ _), (by decide : 26 + 0 ≤ _)⟩)
    dsimp only [Pt.U, Pt.locs, Pt.cells, Pt.slots] at X23 l23 y23 z23 st23 hQ23
    subst l23 y23 z23
    obtain ⟨rfl, Nq23, Kq23, uu23, Vq23, dy23, dn23⟩ := hQ23
    have N23 := Fr.app N22g Nq23
    refine own_go (fun t_ kt_ => st23 _ kt_) ?_
    obtain ⟨lo23, X23g, N23g⟩ : ∃ lo, Stand p l e room_1 s m #[(.long q0), (.int p1), (.int p2), (.int p3), (.int p4), (.int p5)] below meth c T23 lo 1 26 ∧ Fr n0 lo := ⟨_, X23, N23⟩
    obtain ⟨h23, e23⟩ : ∃ z, T23.heap = z := ⟨_, rfl⟩
    rw [e23] at Kq23 Vq23
    have ZZ_23 : n0 ≤ h23.size := Nat.le_trans ZZ_22 Kq23.1
    have hk17 := own_dstep hk16 dy23 dn23
    show own_Go p e below s _ _ _ (T23.setTop (mkF m 322 #[.val (.long q0), .second, .val (.int p1), .val (.int p2), .val (.int p3), .val (.int p4), .val (.int p5), .val (.long nn), .second, .val (.int sv), .val (.int dv), .val (.ref ln), .val (.int fl), .unset, .unset, .unset, .unset, .unset, .unset] []))
    refine own_go (fun t_ kt_ => XS.aload X23g.here hx rfl (hb hby at_322) rfl rfl kt_) ?_
    show own_Go p e below s _ _ _ (T23.setTop (mkF m 324 #[.val (.long q0), .second, .val (.int p1), .val (.int p2), .val (.int p3), .val (.int p4), .val (.int p5), .val (.long nn), .second, .val (.int sv), .val (.int dv), .val (.ref ln), .val (.int fl), .unset, .unset, .unset, .unset, .unset, .unset] [(.ref ln)]))
    refine own_go (fun t_ kt_ => XS.iload X23g.here hx rfl (hb hby at_324) rfl kt_) ?_
    show own_Go p e below s _ _ _ (T23.setTop (mkF m 326 #[.val (.long q0), .second, .val (.int p1), .val (.int p2), .val (.int p3), .val (.int p4), .val (.int p5), .val (.long nn), .second, .val (.int sv), .val (.int dv), .val (.ref ln), .val (.int fl), .unset, .unset, .unset, .unset, .unset, .unset] [(.int sv), (.ref ln)]))
    refine own_go (fun t_ kt_ => XS.iload X23g.here hx rfl (hb hby at_326) rfl kt_) ?_
    show own_Go p e below s _ _ _ (T23.setTop (mkF m 328 #[.val (.long q0), .second, .val (.int p1), .val (.int p2), .val (.int p3), .val (.int p4), .val (.int p5), .val (.long nn), .second, .val (.int sv), .val (.int dv), .val (.ref ln), .val (.int fl), .unset, .unset, .unset, .unset, .unset, .unset] [(.int dv), (.int sv), (.ref ln)]))
    refine own_go (fun t_ kt_ => XS.lload X23g.here hx rfl (hb hby at_328) rfl kt_) ?_
    show own_Go p e below s _ _ _ (T23.setTop (mkF m 330 #[.val (.long q0), .second, .val (.int p1), .val (.int p2), .val (.int p3), .val (.int p4), .val (.int p5), .val (.long nn), .second, .val (.int sv), .val (.int dv), .val (.ref ln), .val (.int fl), .unset, .unset, .unset, .unset, .unset, .unset] [(.long nn), (.int dv), (.int sv), (.ref ln)]))
    refine own_go (fun t_ kt_ => XS.bipush X23g.here hx rfl (hb hby at_330) kt_) ?_
    show own_Go p e below s _ _ _ (T23.setTop (mkF m 332 #[.val (.long q0), .second, .val (.int p1), .val (.int p2), .val (.int p3), .val (.int p4), .val (.int p5), .val (.long nn), .second, .val (.int sv), .val (.int dv), .val (.ref ln), .val (.int fl), .unset, .unset, .unset, .unset, .unset, .unset] [(.int (17 : Int32)), (.long nn), (.int dv), (.int sv), (.ref ln)]))
    refine own_go (fun t_ kt_ => X23g.ldc2Long hx hown (mvT hZ (hw _ (List.mem_of_getElem? (i := 21) rfl))) (g := (mkF m 332 #[.val (.long q0), .second, .val (.int p1), .val (.int p2), .val (.int p3), .val (.int p4), .val (.int p5), .val (.long nn), .second, .val (.int sv), .val (.int dv), .val (.ref ln), .val (.int fl), .unset, .unset, .unset, .unset, .unset, .unset] [(.int (17 : Int32)), (.long nn), (.int dv), (.int sv), (.ref ln)])) rfl (hb hby at_332) _ kt_) ?_
    show own_Go p e below s _ _ _ (T23.setTop (mkF m 335 #[.val (.long q0), .second, .val (.int p1), .val (.int p2), .val (.int p3), .val (.int p4), .val (.int p5), .val (.long nn), .second, .val (.int sv), .val (.int dv), .val (.ref ln), .val (.int fl), .unset, .unset, .unset, .unset, .unset, .unset] [(.long (100000000000000000 : Int64)), (.int (17 : Int32)), (.long nn), (.int dv), (.int sv), (.ref ln)]))
    obtain ⟨_, _, ⟨T24, L24, k24, n24⟩, -, X24, ⟨Lc24, hQ24, l24, y24, z24⟩, st24⟩ := Jvm.LawKit.callS X23g hx (y := (⟨"com/example/ledgerstrike/ledgerstrike/journal/JournalFormatAfterNumberPinLaw", "digit", "([BIIJIJ)V"⟩ : MethodName)) hown (mvT hZ (hw _ (List.mem_of_getElem? (i := 24) rfl))) (mvT hZ (hw _ (List.mem_of_getElem? (i := 25) rfl))) (mvT hZ (hw _ (List.mem_of_getElem? (i := 3) rfl))) (mvT hZ (hw _ (List.mem_of_getElem? (i := 26) rfl))) (by decide) (backOf (W := 0) (rm2 l Z a0 hw [] (ln) (sv) (dv) (nn) ((17 : Int32)) ((100000000000000000 : Int64)) (uu23) (ss) (d) (N) (17) h23 n0 ZZ_23 Vq23 gt_ln hs hdv hN (by decide) (by decide +kernel) ⟨hs3, hd1, hd2, by decide⟩) hZ (hw _ (List.mem_of_getElem? (i := 26) rfl)) (hw _ (List.mem_of_getElem? (i := 3) rfl)) (by decide) (by decide)) (g := (mkF m 335 #[.val (.long q0), .second, .val (.int p1), .val (.int p2), .val (.int p3), .val (.int p4), .val (.int p5), .val (.long nn), .second, .val (.int sv), .val (.int dv), .val (.ref ln), .val (.int fl), .unset, .unset, .unset, .unset, .unset, .unset] [(.long (100000000000000000 : Int64)), (.int (17 : Int32)), (.long nn), (.int dv), (.int sv), (.ref ln)])) rfl (by rw [hml]; rfl) (argsL := [(.ref ln), (.int sv), (.int dv), (.long nn), (.int (17 : Int32)), (.long (100000000000000000 : Int64))]) (rest := []) (lenOf pd_1 rfl) rfl (by show 2 * 0 + _ ≤ _; exact Nat.le_of_eq rfl) (hb hby at_335) (fun _ _ => ⟨rfl, e23, (by decide : 1 + 0 ≤ _), (by decide : 26 + 0 ≤ _)⟩)
    dsimp only [Pt.U, Pt.locs, Pt.cells, Pt.slots] at X24 l24 y24 z24 st24 hQ24
    subst l24 y24 z24
    obtain ⟨rfl, Nq24, Kq24, uu24, Vq24, dy24, dn24⟩ := hQ24
    have N24 := Fr.app N23g Nq24
    refine own_go (fun t_ kt_ => st24 _ kt_) ?_
    obtain ⟨lo24, X24g, N24g⟩ : ∃ lo, Stand p l e room_1 s m #[(.long q0), (.int p1), (.int p2), (.int p3), (.int p4), (.int p5)] below meth c T24 lo 1 26 ∧ Fr n0 lo := ⟨_, X24, N24⟩
    obtain ⟨h24, e24⟩ : ∃ z, T24.heap = z := ⟨_, rfl⟩
    rw [e24] at Kq24 Vq24
    have ZZ_24 : n0 ≤ h24.size := Nat.le_trans ZZ_23 Kq24.1
    have hk18 := own_dstep hk17 dy24 dn24
    show own_Go p e below s _ _ _ (T24.setTop (mkF m 338 #[.val (.long q0), .second, .val (.int p1), .val (.int p2), .val (.int p3), .val (.int p4), .val (.int p5), .val (.long nn), .second, .val (.int sv), .val (.int dv), .val (.ref ln), .val (.int fl), .unset, .unset, .unset, .unset, .unset, .unset] []))
    refine own_go (fun t_ kt_ => XS.aload X24g.here hx rfl (hb hby at_338) rfl rfl kt_) ?_
    show own_Go p e below s _ _ _ (T24.setTop (mkF m 340 #[.val (.long q0), .second, .val (.int p1), .val (.int p2), .val (.int p3), .val (.int p4), .val (.int p5), .val (.long nn), .second, .val (.int sv), .val (.int dv), .val (.ref ln), .val (.int fl), .unset, .unset, .unset, .unset, .unset, .unset] [(.ref ln)]))
    refine own_go (fun t_ kt_ => XS.iload X24g.here hx rfl (hb hby at_340) rfl kt_) ?_
    show own_Go p e below s _ _ _ (T24.setTop (mkF m 342 #[.val (.long q0), .second, .val (.int p1), .val (.int p2), .val (.int p3), .val (.int p4), .val (.int p5), .val (.long nn), .second, .val (.int sv), .val (.int dv), .val (.ref ln), .val (.int fl), .unset, .unset, .unset, .unset, .unset, .unset] [(.int sv), (.ref ln)]))
    refine own_go (fun t_ kt_ => XS.iload X24g.here hx rfl (hb hby at_342) rfl kt_) ?_
    show own_Go p e below s _ _ _ (T24.setTop (mkF m 344 #[.val (.long q0), .second, .val (.int p1), .val (.int p2), .val (.int p3), .val (.int p4), .val (.int p5), .val (.long nn), .second, .val (.int sv), .val (.int dv), .val (.ref ln), .val (.int fl), .unset, .unset, .unset, .unset, .unset, .unset] [(.int dv), (.int sv), (.ref ln)]))
    refine own_go (fun t_ kt_ => XS.lload X24g.here hx rfl (hb hby at_344) rfl kt_) ?_
    show own_Go p e below s _ _ _ (T24.setTop (mkF m 346 #[.val (.long q0), .second, .val (.int p1), .val (.int p2), .val (.int p3), .val (.int p4), .val (.int p5), .val (.long nn), .second, .val (.int sv), .val (.int dv), .val (.ref ln), .val (.int fl), .unset, .unset, .unset, .unset, .unset, .unset] [(.long nn), (.int dv), (.int sv), (.ref ln)]))
    refine own_go (fun t_ kt_ => XS.bipush X24g.here hx rfl (hb hby at_346) kt_) ?_
    show own_Go p e below s _ _ _ (T24.setTop (mkF m 348 #[.val (.long q0), .second, .val (.int p1), .val (.int p2), .val (.int p3), .val (.int p4), .val (.int p5), .val (.long nn), .second, .val (.int sv), .val (.int dv), .val (.ref ln), .val (.int fl), .unset, .unset, .unset, .unset, .unset, .unset] [(.int (18 : Int32)), (.long nn), (.int dv), (.int sv), (.ref ln)]))
    refine own_go (fun t_ kt_ => X24g.ldc2Long hx hown (mvT hZ (hw _ (List.mem_of_getElem? (i := 22) rfl))) (g := (mkF m 348 #[.val (.long q0), .second, .val (.int p1), .val (.int p2), .val (.int p3), .val (.int p4), .val (.int p5), .val (.long nn), .second, .val (.int sv), .val (.int dv), .val (.ref ln), .val (.int fl), .unset, .unset, .unset, .unset, .unset, .unset] [(.int (18 : Int32)), (.long nn), (.int dv), (.int sv), (.ref ln)])) rfl (hb hby at_348) _ kt_) ?_
    show own_Go p e below s _ _ _ (T24.setTop (mkF m 351 #[.val (.long q0), .second, .val (.int p1), .val (.int p2), .val (.int p3), .val (.int p4), .val (.int p5), .val (.long nn), .second, .val (.int sv), .val (.int dv), .val (.ref ln), .val (.int fl), .unset, .unset, .unset, .unset, .unset, .unset] [(.long (1000000000000000000 : Int64)), (.int (18 : Int32)), (.long nn), (.int dv), (.int sv), (.ref ln)]))
    obtain ⟨_, _, ⟨T25, L25, k25, n25⟩, -, X25, ⟨Lc25, hQ25, l25, y25, z25⟩, st25⟩ := Jvm.LawKit.callS X24g hx (y := (⟨"com/example/ledgerstrike/ledgerstrike/journal/JournalFormatAfterNumberPinLaw", "digit", "([BIIJIJ)V"⟩ : MethodName)) hown (mvT hZ (hw _ (List.mem_of_getElem? (i := 24) rfl))) (mvT hZ (hw _ (List.mem_of_getElem? (i := 25) rfl))) (mvT hZ (hw _ (List.mem_of_getElem? (i := 3) rfl))) (mvT hZ (hw _ (List.mem_of_getElem? (i := 26) rfl))) (by decide) (backOf (W := 0) (rm2 l Z a0 hw [] (ln) (sv) (dv) (nn) ((18 : Int32)) ((1000000000000000000 : Int64)) (uu24) (ss) (d) (N) (18) h24 n0 ZZ_24 Vq24 gt_ln hs hdv hN (by decide) (by decide +kernel) ⟨hs3, hd1, hd2, by decide⟩) hZ (hw _ (List.mem_of_getElem? (i := 26) rfl)) (hw _ (List.mem_of_getElem? (i := 3) rfl)) (by decide) (by decide)) (g := (mkF m 351 #[.val (.long q0), .second, .val (.int p1), .val (.int p2), .val (.int p3), .val (.int p4), .val (.int p5), .val (.long nn), .second, .val (.int sv), .val (.int dv), .val (.ref ln), .val (.int fl), .unset, .unset, .unset, .unset, .unset, .unset] [(.long (1000000000000000000 : Int64)), (.int (18 : Int32)), (.long nn), (.int dv), (.int sv), (.ref ln)])) rfl (by rw [hml]; rfl) (argsL := [(.ref ln), (.int sv), (.int dv), (.long nn), (.int (18 : Int32)), (.long (1000000000000000000 : Int64))]) (rest := []) (lenOf pd_1 rfl) rfl (by show 2 * 0 + _ ≤ _; exact Nat.le_of_eq rfl) (hb hby at_351) (fun _ _ => ⟨rfl, e24, (by decide : 1 + 0 ≤ _), (by decide : 26 + 0 ≤ _)⟩)
    dsimp only [Pt.U, Pt.locs, Pt.cells, Pt.slots] at X25 l25 y25 z25 st25 hQ25
    subst l25 y25 z25
    obtain ⟨rfl, Nq25, Kq25, uu25, Vq25, dy25, dn25⟩ := hQ25
    have N25 := Fr.app N24g Nq25
    refine own_go (fun t_ kt_ => st25 _ kt_) ?_
    obtain ⟨lo25, X25g, N25g⟩ : ∃ lo, Stand p l e room_1 s m #[(.long q0), (.int p1), (.int p2), (.int p3), (.int p4), (.int p5)] below meth c T25 lo 1 26 ∧ Fr n0 lo := ⟨_, X25, N25⟩
    obtain ⟨h25, e25⟩ : ∃ z, T25.heap = z := ⟨_, rfl⟩
    rw [e25] at Kq25 Vq25
    have ZZ_25 : n0 ≤ h25.size := Nat.le_trans ZZ_24 Kq25.1
    have hk19 := own_dstep hk18 dy25 dn25
    show own_Go p e below s _ _ _ (T25.setTop (mkF m 354 #[.val (.long q0), .second, .val (.int p1), .val (.int p2), .val (.int p3), .val (.int p4), .val (.int p5), .val (.long nn), .second, .val (.int sv), .val (.int dv), .val (.ref ln), .val (.int fl), .unset, .unset, .unset, .unset, .unset, .unset] []))
    refine own_go (fun t_ kt_ => XS.aload X25g.here hx rfl (hb hby at_354) rfl rfl kt_) ?_
    show own_Go p e below s _ _ _ (T25.setTop (mkF m 356 #[.val (.long q0), .second, .val (.int p1), .val (.int p2), .val (.int p3), .val (.int p4), .val (.int p5), .val (.long nn), .second, .val (.int sv), .val (.int dv), .val (.ref ln), .val (.int fl), .unset, .unset, .unset, .unset, .unset, .unset] [(.ref ln)]))
    refine own_go (fun t_ kt_ => XS.iload X25g.here hx rfl (hb hby at_356) rfl kt_) ?_
    show own_Go p e below s _ _ _ (T25.setTop (mkF m 358 #[.val (.long q0), .second, .val (.int p1), .val (.int p2), .val (.int p3), .val (.int p4), .val (.int p5), .val (.long nn), .second, .val (.int sv), .val (.int dv), .val (.ref ln), .val (.int fl), .unset, .unset, .unset, .unset, .unset, .unset] [(.int sv), (.ref ln)]))
    refine own_go (fun t_ kt_ => XS.iload X25g.here hx rfl (hb hby at_358) rfl kt_) ?_
    show own_Go p e below s _ _ _ (T25.setTop (mkF m 360 #[.val (.long q0), .second, .val (.int p1), .val (.int p2), .val (.int p3), .val (.int p4), .val (.int p5), .val (.long nn), .second, .val (.int sv), .val (.int dv), .val (.ref ln), .val (.int fl), .unset, .unset, .unset, .unset, .unset, .unset] [(.int dv), (.int sv), (.ref ln)]))
    refine own_go (fun t_ kt_ => XS.iadd X25g.here hx rfl (hb hby at_360) rfl kt_) ?_
    show own_Go p e below s _ _ _ (T25.setTop (mkF m 361 #[.val (.long q0), .second, .val (.int p1), .val (.int p2), .val (.int p3), .val (.int p4), .val (.int p5), .val (.long nn), .second, .val (.int sv), .val (.int dv), .val (.ref ln), .val (.int fl), .unset, .unset, .unset, .unset, .unset, .unset] [(.int (sv + dv)), (.ref ln)]))
    refine own_go (fun t_ kt_ => XS.bipush X25g.here hx rfl (hb hby at_361) kt_) ?_
    show own_Go p e below s _ _ _ (T25.setTop (mkF m 363 #[.val (.long q0), .second, .val (.int p1), .val (.int p2), .val (.int p3), .val (.int p4), .val (.int p5), .val (.long nn), .second, .val (.int sv), .val (.int dv), .val (.ref ln), .val (.int fl), .unset, .unset, .unset, .unset, .unset, .unset] [(.int (44 : Int32)), (.int (sv + dv)), (.ref ln)]))
    obtain ⟨ce26, Ar26, S26, G26⟩ := id Vq25
    obtain ⟨T26, h26, X26, e26, W26, st26⟩ := stB X25g hx hZ e25 Ar26 (j := (sv + dv)) (own_in (i := (ss + d)) S26 i1 (by omega)) (g := (mkF m 363 #[.val (.long q0), .second, .val (.int p1), .val (.int p2), .val (.int p3), .val (.int p4), .val (.int p5), .val (.long nn), .second, .val (.int sv), .val (.int dv), .val (.ref ln), .val (.int fl), .unset, .unset, .unset, .unset, .unset, .unset] [(.int (44 : Int32)), (.int (sv + dv)), (.ref ln)])) rfl rfl (hb hby at_363)
    rw [own_cl (j := (sv + dv)) (i := (ss + d)) i1] at W26 X26
    refine own_go (fun t_ kt_ => st26 _ kt_) ?_
    have N26 := Fr.snoc X26 N25g gt_ln
    obtain ⟨lo26, X26g, N26g⟩ : ∃ lo, Stand p l e room_1 s m #[(.long q0), (.int p1), (.int p2), (.int p3), (.int p4), (.int p5)] below meth c T26 lo 1 26 ∧ Fr n0 lo := ⟨_, X26, N26⟩
    rw [(by decide : nar .byte (44 : Int32) = (44 : Int32))] at W26
    have ZZ_26 : n0 ≤ h26.size := Nat.le_trans ZZ_25 (Nat.le_of_eq W26.size.symm)
    have V_ln_26 : own_Ary Z h26 ln .byte 26 (own_set (fun j => .int (uu25 j)) (ss + d) (.int (44 : Int32))) := own_Ary.set Ar26 S26 G26 W26
    show own_Go p e below s _ _ _ (T26.setTop (mkF m 364 #[.val (.long q0), .second, .val (.int p1), .val (.int p2), .val (.int p3), .val (.int p4), .val (.int p5), .val (.long nn), .second, .val (.int sv), .val (.int dv), .val (.ref ln), .val (.int fl), .unset, .unset, .unset, .unset, .unset, .unset] []))
    refine own_go (fun t_ kt_ => XS.aload X26g.here hx rfl (hb hby at_364) rfl rfl kt_) ?_
    show own_Go p e below s _ _ _ (T26.setTop (mkF m 366 #[.val (.long q0), .second, .val (.int p1), .val (.int p2), .val (.int p3), .val (.int p4), .val (.int p5), .val (.long nn), .second, .val (.int sv), .val (.int dv), .val (.ref ln), .val (.int fl), .unset, .unset, .unset, .unset, .unset, .unset] [(.ref ln)]))
    refine own_go (fun t_ kt_ => XS.iload X26g.here hx rfl (hb hby at_366) rfl kt_) ?_
    show own_Go p e below s _ _ _ (T26.setTop (mkF m 368 #[.val (.long q0), .second, .val (.int p1), .val (.int p2), .val (.int p3), .val (.int p4), .val (.int p5), .val (.long nn), .second, .val (.int sv), .val (.int dv), .val (.ref ln), .val (.int fl), .unset, .unset, .unset, .unset, .unset, .unset] [(.int sv), (.ref ln)]))
    refine own_go (fun t_ kt_ => XS.iload X26g.here hx rfl (hb hby at_368) rfl kt_) ?_
    show own_Go p e below s _ _ _ (T26.setTop (mkF m 370 #[.val (.long q0), .second, .val (.int p1), .val (.int p2), .val (.int p3), .val (.int p4), .val (.int p5), .val (.long nn), .second, .val (.int sv), .val (.int dv), .val (.ref ln), .val (.int fl), .unset, .unset, .unset, .unset, .unset, .unset] [(.int dv), (.int sv), (.ref ln)]))
    refine own_go (fun t_ kt_ => XS.iadd X26g.here hx rfl (hb hby at_370) rfl kt_) ?_
    show own_Go p e below s _ _ _ (T26.setTop (mkF m 371 #[.val (.long q0), .second, .val (.int p1), .val (.int p2), .val (.int p3), .val (.int p4), .val (.int p5), .val (.long nn), .second, .val (.int sv), .val (.int dv), .val (.ref ln), .val (.int fl), .unset, .unset, .unset, .unset, .unset, .unset] [(.int (sv + dv)), (.ref ln)]))
    refine own_go (fun t_ kt_ => XS.iconst X26g.here hx rfl (hb hby at_371) kt_) ?_
    show own_Go p e below s _ _ _ (T26.setTop (mkF m 372 #[.val (.long q0), .second, .val (.int p1), .val (.int p2), .val (.int p3), .val (.int p4), .val (.int p5), .val (.long nn), .second, .val (.int sv), .val (.int dv), .val (.ref ln), .val (.int fl), .unset, .unset, .unset, .unset, .unset, .unset] [(.int (1 : Int32)), (.int (sv + dv)), (.ref ln)]))
    refine own_go (fun t_ kt_ => XS.iadd X26g.here hx rfl (hb hby at_372) rfl kt_) ?_
    show own_Go p e below s _ _ _ (T26.setTop (mkF m 373 #[.val (.long q0), .second, .val (.int p1), .val (.int p2), .val (.int p3), .val (.int p4), .val (.int p5), .val (.long nn), .second, .val (.int sv), .val (.int dv), .val (.ref ln), .val (.int fl), .unset, .unset, .unset, .unset, .unset, .unset] [(.int ((sv + dv) + (1 : Int32))), (.ref ln)]))
    refine own_go (fun t_ kt_ => XS.iload X26g.here hx rfl (hb hby at_373) rfl kt_) ?_
    show own_Go p e below s _ _ _ (T26.setTop (mkF m 375 #[.val (.long q0), .second, .val (.int p1), .val (.int p2), .val (.int p3), .val (.int p4), .val (.int p5), .val (.long nn), .second, .val (.int sv), .val (.int dv), .val (.ref ln), .val (.int fl), .unset, .unset, .unset, .unset, .unset, .unset] [(.int fl), (.int ((sv + dv) + (1 : Int32))), (.ref ln)]))
    obtain ⟨ce27, Ar27, S27, G27⟩ := id V_ln_26
    obtain ⟨T27, h27, X27, e27, W27, st27⟩ := stB X26g hx hZ e26 Ar27 (j := ((sv + dv) + (1 : Int32))) (own_in (i := (ss + d + 1)) S27 i2 (by omega)) (g := (mkF m 375 #[.val (.long q0), .second, .val (.int p1), .val (.int p2), .val (.int p3), .val (.int p4), .val (.int p5), .val (.long nn), .second, .val (.int sv), .val (.int dv), .val (.ref ln), .val (.int fl), .unset, .unset, .unset, .unset, .unset, .unset] [(.int fl), (.int ((sv + dv) + (1 : Int32))), (.ref ln)])) rfl rfl (hb hby at_375)
    rw [own_cl (j := ((sv + dv) + (1 : Int32))) (i := (ss + d + 1)) i2] at W27 X27
    refine own_go (fun t_ kt_ => st27 _ kt_) ?_
    have N27 := Fr.snoc X27 N26g gt_ln
    obtain ⟨lo27, X27g, N27g⟩ : ∃ lo, Stand p l e room_1 s m #[(.long q0), (.int p1), (.int p2), (.int p3), (.int p4), (.int p5)] below meth c T27 lo 1 26 ∧ Fr n0 lo := ⟨_, X27, N27⟩
    rw [(nfl : nar .byte fl = fl)] at W27
    have ZZ_27 : n0 ≤ h27.size := Nat.le_trans ZZ_26 (Nat.le_of_eq W27.size.symm)
    have V_ln_27 : own_Ary Z h27 ln .byte 26 (own_set (own_set (fun j => .int (uu25 j)) (ss + d) (.int (44 : Int32))) (ss + d + 1) (.int fl)) := own_Ary.set Ar27 S27 G27 W27
    show own_Go p e below s _ _ _ (T27.setTop (mkF m 376 #[.val (.long q0), .second, .val (.int p1), .val (.int p2), .val (.int p3), .val (.int p4), .val (.int p5), .val (.long nn), .second, .val (.int sv), .val (.int dv), .val (.ref ln), .val (.int fl), .unset, .unset, .unset, .unset, .unset, .unset] []))
    refine own_go (fun t_ kt_ => XS.aload X27g.here hx rfl (hb hby at_376) rfl rfl kt_) ?_
    show own_Go p e below s _ _ _ (T27.setTop (mkF m 378 #[.val (.long q0), .second, .val (.int p1), .val (.int p2), .val (.int p3), .val (.int p4), .val (.int p5), .val (.long nn), .second, .val (.int sv), .val (.int dv), .val (.ref ln), .val (.int fl), .unset, .unset, .unset, .unset, .unset, .unset] [(.ref ln)]))
    refine own_go (fun t_ kt_ => XS.iload X27g.here hx rfl (hb hby at_378) rfl kt_) ?_
    show own_Go p e below s _ _ _ (T27.setTop (mkF m 380 #[.val (.long q0), .second, .val (.int p1), .val (.int p2), .val (.int p3), .val (.int p4), .val (.int p5), .val (.long nn), .second, .val (.int sv), .val (.int dv), .val (.ref ln), .val (.int fl), .unset, .unset, .unset, .unset, .unset, .unset] [(.int sv), (.ref ln)]))
    refine own_go (fun t_ kt_ => XS.iload X27g.here hx rfl (hb hby at_380) rfl kt_) ?_
    show own_Go p e below s _ _ _ (T27.setTop (mkF m 382 #[.val (.long q0), .second, .val (.int p1), .val (.int p2), .val (.int p3), .val (.int p4), .val (.int p5), .val (.long nn), .second, .val (.int sv), .val (.int dv), .val (.ref ln), .val (.int fl), .unset, .unset, .unset, .unset, .unset, .unset] [(.int dv), (.int sv), (.ref ln)]))
    refine own_go (fun t_ kt_ => XS.iadd X27g.here hx rfl (hb hby at_382) rfl kt_) ?_
    show own_Go p e below s _ _ _ (T27.setTop (mkF m 383 #[.val (.long q0), .second, .val (.int p1), .val (.int p2), .val (.int p3), .val (.int p4), .val (.int p5), .val (.long nn), .second, .val (.int sv), .val (.int dv), .val (.ref ln), .val (.int fl), .unset, .unset, .unset, .unset, .unset, .unset] [(.int (sv + dv)), (.ref ln)]))
    refine own_go (fun t_ kt_ => XS.iconst X27g.here hx rfl (hb hby at_383) kt_) ?_
    show own_Go p e below s _ _ _ (T27.setTop (mkF m 384 #[.val (.long q0), .second, .val (.int p1), .val (.int p2), .val (.int p3), .val (.int p4), .val (.int p5), .val (.long nn), .second, .val (.int sv), .val (.int dv), .val (.ref ln), .val (.int fl), .unset, .unset, .unset, .unset, .unset, .unset] [(.int (2 : Int32)), (.int (sv + dv)), (.ref ln)]))
    refine own_go (fun t_ kt_ => XS.iadd X27g.here hx rfl (hb hby at_384) rfl kt_) ?_
    show own_Go p e below s _ _ _ (T27.setTop (mkF m 385 #[.val (.long q0), .second, .val (.int p1), .val (.int p2), .val (.int p3), .val (.int p4), .val (.int p5), .val (.long nn), .second, .val (.int sv), .val (.int dv), .val (.ref ln), .val (.int fl), .unset, .unset, .unset, .unset, .unset, .unset] [(.int ((sv + dv) + (2 : Int32))), (.ref ln)]))
    refine own_go (fun t_ kt_ => XS.iload X27g.here hx rfl (hb hby at_385) rfl kt_) ?_
    show own_Go p e below s _ _ _ (T27.setTop (mkF m 387 #[.val (.long q0), .second, .val (.int p1), .val (.int p2), .val (.int p3), .val (.int p4), .val (.int p5), .val (.long nn), .second, .val (.int sv), .val (.int dv), .val (.ref ln), .val (.int fl), .unset, .unset, .unset, .unset, .unset, .unset] [(.int p5), (.int ((sv + dv) + (2 : Int32))), (.ref ln)]))
    refine own_go (fun t_ kt_ => XS.bipush X27g.here hx rfl (hb hby at_387) kt_) ?_
    show own_Go p e below s _ _ _ (T27.setTop (mkF m 389 #[.val (.long q0), .second, .val (.int p1), .val (.int p2), .val (.int p3), .val (.int p4), .val (.int p5), .val (.long nn), .second, .val (.int sv), .val (.int dv), .val (.ref ln), .val (.int fl), .unset, .unset, .unset, .unset, .unset, .unset] [(.int (8 : Int32)), (.int p5), (.int ((sv + dv) + (2 : Int32))), (.ref ln)]))
    refine own_go (fun t_ kt_ => XS.ishr X27g.here hx rfl (hb hby at_389) rfl kt_) ?_
    show own_Go p e below s _ _ _ (T27.setTop (mkF m 390 #[.val (.long q0), .second, .val (.int p1), .val (.int p2), .val (.int p3), .val (.int p4), .val (.int p5), .val (.long nn), .second, .val (.int sv), .val (.int dv), .val (.ref ln), .val (.int fl), .unset, .unset, .unset, .unset, .unset, .unset] [(.int (p5 >>> ((8 : Int32) &&& 31))), (.int ((sv + dv) + (2 : Int32))), (.ref ln)]))
    refine own_go (fun t_ kt_ => XS.i2b X27g.here hx rfl (hb hby at_390) rfl kt_) ?_
    show own_Go p e below s _ _ _ (T27.setTop (mkF m 391 #[.val (.long q0), .second, .val (.int p1), .val (.int p2), .val (.int p3), .val (.int p4), .val (.int p5), .val (.long nn), .second, .val (.int sv), .val (.int dv), .val (.ref ln), .val (.int fl), .unset, .unset, .unset, .unset, .unset, .unset] [(.int ((p5 >>> ((8 : Int32) &&& 31)).toInt8.toInt32)), (.int ((sv + dv) + (2 : Int32))), (.ref ln)]))
    obtain ⟨ce28, Ar28, S28, G28⟩ := id V_ln_27
    obtain ⟨T28, h28, X28, e28, W28, st28⟩ := stB X27g hx hZ e27 Ar28 (j := ((sv + dv) + (2 : Int32))) (own_in (i := (ss + d + 2)) S28 i3 (by omega)) (g := (mkF m 391 #[.val (.long q0), .second, .val (.int p1), .val (.int p2), .val (.int p3), .val (.int p4), .val (.int p5), .val (.long nn), .second, .val (.int sv), .val (.int dv), .val (.ref ln), .val (.int fl), .unset, .unset, .unset, .unset, .unset, .unset] [(.int ((p5 >>> ((8 : Int32) &&& 31)).toInt8.toInt32)), (.int ((sv + dv) + (2 : Int32))), (.ref ln)])) rfl rfl (hb hby at_391)
    rw [own_cl (j := ((sv + dv) + (2 : Int32))) (i := (ss + d + 2)) i3] at W28 X28
    refine own_go (fun t_ kt_ => st28 _ kt_) ?_
    have N28 := Fr.snoc X28 N27g gt_ln
    obtain ⟨lo28, X28g, N28g⟩ : ∃ lo, Stand p l e room_1 s m #[(.long q0), (.int p1), (.int p2), (.int p3), (.int p4), (.int p5)] below meth c T28 lo 1 26 ∧ Fr n0 lo := ⟨_, X28, N28⟩
    rw [(own_nb8 _ : nar .byte ((p5 >>> ((8 : Int32) &&& 31)).toInt8.toInt32) = ((p5 >>> ((8 : Int32) &&& 31)).toInt8.toInt32))] at W28
    have ZZ_28 : n0 ≤ h28.size := Nat.le_trans ZZ_27 (Nat.le_of_eq W28.size.symm)
    have V_ln_28 : own_Ary Z h28 ln .byte 26 (own_set (own_set (own_set (fun j => .int (uu25 j)) (ss + d) (.int (44 : Int32))) (ss + d + 1) (.int fl)) (ss + d + 2) (.int ((p5 >>> ((8 : Int32) &&& 31)).toInt8.toInt32))) := own_Ary.set Ar28 S28 G28 W28
    show own_Go p e below s _ _ _ (T28.setTop (mkF m 392 #[.val (.long q0), .second, .val (.int p1), .val (.int p2), .val (.int p3), .val (.int p4), .val (.int p5), .val (.long nn), .second, .val (.int sv), .val (.int dv), .val (.ref ln), .val (.int fl), .unset, .unset, .unset, .unset, .unset, .unset] []))
    obtain ⟨w0, hw0⟩ : ∃ z, z = own_upd (own_upd (own_upd uu25 (ss + d) (44 : Int32)) (ss + d + 1) fl) (ss + d + 2) ((p5 >>> ((8 : Int32) &&& 31)).toInt8.toInt32) := ⟨_, rfl⟩
    have VW0 : own_Ary Z h28 ln .byte 26 (fun j => .int (w0 j)) := V_ln_28.congr (fun j _ => by
      rw [hw0]
      simp only [own_set, own_upd]
      split
      · rfl
      · split
        · rfl
        · split <;> rfl)
    have w44 : w0 (ss + d) = (44 : Int32) := by rw [hw0, own_updN _ _ _ _ (by omega), own_updN _ _ _ _ (by omega), own_updY]
    have wd : ∀ k, k < d → w0 (ss + d - 1 - k) = own_dig N k := fun k hk => by rw [hw0, own_updN _ _ _ _ (by omega), own_updN _ _ _ _ (by omega), own_updN _ _ _ _ (by omega)]; exact hk19 k (by omega) hk
    refine own_go (fun t_ kt_ => XS.iload X28g.here hx rfl (hb hby at_392) rfl kt_) ?_
    show own_Go p e below s _ _ _ (T28.setTop (mkF m 394 #[.val (.long q0), .second, .val (.int p1), .val (.int p2), .val (.int p3), .val (.int p4), .val (.int p5), .val (.long nn), .second, .val (.int sv), .val (.int dv), .val (.ref ln), .val (.int fl), .unset, .unset, .unset, .unset, .unset, .unset] [(.int sv)]))
    refine own_go (fun t_ kt_ => XS.iload X28g.here hx rfl (hb hby at_394) rfl kt_) ?_
    show own_Go p e below s _ _ _ (T28.setTop (mkF m 396 #[.val (.long q0), .second, .val (.int p1), .val (.int p2), .val (.int p3), .val (.int p4), .val (.int p5), .val (.long nn), .second, .val (.int sv), .val (.int dv), .val (.ref ln), .val (.int fl), .unset, .unset, .unset, .unset, .unset, .unset] [(.int dv), (.int sv)]))
    refine own_go (fun t_ kt_ => XS.iadd X28g.here hx rfl (hb hby at_396) rfl kt_) ?_
    show own_Go p e below s _ _ _ (T28.setTop (mkF m 397 #[.val (.long q0), .second, .val (.int p1), .val (.int p2), .val (.int p3), .val (.int p4), .val (.int p5), .val (.long nn), .second, .val (.int sv), .val (.int dv), .val (.ref ln), .val (.int fl), .unset, .unset, .unset, .unset, .unset, .unset] [(.int (sv + dv))]))
    refine own_go (fun t_ kt_ => XS.iconst X28g.here hx rfl (hb hby at_397) kt_) ?_
    show own_Go p e below s _ _ _ (T28.setTop (mkF m 398 #[.val (.long q0), .second, .val (.int p1), .val (.int p2), .val (.int p3), .val (.int p4), .val (.int p5), .val (.long nn), .second, .val (.int sv), .val (.int dv), .val (.ref ln), .val (.int fl), .unset, .unset, .unset, .unset, .unset, .unset] [(.int (1 : Int32)), (.int (sv + dv))]))
    refine own_go (fun t_ kt_ => XS.iadd X28g.here hx rfl (hb hby at_398) rfl kt_) ?_
    show own_Go p e below s _ _ _ (T28.setTop (mkF m 399 #[.val (.long q0), .second, .val (.int p1), .val (.int p2), .val (.int p3), .val (.int p4), .val (.int p5), .val (.long nn), .second, .val (.int sv), .val (.int dv), .val (.ref ln), .val (.int fl), .unset, .unset, .unset, .unset, .unset, .unset] [(.int ((sv + dv) + (1 : Int32)))]))
    refine own_go (fun t_ kt_ => XS.iloadN X28g.here hx rfl (hb hby at_399) rfl kt_) ?_
    show own_Go p e below s _ _ _ (T28.setTop (mkF m 400 #[.val (.long q0), .second, .val (.int p1), .val (.int p2), .val (.int p3), .val (.int p4), .val (.int p5), .val (.long nn), .second, .val (.int sv), .val (.int dv), .val (.ref ln), .val (.int fl), .unset, .unset, .unset, .unset, .unset, .unset] [(.int p2), (.int ((sv + dv) + (1 : Int32)))]))
    refine own_go (fun t_ kt_ => XS.bipush X28g.here hx rfl (hb hby at_400) kt_) ?_
    show own_Go p e below s _ _ _ (T28.setTop (mkF m 402 #[.val (.long q0), .second, .val (.int p1), .val (.int p2), .val (.int p3), .val (.int p4), .val (.int p5), .val (.long nn), .second, .val (.int sv), .val (.int dv), .val (.ref ln), .val (.int fl), .unset, .unset, .unset, .unset, .unset, .unset] [(.int (7 : Int32)), (.int p2), (.int ((sv + dv) + (1 : Int32)))]))
    refine own_go (fun t_ kt_ => XS.iand X28g.here hx rfl (hb hby at_402) rfl kt_) ?_
    show own_Go p e below s _ _ _ (T28.setTop (mkF m 403 #[.val (.long q0), .second, .val (.int p1), .val (.int p2), .val (.int p3), .val (.int p4), .val (.int p5), .val (.long nn), .second, .val (.int sv), .val (.int dv), .val (.ref ln), .val (.int fl), .unset, .unset, .unset, .unset, .unset, .unset] [(.int (p2 &&& (7 : Int32))), (.int ((sv + dv) + (1 : Int32)))]))
    refine own_go (fun t_ kt_ => XS.iadd X28g.here hx rfl (hb hby at_403) rfl kt_) ?_
    show own_Go p e below s _ _ _ (T28.setTop (mkF m 404 #[.val (.long q0), .second, .val (.int p1), .val (.int p2), .val (.int p3), .val (.int p4), .val (.int p5), .val (.long nn), .second, .val (.int sv), .val (.int dv), .val (.ref ln), .val (.int fl), .unset, .unset, .unset, .unset, .unset, .unset] [(.int (((sv + dv) + (1 : Int32)) + (p2 &&& (7 : Int32))))]))
    refine own_go (fun t_ kt_ => XS.iconst X28g.here hx rfl (hb hby at_404) kt_) ?_
    show own_Go p e below s _ _ _ (T28.setTop (mkF m 405 #[.val (.long q0), .second, .val (.int p1), .val (.int p2), .val (.int p3), .val (.int p4), .val (.int p5), .val (.long nn), .second, .val (.int sv), .val (.int dv), .val (.ref ln), .val (.int fl), .unset, .unset, .unset, .unset, .unset, .unset] [(.int (4 : Int32)), (.int (((sv + dv) + (1 : Int32)) + (p2 &&& (7 : Int32))))]))
    refine own_go (fun t_ kt_ => XS.isub X28g.here hx rfl (hb hby at_405) rfl kt_) ?_
    show own_Go p e below s _ _ _ (T28.setTop (mkF m 406 #[.val (.long q0), .second, .val (.int p1), .val (.int p2), .val (.int p3), .val (.int p4), .val (.int p5), .val (.long nn), .second, .val (.int sv), .val (.int dv), .val (.ref ln), .val (.int fl), .unset, .unset, .unset, .unset, .unset, .unset] [(.int ((((sv + dv) + (1 : Int32)) + (p2 &&& (7 : Int32))) - (4 : Int32)))]))
    refine own_go (fun t_ kt_ => XS.istore X28g.here hx rfl (hb hby at_406) rfl (l' := #[.val (.long q0), .second, .val (.int p1), .val (.int p2), .val (.int p3), .val (.int p4), .val (.int p5), .val (.long nn), .second, .val (.int sv), .val (.int dv), .val (.ref ln), .val (.int fl), .val (.int ((((sv + dv) + (1 : Int32)) + (p2 &&& (7 : Int32))) - (4 : Int32))), .unset, .unset, .unset, .unset, .unset]) rfl kt_) ?_
    show own_Go p e below s _ _ _ (T28.setTop (mkF m 408 #[.val (.long q0), .second, .val (.int p1), .val (.int p2), .val (.int p3), .val (.int p4), .val (.int p5), .val (.long nn), .second, .val (.int sv), .val (.int dv), .val (.ref ln), .val (.int fl), .val (.int ((((sv + dv) + (1 : Int32)) + (p2 &&& (7 : Int32))) - (4 : Int32))), .unset, .unset, .unset, .unset, .unset] []))
    obtain ⟨ev, hev⟩ : ∃ z, z = ((((sv + dv) + (1 : Int32)) + (p2 &&& (7 : Int32))) - (4 : Int32)) := ⟨_, rfl⟩
    rw [← hev]
    show own_Go p e below s _ _ _ (T28.setTop (mkF m 408 #[.val (.long q0), .second, .val (.int p1), .val (.int p2), .val (.int p3), .val (.int p4), .val (.int p5), .val (.long nn), .second, .val (.int sv), .val (.int dv), .val (.ref ln), .val (.int fl), .val (.int ev), .unset, .unset, .unset, .unset, .unset] []))
    refine own_go (fun t_ kt_ => XS.iload X28g.here hx rfl (hb hby at_408) rfl kt_) ?_
    show own_Go p e below s _ _ _ (T28.setTop (mkF m 410 #[.val (.long q0), .second, .val (.int p1), .val (.int p2), .val (.int p3), .val (.int p4), .val (.int p5), .val (.long nn), .second, .val (.int sv), .val (.int dv), .val (.ref ln), .val (.int fl), .val (.int ev), .unset, .unset, .unset, .unset, .unset] [(.int p3)]))
    refine own_go (fun t_ kt_ => XS.bipush X28g.here hx rfl (hb hby at_410) kt_) ?_
    show own_Go p e below s _ _ _ (T28.setTop (mkF m 412 #[.val (.long q0), .second, .val (.int p1), .val (.int p2), .val (.int p3), .val (.int p4), .val (.int p5), .val (.long nn), .second, .val (.int sv), .val (.int dv), .val (.ref ln), .val (.int fl), .val (.int ev), .unset, .unset, .unset, .unset, .unset] [(.int (31 : Int32)), (.int p3)]))
    refine own_go (fun t_ kt_ => XS.iand X28g.here hx rfl (hb hby at_412) rfl kt_) ?_
    show own_Go p e below s _ _ _ (T28.setTop (mkF m 413 #[.val (.long q0), .second, .val (.int p1), .val (.int p2), .val (.int p3), .val (.int p4), .val (.int p5), .val (.long nn), .second, .val (.int sv), .val (.int dv), .val (.ref ln), .val (.int fl), .val (.int ev), .unset, .unset, .unset, .unset, .unset] [(.int (p3 &&& (31 : Int32)))]))
    refine own_go (fun t_ kt_ => XS.bipush X28g.here hx rfl (hb hby at_413) kt_) ?_
    show own_Go p e below s _ _ _ (T28.setTop (mkF m 415 #[.val (.long q0), .second, .val (.int p1), .val (.int p2), .val (.int p3), .val (.int p4), .val (.int p5), .val (.long nn), .second, .val (.int sv), .val (.int dv), .val (.ref ln), .val (.int fl), .val (.int ev), .unset, .unset, .unset, .unset, .unset] [(.int (26 : Int32)), (.int (p3 &&& (31 : Int32)))]))
    refine own_go (fun t_ kt_ => iremM X28g hx rfl (hb hby at_415) rfl (by decide) kt_) ?_
    show own_Go p e below s _ _ _ (T28.setTop (mkF m 416 #[.val (.long q0), .second, .val (.int p1), .val (.int p2), .val (.int p3), .val (.int p4), .val (.int p5), .val (.long nn), .second, .val (.int sv), .val (.int dv), .val (.ref ln), .val (.int fl), .val (.int ev), .unset, .unset, .unset, .unset, .unset] [(.int ((p3 &&& (31 : Int32)) % (26 : Int32)))]))
    refine own_go (fun t_ kt_ => XS.istore X28g.here hx rfl (hb hby at_416) rfl (l' := #[.val (.long q0), .second, .val (.int p1), .val (.int p2), .val (.int p3), .val (.int p4), .val (.int p5), .val (.long nn), .second, .val (.int sv), .val (.int dv), .val (.ref ln), .val (.int fl), .val (.int ev), .val (.int ((p3 &&& (31 : Int32)) % (26 : Int32))), .unset, .unset, .unset, .unset]) rfl kt_) ?_
    show own_Go p e below s _ _ _ (T28.setTop (mkF m 418 #[.val (.long q0), .second, .val (.int p1), .val (.int p2), .val (.int p3), .val (.int p4), .val (.int p5), .val (.long nn), .second, .val (.int sv), .val (.int dv), .val (.ref ln), .val (.int fl), .val (.int ev), .val (.int ((p3 &&& (31 : Int32)) % (26 : Int32))), .unset, .unset, .unset, .unset] []))
    obtain ⟨qv, hqv⟩ : ∃ z, z = ((p3 &&& (31 : Int32)) % (26 : Int32)) := ⟨_, rfl⟩
    rw [← hqv]
    show own_Go p e below s _ _ _ (T28.setTop (mkF m 418 #[.val (.long q0), .second, .val (.int p1), .val (.int p2), .val (.int p3), .val (.int p4), .val (.int p5), .val (.long nn), .second, .val (.int sv), .val (.int dv), .val (.ref ln), .val (.int fl), .val (.int ev), .val (.int qv), .unset, .unset, .unset, .unset] []))
    obtain ⟨qq, hq, hq26⟩ : ∃ n : Nat, qv.toInt = (n : Int) ∧ n < 26 := by rw [hqv]; exact own_q26 _
    refine own_go (fun t_ kt_ => XS.iload X28g.here hx rfl (hb hby at_418) rfl kt_) ?_
    show own_Go p e below s _ _ _ (T28.setTop (mkF m 420 #[.val (.long q0), .second, .val (.int p1), .val (.int p2), .val (.int p3), .val (.int p4), .val (.int p5), .val (.long nn), .second, .val (.int sv), .val (.int dv), .val (.ref ln), .val (.int fl), .val (.int ev), .val (.int qv), .unset, .unset, .unset, .unset] [(.int p4)]))
    refine own_go (fun t_ kt_ => XS.i2b X28g.here hx rfl (hb hby at_420) rfl kt_) ?_
    show own_Go p e below s _ _ _ (T28.setTop (mkF m 421 #[.val (.long q0), .second, .val (.int p1), .val (.int p2), .val (.int p3), .val (.int p4), .val (.int p5), .val (.long nn), .second, .val (.int sv), .val (.int dv), .val (.ref ln), .val (.int fl), .val (.int ev), .val (.int qv), .unset, .unset, .unset, .unset] [(.int (p4.toInt8.toInt32))]))
    refine own_go (fun t_ kt_ => XS.istore X28g.here hx rfl (hb hby at_421) rfl (l' := #[.val (.long q0), .second, .val (.int p1), .val (.int p2), .val (.int p3), .val (.int p4), .val (.int p5), .val (.long nn), .second, .val (.int sv), .val (.int dv), .val (.ref ln), .val (.int fl), .val (.int ev), .val (.int qv), .val (.int (p4.toInt8.toInt32)), .unset, .unset, .unset]) rfl kt_) ?_
    show own_Go p e below s _ _ _ (T28.setTop (mkF m 423 #[.val (.long q0), .second, .val (.int p1), .val (.int p2), .val (.int p3), .val (.int p4), .val (.int p5), .val (.long nn), .second, .val (.int sv), .val (.int dv), .val (.ref ln), .val (.int fl), .val (.int ev), .val (.int qv), .val (.int (p4.toInt8.toInt32)), .unset, .unset, .unset] []))
    obtain ⟨vv, hvv⟩ : ∃ z, z = (p4.toInt8.toInt32) := ⟨_, rfl⟩
    rw [← hvv]
    show own_Go p e below s _ _ _ (T28.setTop (mkF m 423 #[.val (.long q0), .second, .val (.int p1), .val (.int p2), .val (.int p3), .val (.int p4), .val (.int p5), .val (.long nn), .second, .val (.int sv), .val (.int dv), .val (.ref ln), .val (.int fl), .val (.int ev), .val (.int qv), .val (.int vv), .unset, .unset, .unset] []))
    have nvv : nar .byte vv = vv := by rw [hvv]; exact own_nb8 _
    refine own_go (fun t_ kt_ => XS.aload X28g.here hx rfl (hb hby at_423) rfl rfl kt_) ?_
    show own_Go p e below s _ _ _ (T28.setTop (mkF m 425 #[.val (.long q0), .second, .val (.int p1), .val (.int p2), .val (.int p3), .val (.int p4), .val (.int p5), .val (.long nn), .second, .val (.int sv), .val (.int dv), .val (.ref ln), .val (.int fl), .val (.int ev), .val (.int qv), .val (.int vv), .unset, .unset, .unset] [(.ref ln)]))
    refine own_go (fun t_ kt_ => XS.iload X28g.here hx rfl (hb hby at_425) rfl kt_) ?_
    show own_Go p e below s _ _ _ (T28.setTop (mkF m 427 #[.val (.long q0), .second, .val (.int p1), .val (.int p2), .val (.int p3), .val (.int p4), .val (.int p5), .val (.long nn), .second, .val (.int sv), .val (.int dv), .val (.ref ln), .val (.int fl), .val (.int ev), .val (.int qv), .val (.int vv), .unset, .unset, .unset] [(.int qv), (.ref ln)]))
    obtain ⟨ce29, Ar29, S29, G29⟩ := id VW0
    have q29 : ce29.slots[(qv).toNatClampNeg]? = some (.int (w0 qq)) := by rw [own_cl (j := qv) (i := qq) hq]; exact (G29 _ hq26).trans (congrArg some (rfl))
    refine own_go (fun t_ kt_ => X28g.baloadBytes hx (j := qv) (v := (.int (w0 qq))) (by rw [e28]; exact Ar29.1) (State.isArrayOf_alike hZ.alike Ar29.2.1) Ar29.2.2 (own_in (i := qq) S29 hq hq26) q29 (g := (mkF m 427 #[.val (.long q0), .second, .val (.int p1), .val (.int p2), .val (.int p3), .val (.int p4), .val (.int p5), .val (.long nn), .second, .val (.int sv), .val (.int dv), .val (.ref ln), .val (.int fl), .val (.int ev), .val (.int qv), .val (.int vv), .unset, .unset, .unset] [(.int qv), (.ref ln)])) rfl rfl (hb hby at_427) _ kt_) ?_
    show own_Go p e below s _ _ _ (T28.setTop (mkF m 428 #[.val (.long q0), .second, .val (.int p1), .val (.int p2), .val (.int p3), .val (.int p4), .val (.int p5), .val (.long nn), .second, .val (.int sv), .val (.int dv), .val (.ref ln), .val (.int fl), .val (.int ev), .val (.int qv), .val (.int vv), .unset, .unset, .unset] [(.int (w0 qq))]))
    refine own_go (fun t_ kt_ => XS.istore X28g.here hx rfl (hb hby at_428) rfl (l' := #[.val (.long q0), .second, .val (.int p1), .val (.int p2), .val (.int p3), .val (.int p4), .val (.int p5), .val (.long nn), .second, .val (.int sv), .val (.int dv), .val (.ref ln), .val (.int fl), .val (.int ev), .val (.int qv), .val (.int vv), .val (.int (w0 qq)), .unset, .unset]) rfl kt_) ?_
    show own_Go p e below s _ _ _ (T28.setTop (mkF m 430 #[.val (.long q0), .second, .val (.int p1), .val (.int p2), .val (.int p3), .val (.int p4), .val (.int p5), .val (.long nn), .second, .val (.int sv), .val (.int dv), .val (.ref ln), .val (.int fl), .val (.int ev), .val (.int qv), .val (.int vv), .val (.int (w0 qq)), .unset, .unset] []))
    refine own_go (fun t_ kt_ => XS.aload X28g.here hx rfl (hb hby at_430) rfl rfl kt_) ?_
    show own_Go p e below s _ _ _ (T28.setTop (mkF m 432 #[.val (.long q0), .second, .val (.int p1), .val (.int p2), .val (.int p3), .val (.int p4), .val (.int p5), .val (.long nn), .second, .val (.int sv), .val (.int dv), .val (.ref ln), .val (.int fl), .val (.int ev), .val (.int qv), .val (.int vv), .val (.int (w0 qq)), .unset, .unset] [(.ref ln)]))
    refine own_go (fun t_ kt_ => XS.iload X28g.here hx rfl (hb hby at_432) rfl kt_) ?_
    show own_Go p e below s _ _ _ (T28.setTop (mkF m 434 #[.val (.long q0), .second, .val (.int p1), .val (.int p2), .val (.int p3), .val (.int p4), .val (.int p5), .val (.long nn), .second, .val (.int sv), .val (.int dv), .val (.ref ln), .val (.int fl), .val (.int ev), .val (.int qv), .val (.int vv), .val (.int (w0 qq)), .unset, .unset] [(.int qv), (.ref ln)]))
    refine own_go (fun t_ kt_ => XS.iload X28g.here hx rfl (hb hby at_434) rfl kt_) ?_
    show own_Go p e below s _ _ _ (T28.setTop (mkF m 436 #[.val (.long q0), .second, .val (.int p1), .val (.int p2), .val (.int p3), .val (.int p4), .val (.int p5), .val (.long nn), .second, .val (.int sv), .val (.int dv), .val (.ref ln), .val (.int fl), .val (.int ev), .val (.int qv), .val (.int vv), .val (.int (w0 qq)), .unset, .unset] [(.int vv), (.int qv), (.ref ln)]))
    obtain ⟨ce30, Ar30, S30, G30⟩ := id VW0
    obtain ⟨T30, h30, X30, e30, W30, st30⟩ := stB X28g hx hZ e28 Ar30 (j := qv) (own_in (i := qq) S30 hq hq26) (g := (mkF m 436 #[.val (.long q0), .second, .val (.int p1), .val (.int p2), .val (.int p3), .val (.int p4), .val (.int p5), .val (.long nn), .second, .val (.int sv), .val (.int dv), .val (.ref ln), .val (.int fl), .val (.int ev), .val (.int qv), .val (.int vv), .val (.int (w0 qq)), .unset, .unset] [(.int vv), (.int qv), (.ref ln)])) rfl rfl (hb hby at_436)
    rw [own_cl (j := qv) (i := qq) hq] at W30 X30
    refine own_go (fun t_ kt_ => st30 _ kt_) ?_
    have N30 := Fr.snoc X30 N28g gt_ln
    obtain ⟨lo30, X30g, N30g⟩ : ∃ lo, Stand p l e room_1 s m #[(.long q0), (.int p1), (.int p2), (.int p3), (.int p4), (.int p5)] below meth c T30 lo 1 26 ∧ Fr n0 lo := ⟨_, X30, N30⟩
    rw [(nvv : nar .byte vv = vv)] at W30
    have ZZ_30 : n0 ≤ h30.size := Nat.le_trans ZZ_28 (Nat.le_of_eq W30.size.symm)
    have V_ln_30 : own_Ary Z h30 ln .byte 26 (own_set (fun j => .int (w0 j)) qq (.int vv)) := own_Ary.set Ar30 S30 G30 W30
    show own_Go p e below s _ _ _ (T30.setTop (mkF m 437 #[.val (.long q0), .second, .val (.int p1), .val (.int p2), .val (.int p3), .val (.int p4), .val (.int p5), .val (.long nn), .second, .val (.int sv), .val (.int dv), .val (.ref ln), .val (.int fl), .val (.int ev), .val (.int qv), .val (.int vv), .val (.int (w0 qq)), .unset, .unset] []))
    have VW1 : own_Ary Z h30 ln .byte 26 (fun j => .int (own_upd w0 qq vv j)) := V_ln_30.congr (fun j _ => own_updS w0 qq vv j)
    have J476 : ∀ (T31 : State) (locs31 : List Loc) (X31 : Stand p l e room_1 s m #[(.long q0), (.int p1), (.int p2), (.int p3), (.int p4), (.int p5)] below meth c T31 locs31 1 26) (e31 : T31.heap = h30) (N31 : Fr n0 locs31) (z : Int32) (hz : (z = 1 ∧ own_Ok (own_upd w0 qq vv) ss d N ev.toInt) ∨ (z = 0 ∧ ¬ own_Ok (own_upd w0 qq vv) ss d N ev.toInt)), own_Go p e below s (Q0 Z q0 p1 p2 p3 p4 p5 h0 n0) (room_1).cells (room_1).slots (T31.setTop (mkF m 476 #[.val (.long q0), .second, .val (.int p1), .val (.int p2), .val (.int p3), .val (.int p4), .val (.int p5), .val (.long nn), .second, .val (.int sv), .val (.int dv), .val (.ref ln), .val (.int fl), .val (.int ev), .val (.int qv), .val (.int vv), .val (.int (w0 qq)), .unset, .unset] [(.int z)])) := by
      intro T31 locs31 X31 e31 N31 z hz
      refine own_go (fun t_ kt_ => XS.istore X31.here hx rfl (hb hby at_476) rfl (l' := #[.val (.long q0), .second, .val (.int p1), .val (.int p2), .val (.int p3), .val (.int p4), .val (.int p5), .val (.long nn), .second, .val (.int sv), .val (.int dv), .val (.ref ln), .val (.int fl), .val (.int ev), .val (.int qv), .val (.int vv), .val (.int (w0 qq)), .val (.int z), .unset]) rfl kt_) ?_
      show own_Go p e below s _ _ _ (T31.setTop (mkF m 478 #[.val (.long q0), .second, .val (.int p1), .val (.int p2), .val (.int p3), .val (.int p4), .val (.int p5), .val (.long nn), .second, .val (.int sv), .val (.int dv), .val (.ref ln), .val (.int fl), .val (.int ev), .val (.int qv), .val (.int vv), .val (.int (w0 qq)), .val (.int z), .unset] []))
      refine own_go (fun t_ kt_ => XS.aload X31.here hx rfl (hb hby at_478) rfl rfl kt_) ?_
      show own_Go p e below s _ _ _ (T31.setTop (mkF m 480 #[.val (.long q0), .second, .val (.int p1), .val (.int p2), .val (.int p3), .val (.int p4), .val (.int p5), .val (.long nn), .second, .val (.int sv), .val (.int dv), .val (.ref ln), .val (.int fl), .val (.int ev), .val (.int qv), .val (.int vv), .val (.int (w0 qq)), .val (.int z), .unset] [(.ref ln)]))
      refine own_go (fun t_ kt_ => XS.iload X31.here hx rfl (hb hby at_480) rfl kt_) ?_
      show own_Go p e below s _ _ _ (T31.setTop (mkF m 482 #[.val (.long q0), .second, .val (.int p1), .val (.int p2), .val (.int p3), .val (.int p4), .val (.int p5), .val (.long nn), .second, .val (.int sv), .val (.int dv), .val (.ref ln), .val (.int fl), .val (.int ev), .val (.int qv), .val (.int vv), .val (.int (w0 qq)), .val (.int z), .unset] [(.int sv), (.ref ln)]))
      refine own_go (fun t_ kt_ => XS.iload X31.here hx rfl (hb hby at_482) rfl kt_) ?_
      show own_Go p e below s _ _ _ (T31.setTop (mkF m 484 #[.val (.long q0), .second, .val (.int p1), .val (.int p2), .val (.int p3), .val (.int p4), .val (.int p5), .val (.long nn), .second, .val (.int sv), .val (.int dv), .val (.ref ln), .val (.int fl), .val (.int ev), .val (.int qv), .val (.int vv), .val (.int (w0 qq)), .val (.int z), .unset] [(.int ev), (.int sv), (.ref ln)]))
      refine own_go (fun t_ kt_ => XS.lload X31.here hx rfl (hb hby at_484) rfl kt_) ?_
      show own_Go p e below s _ _ _ (T31.setTop (mkF m 486 #[.val (.long q0), .second, .val (.int p1), .val (.int p2), .val (.int p3), .val (.int p4), .val (.int p5), .val (.long nn), .second, .val (.int sv), .val (.int dv), .val (.ref ln), .val (.int fl), .val (.int ev), .val (.int qv), .val (.int vv), .val (.int (w0 qq)), .val (.int z), .unset] [(.long nn), (.int ev), (.int sv), (.ref ln)]))
      obtain ⟨_, _, ⟨T32, L32, k32, n32⟩, -, X32, ⟨Lc32, hQ32, l32, y32, z32⟩, st32⟩ := Jvm.LawKit.callS X31 hx (y := (⟨"com/example/ledgerstrike/ledgerstrike/journal/JournalFormat", "afterNumber", "([BIIJ)I"⟩ : MethodName)) hown (mvT hZ (hw _ (List.mem_of_getElem? (i := 28) rfl))) (mvT hZ (hw _ (List.mem_of_getElem? (i := 29) rfl))) (mvT hZ (hw _ (List.mem_of_getElem? (i := 30) rfl))) (mvT hZ (hw _ (List.mem_of_getElem? (i := 31) rfl))) (by decide) (backOf (W := 0) (rm3 l Z a0 hw [] (ln) (sv) (ev) (nn) ((own_upd w0 qq vv)) (ss) (d) (N) h30 n0 ZZ_30 VW1 hs hN hs3 hDg hN19 ⟨hd1, hd2⟩) hZ (hw _ (List.mem_of_getElem? (i := 31) rfl)) (hw _ (List.mem_of_getElem? (i := 30) rfl)) (by decide) (by decide)) (g := (mkF m 486 #[.val (.long q0), .second, .val (.int p1), .val (.int p2), .val (.int p3), .val (.int p4), .val (.int p5), .val (.long nn), .second, .val (.int sv), .val (.int dv), .val (.ref ln), .val (.int fl), .val (.int ev), .val (.int qv), .val (.int vv), .val (.int (w0 qq)), .val (.int z), .unset] [(.long nn), (.int ev), (.int sv), (.ref ln)])) rfl (by rw [hml]; rfl) (argsL := [(.ref ln), (.int sv), (.int ev), (.long nn)]) (rest := []) (lenOf pd_2 rfl) rfl (by show 2 * 0 + _ ≤ _; exact Nat.le_of_eq rfl) (hb hby at_486) (fun _ _ => ⟨rfl, e31, (by decide : 1 + 0 ≤ _), (by decide : 26 + 0 ≤ _)⟩)
      dsimp only [Pt.U, Pt.locs, Pt.cells, Pt.slots] at X32 l32 y32 z32 st32 hQ32
      subst l32 y32 z32
      obtain ⟨RR, rfl, hR, Nq32, eh32⟩ := hQ32
      have N32 := Fr.app N31 Nq32
      refine own_go (fun t_ kt_ => st32 _ kt_) ?_
      obtain ⟨lo32, X32g, N32g⟩ : ∃ lo, Stand p l e room_1 s m #[(.long q0), (.int p1), (.int p2), (.int p3), (.int p4), (.int p5)] below meth c T32 lo 1 26 ∧ Fr n0 lo := ⟨_, X32, N32⟩
      have e32 : T32.heap = h30 := eh32
      show own_Go p e below s _ _ _ (T32.setTop (mkF m 489 #[.val (.long q0), .second, .val (.int p1), .val (.int p2), .val (.int p3), .val (.int p4), .val (.int p5), .val (.long nn), .second, .val (.int sv), .val (.int dv), .val (.ref ln), .val (.int fl), .val (.int ev), .val (.int qv), .val (.int vv), .val (.int (w0 qq)), .val (.int z), .unset] [(.int RR)]))
      refine own_go (fun t_ kt_ => XS.istore X32g.here hx rfl (hb hby at_489) rfl (l' := #[.val (.long q0), .second, .val (.int p1), .val (.int p2), .val (.int p3), .val (.int p4), .val (.int p5), .val (.long nn), .second, .val (.int sv), .val (.int dv), .val (.ref ln), .val (.int fl), .val (.int ev), .val (.int qv), .val (.int vv), .val (.int (w0 qq)), .val (.int z), .val (.int RR)]) rfl kt_) ?_
      show own_Go p e below s _ _ _ (T32.setTop (mkF m 491 #[.val (.long q0), .second, .val (.int p1), .val (.int p2), .val (.int p3), .val (.int p4), .val (.int p5), .val (.long nn), .second, .val (.int sv), .val (.int dv), .val (.ref ln), .val (.int fl), .val (.int ev), .val (.int qv), .val (.int vv), .val (.int (w0 qq)), .val (.int z), .val (.int RR)] []))
      refine own_go (fun t_ kt_ => XS.iload X32g.here hx rfl (hb hby at_491) rfl kt_) ?_
      show own_Go p e below s _ _ _ (T32.setTop (mkF m 493 #[.val (.long q0), .second, .val (.int p1), .val (.int p2), .val (.int p3), .val (.int p4), .val (.int p5), .val (.long nn), .second, .val (.int sv), .val (.int dv), .val (.ref ln), .val (.int fl), .val (.int ev), .val (.int qv), .val (.int vv), .val (.int (w0 qq)), .val (.int z), .val (.int RR)] [(.int RR)]))
      refine own_go (fun t_ kt_ => XS.iload X32g.here hx rfl (hb hby at_493) rfl kt_) ?_
      show own_Go p e below s _ _ _ (T32.setTop (mkF m 495 #[.val (.long q0), .second, .val (.int p1), .val (.int p2), .val (.int p3), .val (.int p4), .val (.int p5), .val (.long nn), .second, .val (.int sv), .val (.int dv), .val (.ref ln), .val (.int fl), .val (.int ev), .val (.int qv), .val (.int vv), .val (.int (w0 qq)), .val (.int z), .val (.int RR)] [(.int z), (.int RR)]))
      by_cases hc495 : z = (0 : Int32)
      · skip
        have hi495 : z.toInt = 0 := congrArg Int32.toInt hc495
        refine own_go (fun t_ kt_ => XS.ifYes X32g.here hx rfl (pc0 := 495) (pc' := 508) rfl (hb hby at_495) rfl ((if0 _ _).trans (teq hc495).1) (by decide) (by decide) kt_) ?_
        show own_Go p e below s _ _ _ (T32.setTop (mkF m 508 #[.val (.long q0), .second, .val (.int p1), .val (.int p2), .val (.int p3), .val (.int p4), .val (.int p5), .val (.long nn), .second, .val (.int sv), .val (.int dv), .val (.ref ln), .val (.int fl), .val (.int ev), .val (.int qv), .val (.int vv), .val (.int (w0 qq)), .val (.int z), .val (.int RR)] [(.int RR)]))
        refine own_go (fun t_ kt_ => XS.iconst X32g.here hx rfl (hb hby at_508) kt_) ?_
        show own_Go p e below s _ _ _ (T32.setTop (mkF m 509 #[.val (.long q0), .second, .val (.int p1), .val (.int p2), .val (.int p3), .val (.int p4), .val (.int p5), .val (.long nn), .second, .val (.int sv), .val (.int dv), .val (.ref ln), .val (.int fl), .val (.int ev), .val (.int qv), .val (.int vv), .val (.int (w0 qq)), .val (.int z), .val (.int RR)] [(.int (-1 : Int32)), (.int RR)]))
        refine own_go (fun t_ kt_ => XS.icmpNo X32g.here hx rfl (hb hby at_509) rfl (teq (Int32.toInt_inj.mp (own_fN hR hz hc495))).2 kt_) ?_
        show own_Go p e below s _ _ _ (T32.setTop (mkF m 512 #[.val (.long q0), .second, .val (.int p1), .val (.int p2), .val (.int p3), .val (.int p4), .val (.int p5), .val (.long nn), .second, .val (.int sv), .val (.int dv), .val (.ref ln), .val (.int fl), .val (.int ev), .val (.int qv), .val (.int vv), .val (.int (w0 qq)), .val (.int z), .val (.int RR)] []))
        refine own_go (fun t_ kt_ => XS.iconst X32g.here hx rfl (hb hby at_512) kt_) ?_
        show own_Go p e below s _ _ _ (T32.setTop (mkF m 513 #[.val (.long q0), .second, .val (.int p1), .val (.int p2), .val (.int p3), .val (.int p4), .val (.int p5), .val (.long nn), .second, .val (.int sv), .val (.int dv), .val (.ref ln), .val (.int fl), .val (.int ev), .val (.int qv), .val (.int vv), .val (.int (w0 qq)), .val (.int z), .val (.int RR)] [(.int (1 : Int32))]))
        refine own_go (fun t_ kt_ => XS.goto X32g.here hx rfl (pc0 := 513) (pc' := 517) rfl (hb hby at_513) (by decide) (by decide) kt_) ?_
        show own_Go p e below s _ _ _ (T32.setTop (mkF m 517 #[.val (.long q0), .second, .val (.int p1), .val (.int p2), .val (.int p3), .val (.int p4), .val (.int p5), .val (.long nn), .second, .val (.int sv), .val (.int dv), .val (.ref ln), .val (.int fl), .val (.int ev), .val (.int qv), .val (.int vv), .val (.int (w0 qq)), .val (.int z), .val (.int RR)] [(.int (1 : Int32))]))
        refine own_ret X32g (v := some (.int (1 : Int32))) (fun h => by rw [hret] at h; cases h) hlk ?_ (by decide) (by decide) (fun fs hr => retN X32g hx (t := .boolean) hret (by simp) (hb hby at_517) hr)
        show Q0 Z q0 p1 p2 p3 p4 p5 h0 n0 (some (.int (1 : Int32))) T32.heap _
        rw [e32]
        exact ⟨rfl, N32g⟩
      · skip
        have hi495 : ¬ z.toInt = 0 := fun q => hc495 (Int32.toInt_inj.mp q)
        refine own_go (fun t_ kt_ => XS.ifNo X32g.here hx rfl (hb hby at_495) rfl ((if0 _ _).trans (feq hc495).1) kt_) ?_
        show own_Go p e below s _ _ _ (T32.setTop (mkF m 498 #[.val (.long q0), .second, .val (.int p1), .val (.int p2), .val (.int p3), .val (.int p4), .val (.int p5), .val (.long nn), .second, .val (.int sv), .val (.int dv), .val (.ref ln), .val (.int fl), .val (.int ev), .val (.int qv), .val (.int vv), .val (.int (w0 qq)), .val (.int z), .val (.int RR)] [(.int RR)]))
        refine own_go (fun t_ kt_ => XS.iload X32g.here hx rfl (hb hby at_498) rfl kt_) ?_
        show own_Go p e below s _ _ _ (T32.setTop (mkF m 500 #[.val (.long q0), .second, .val (.int p1), .val (.int p2), .val (.int p3), .val (.int p4), .val (.int p5), .val (.long nn), .second, .val (.int sv), .val (.int dv), .val (.ref ln), .val (.int fl), .val (.int ev), .val (.int qv), .val (.int vv), .val (.int (w0 qq)), .val (.int z), .val (.int RR)] [(.int sv), (.int RR)]))
        refine own_go (fun t_ kt_ => XS.iload X32g.here hx rfl (hb hby at_500) rfl kt_) ?_
        show own_Go p e below s _ _ _ (T32.setTop (mkF m 502 #[.val (.long q0), .second, .val (.int p1), .val (.int p2), .val (.int p3), .val (.int p4), .val (.int p5), .val (.long nn), .second, .val (.int sv), .val (.int dv), .val (.ref ln), .val (.int fl), .val (.int ev), .val (.int qv), .val (.int vv), .val (.int (w0 qq)), .val (.int z), .val (.int RR)] [(.int dv), (.int sv), (.int RR)]))
        refine own_go (fun t_ kt_ => XS.iadd X32g.here hx rfl (hb hby at_502) rfl kt_) ?_
        show own_Go p e below s _ _ _ (T32.setTop (mkF m 503 #[.val (.long q0), .second, .val (.int p1), .val (.int p2), .val (.int p3), .val (.int p4), .val (.int p5), .val (.long nn), .second, .val (.int sv), .val (.int dv), .val (.ref ln), .val (.int fl), .val (.int ev), .val (.int qv), .val (.int vv), .val (.int (w0 qq)), .val (.int z), .val (.int RR)] [(.int (sv + dv)), (.int RR)]))
        refine own_go (fun t_ kt_ => XS.iconst X32g.here hx rfl (hb hby at_503) kt_) ?_
        show own_Go p e below s _ _ _ (T32.setTop (mkF m 504 #[.val (.long q0), .second, .val (.int p1), .val (.int p2), .val (.int p3), .val (.int p4), .val (.int p5), .val (.long nn), .second, .val (.int sv), .val (.int dv), .val (.ref ln), .val (.int fl), .val (.int ev), .val (.int qv), .val (.int vv), .val (.int (w0 qq)), .val (.int z), .val (.int RR)] [(.int (1 : Int32)), (.int (sv + dv)), (.int RR)]))
        refine own_go (fun t_ kt_ => XS.iadd X32g.here hx rfl (hb hby at_504) rfl kt_) ?_
        show own_Go p e below s _ _ _ (T32.setTop (mkF m 505 #[.val (.long q0), .second, .val (.int p1), .val (.int p2), .val (.int p3), .val (.int p4), .val (.int p5), .val (.long nn), .second, .val (.int sv), .val (.int dv), .val (.ref ln), .val (.int fl), .val (.int ev), .val (.int qv), .val (.int vv), .val (.int (w0 qq)), .val (.int z), .val (.int RR)] [(.int ((sv + dv) + (1 : Int32))), (.int RR)]))
        refine own_go (fun t_ kt_ => XS.goto X32g.here hx rfl (pc0 := 505) (pc' := 509) rfl (hb hby at_505) (by decide) (by decide) kt_) ?_
        show own_Go p e below s _ _ _ (T32.setTop (mkF m 509 #[.val (.long q0), .second, .val (.int p1), .val (.int p2), .val (.int p3), .val (.int p4), .val (.int p5), .val (.long nn), .second, .val (.int sv), .val (.int dv), .val (.ref ln), .val (.int fl), .val (.int ev), .val (.int qv), .val (.int vv), .val (.int (w0 qq)), .val (.int z), .val (.int RR)] [(.int ((sv + dv) + (1 : Int32))), (.int RR)]))
        refine own_go (fun t_ kt_ => XS.icmpNo X32g.here hx rfl (hb hby at_509) rfl (teq (Int32.toInt_inj.mp ((own_fY hR hz hc495).trans (by rw [i2])))).2 kt_) ?_
        show own_Go p e below s _ _ _ (T32.setTop (mkF m 512 #[.val (.long q0), .second, .val (.int p1), .val (.int p2), .val (.int p3), .val (.int p4), .val (.int p5), .val (.long nn), .second, .val (.int sv), .val (.int dv), .val (.ref ln), .val (.int fl), .val (.int ev), .val (.int qv), .val (.int vv), .val (.int (w0 qq)), .val (.int z), .val (.int RR)] []))
        refine own_go (fun t_ kt_ => XS.iconst X32g.here hx rfl (hb hby at_512) kt_) ?_
        show own_Go p e below s _ _ _ (T32.setTop (mkF m 513 #[.val (.long q0), .second, .val (.int p1), .val (.int p2), .val (.int p3), .val (.int p4), .val (.int p5), .val (.long nn), .second, .val (.int sv), .val (.int dv), .val (.ref ln), .val (.int fl), .val (.int ev), .val (.int qv), .val (.int vv), .val (.int (w0 qq)), .val (.int z), .val (.int RR)] [(.int (1 : Int32))]))
        refine own_go (fun t_ kt_ => XS.goto X32g.here hx rfl (pc0 := 513) (pc' := 517) rfl (hb hby at_513) (by decide) (by decide) kt_) ?_
        show own_Go p e below s _ _ _ (T32.setTop (mkF m 517 #[.val (.long q0), .second, .val (.int p1), .val (.int p2), .val (.int p3), .val (.int p4), .val (.int p5), .val (.long nn), .second, .val (.int sv), .val (.int dv), .val (.ref ln), .val (.int fl), .val (.int ev), .val (.int qv), .val (.int vv), .val (.int (w0 qq)), .val (.int z), .val (.int RR)] [(.int (1 : Int32))]))
        refine own_ret X32g (v := some (.int (1 : Int32))) (fun h => by rw [hret] at h; cases h) hlk ?_ (by decide) (by decide) (fun fs hr => retN X32g hx (t := .boolean) hret (by simp) (hb hby at_517) hr)
        show Q0 Z q0 p1 p2 p3 p4 p5 h0 n0 (some (.int (1 : Int32))) T32.heap _
        rw [e32]
        exact ⟨rfl, N32g⟩
    have J475 : ∀ (T33 : State) (locs33 : List Loc) (X33 : Stand p l e room_1 s m #[(.long q0), (.int p1), (.int p2), (.int p3), (.int p4), (.int p5)] below meth c T33 locs33 1 26) (e33 : T33.heap = h30) (N33 : Fr n0 locs33) (hok : ¬ own_Ok (own_upd w0 qq vv) ss d N ev.toInt), own_Go p e below s (Q0 Z q0 p1 p2 p3 p4 p5 h0 n0) (room_1).cells (room_1).slots (T33.setTop (mkF m 475 #[.val (.long q0), .second, .val (.int p1), .val (.int p2), .val (.int p3), .val (.int p4), .val (.int p5), .val (.long nn), .second, .val (.int sv), .val (.int dv), .val (.ref ln), .val (.int fl), .val (.int ev), .val (.int qv), .val (.int vv), .val (.int (w0 qq)), .unset, .unset] [])) := by
      intro T33 locs33 X33 e33 N33 hok
      refine own_go (fun t_ kt_ => XS.iconst X33.here hx rfl (hb hby at_475) kt_) ?_
      show own_Go p e below s _ _ _ (T33.setTop (mkF m 476 #[.val (.long q0), .second, .val (.int p1), .val (.int p2), .val (.int p3), .val (.int p4), .val (.int p5), .val (.long nn), .second, .val (.int sv), .val (.int dv), .val (.ref ln), .val (.int fl), .val (.int ev), .val (.int qv), .val (.int vv), .val (.int (w0 qq)), .unset, .unset] [(.int (0 : Int32))]))
      exact J476 T33 _ X33 e33 N33 ((0 : Int32))  (by first | exact Or.inl ⟨rfl, hok⟩ | exact Or.inr ⟨rfl, hok⟩)
    have J471 : ∀ (T34 : State) (locs34 : List Loc) (X34 : Stand p l e room_1 s m #[(.long q0), (.int p1), (.int p2), (.int p3), (.int p4), (.int p5)] below meth c T34 locs34 1 26) (e34 : T34.heap = h30) (N34 : Fr n0 locs34) (hok : own_Ok (own_upd w0 qq vv) ss d N ev.toInt), own_Go p e below s (Q0 Z q0 p1 p2 p3 p4 p5 h0 n0) (room_1).cells (room_1).slots (T34.setTop (mkF m 471 #[.val (.long q0), .second, .val (.int p1), .val (.int p2), .val (.int p3), .val (.int p4), .val (.int p5), .val (.long nn), .second, .val (.int sv), .val (.int dv), .val (.ref ln), .val (.int fl), .val (.int ev), .val (.int qv), .val (.int vv), .val (.int (w0 qq)), .unset, .unset] [])) := by
      intro T34 locs34 X34 e34 N34 hok
      refine own_go (fun t_ kt_ => XS.iconst X34.here hx rfl (hb hby at_471) kt_) ?_
      show own_Go p e below s _ _ _ (T34.setTop (mkF m 472 #[.val (.long q0), .second, .val (.int p1), .val (.int p2), .val (.int p3), .val (.int p4), .val (.int p5), .val (.long nn), .second, .val (.int sv), .val (.int dv), .val (.ref ln), .val (.int fl), .val (.int ev), .val (.int qv), .val (.int vv), .val (.int (w0 qq)), .unset, .unset] [(.int (1 : Int32))]))
      refine own_go (fun t_ kt_ => XS.goto X34.here hx rfl (pc0 := 472) (pc' := 476) rfl (hb hby at_472) (by decide) (by decide) kt_) ?_
      show own_Go p e below s _ _ _ (T34.setTop (mkF m 476 #[.val (.long q0), .second, .val (.int p1), .val (.int p2), .val (.int p3), .val (.int p4), .val (.int p5), .val (.long nn), .second, .val (.int sv), .val (.int dv), .val (.ref ln), .val (.int fl), .val (.int ev), .val (.int qv), .val (.int vv), .val (.int (w0 qq)), .unset, .unset] [(.int (1 : Int32))]))
      exact J476 T34 _ X34 e34 N34 ((1 : Int32))  (by first | exact Or.inl ⟨rfl, hok⟩ | exact Or.inr ⟨rfl, hok⟩)
    refine own_go (fun t_ kt_ => XS.iload X30g.here hx rfl (hb hby at_437) rfl kt_) ?_
    show own_Go p e below s _ _ _ (T30.setTop (mkF m 439 #[.val (.long q0), .second, .val (.int p1), .val (.int p2), .val (.int p3), .val (.int p4), .val (.int p5), .val (.long nn), .second, .val (.int sv), .val (.int dv), .val (.ref ln), .val (.int fl), .val (.int ev), .val (.int qv), .val (.int vv), .val (.int (w0 qq)), .unset, .unset] [(.int sv)]))
    refine own_go (fun t_ kt_ => XS.iload X30g.here hx rfl (hb hby at_439) rfl kt_) ?_
    show own_Go p e below s _ _ _ (T30.setTop (mkF m 441 #[.val (.long q0), .second, .val (.int p1), .val (.int p2), .val (.int p3), .val (.int p4), .val (.int p5), .val (.long nn), .second, .val (.int sv), .val (.int dv), .val (.ref ln), .val (.int fl), .val (.int ev), .val (.int qv), .val (.int vv), .val (.int (w0 qq)), .unset, .unset] [(.int dv), (.int sv)]))
    refine own_go (fun t_ kt_ => XS.iadd X30g.here hx rfl (hb hby at_441) rfl kt_) ?_
    show own_Go p e below s _ _ _ (T30.setTop (mkF m 442 #[.val (.long q0), .second, .val (.int p1), .val (.int p2), .val (.int p3), .val (.int p4), .val (.int p5), .val (.long nn), .second, .val (.int sv), .val (.int dv), .val (.ref ln), .val (.int fl), .val (.int ev), .val (.int qv), .val (.int vv), .val (.int (w0 qq)), .unset, .unset] [(.int (sv + dv))]))
    refine own_go (fun t_ kt_ => XS.iload X30g.here hx rfl (hb hby at_442) rfl kt_) ?_
    show own_Go p e below s _ _ _ (T30.setTop (mkF m 444 #[.val (.long q0), .second, .val (.int p1), .val (.int p2), .val (.int p3), .val (.int p4), .val (.int p5), .val (.long nn), .second, .val (.int sv), .val (.int dv), .val (.ref ln), .val (.int fl), .val (.int ev), .val (.int qv), .val (.int vv), .val (.int (w0 qq)), .unset, .unset] [(.int ev), (.int (sv + dv))]))
    by_cases hc444 : (sv + dv) < ev
    · skip
      have hi444 : ((sv + dv)).toInt < ev.toInt := Int32.lt_iff_toInt_lt.mp hc444
      refine own_go (fun t_ kt_ => XS.icmpNo X30g.here hx rfl (hb hby at_444) rfl (tlt hc444).2.1 kt_) ?_
      show own_Go p e below s _ _ _ (T30.setTop (mkF m 447 #[.val (.long q0), .second, .val (.int p1), .val (.int p2), .val (.int p3), .val (.int p4), .val (.int p5), .val (.long nn), .second, .val (.int sv), .val (.int dv), .val (.ref ln), .val (.int fl), .val (.int ev), .val (.int qv), .val (.int vv), .val (.int (w0 qq)), .unset, .unset] []))
      refine own_go (fun t_ kt_ => XS.iload X30g.here hx rfl (hb hby at_447) rfl kt_) ?_
      show own_Go p e below s _ _ _ (T30.setTop (mkF m 449 #[.val (.long q0), .second, .val (.int p1), .val (.int p2), .val (.int p3), .val (.int p4), .val (.int p5), .val (.long nn), .second, .val (.int sv), .val (.int dv), .val (.ref ln), .val (.int fl), .val (.int ev), .val (.int qv), .val (.int vv), .val (.int (w0 qq)), .unset, .unset] [(.int qv)]))
      refine own_go (fun t_ kt_ => XS.iload X30g.here hx rfl (hb hby at_449) rfl kt_) ?_
      show own_Go p e below s _ _ _ (T30.setTop (mkF m 451 #[.val (.long q0), .second, .val (.int p1), .val (.int p2), .val (.int p3), .val (.int p4), .val (.int p5), .val (.long nn), .second, .val (.int sv), .val (.int dv), .val (.ref ln), .val (.int fl), .val (.int ev), .val (.int qv), .val (.int vv), .val (.int (w0 qq)), .unset, .unset] [(.int sv), (.int qv)]))
      by_cases hc451 : qv < sv
      · skip
        have hi451 : qv.toInt < sv.toInt := Int32.lt_iff_toInt_lt.mp hc451
        refine own_go (fun t_ kt_ => XS.icmpYes X30g.here hx rfl (pc0 := 451) (pc' := 471) rfl (hb hby at_451) rfl (tlt hc451).1 (by decide) (by decide) kt_) ?_
        show own_Go p e below s _ _ _ (T30.setTop (mkF m 471 #[.val (.long q0), .second, .val (.int p1), .val (.int p2), .val (.int p3), .val (.int p4), .val (.int p5), .val (.long nn), .second, .val (.int sv), .val (.int dv), .val (.ref ln), .val (.int fl), .val (.int ev), .val (.int qv), .val (.int vv), .val (.int (w0 qq)), .unset, .unset] []))
        exact J471 T30 _ X30g e30 N30g   (own_okY (by omega) w44 wd (by first | exact Or.inr (Or.inr hc468) | exact Or.inl (by omega) | exact Or.inr (Or.inl (by omega))))
      · skip
        have hi451 : ¬ qv.toInt < sv.toInt := fun q => hc451 (Int32.lt_iff_toInt_lt.mpr q)
        refine own_go (fun t_ kt_ => XS.icmpNo X30g.here hx rfl (hb hby at_451) rfl (flt hc451).1 kt_) ?_
        show own_Go p e below s _ _ _ (T30.setTop (mkF m 454 #[.val (.long q0), .second, .val (.int p1), .val (.int p2), .val (.int p3), .val (.int p4), .val (.int p5), .val (.long nn), .second, .val (.int sv), .val (.int dv), .val (.ref ln), .val (.int fl), .val (.int ev), .val (.int qv), .val (.int vv), .val (.int (w0 qq)), .unset, .unset] []))
        refine own_go (fun t_ kt_ => XS.iload X30g.here hx rfl (hb hby at_454) rfl kt_) ?_
        show own_Go p e below s _ _ _ (T30.setTop (mkF m 456 #[.val (.long q0), .second, .val (.int p1), .val (.int p2), .val (.int p3), .val (.int p4), .val (.int p5), .val (.long nn), .second, .val (.int sv), .val (.int dv), .val (.ref ln), .val (.int fl), .val (.int ev), .val (.int qv), .val (.int vv), .val (.int (w0 qq)), .unset, .unset] [(.int qv)]))
        refine own_go (fun t_ kt_ => XS.iload X30g.here hx rfl (hb hby at_456) rfl kt_) ?_
        show own_Go p e below s _ _ _ (T30.setTop (mkF m 458 #[.val (.long q0), .second, .val (.int p1), .val (.int p2), .val (.int p3), .val (.int p4), .val (.int p5), .val (.long nn), .second, .val (.int sv), .val (.int dv), .val (.ref ln), .val (.int fl), .val (.int ev), .val (.int qv), .val (.int vv), .val (.int (w0 qq)), .unset, .unset] [(.int sv), (.int qv)]))
        refine own_go (fun t_ kt_ => XS.iload X30g.here hx rfl (hb hby at_458) rfl kt_) ?_
        show own_Go p e below s _ _ _ (T30.setTop (mkF m 460 #[.val (.long q0), .second, .val (.int p1), .val (.int p2), .val (.int p3), .val (.int p4), .val (.int p5), .val (.long nn), .second, .val (.int sv), .val (.int dv), .val (.ref ln), .val (.int fl), .val (.int ev), .val (.int qv), .val (.int vv), .val (.int (w0 qq)), .unset, .unset] [(.int dv), (.int sv), (.int qv)]))
        refine own_go (fun t_ kt_ => XS.iadd X30g.here hx rfl (hb hby at_460) rfl kt_) ?_
        show own_Go p e below s _ _ _ (T30.setTop (mkF m 461 #[.val (.long q0), .second, .val (.int p1), .val (.int p2), .val (.int p3), .val (.int p4), .val (.int p5), .val (.long nn), .second, .val (.int sv), .val (.int dv), .val (.ref ln), .val (.int fl), .val (.int ev), .val (.int qv), .val (.int vv), .val (.int (w0 qq)), .unset, .unset] [(.int (sv + dv)), (.int qv)]))
        by_cases hc461 : (sv + dv) < qv
        · skip
          have hi461 : ((sv + dv)).toInt < qv.toInt := Int32.lt_iff_toInt_lt.mp hc461
          refine own_go (fun t_ kt_ => XS.icmpYes X30g.here hx rfl (pc0 := 461) (pc' := 471) rfl (hb hby at_461) rfl (tlt hc461).2.2.1 (by decide) (by decide) kt_) ?_
          show own_Go p e below s _ _ _ (T30.setTop (mkF m 471 #[.val (.long q0), .second, .val (.int p1), .val (.int p2), .val (.int p3), .val (.int p4), .val (.int p5), .val (.long nn), .second, .val (.int sv), .val (.int dv), .val (.ref ln), .val (.int fl), .val (.int ev), .val (.int qv), .val (.int vv), .val (.int (w0 qq)), .unset, .unset] []))
          exact J471 T30 _ X30g e30 N30g   (own_okY (by omega) w44 wd (by first | exact Or.inr (Or.inr hc468) | exact Or.inl (by omega) | exact Or.inr (Or.inl (by omega))))
        · skip
          have hi461 : ¬ ((sv + dv)).toInt < qv.toInt := fun q => hc461 (Int32.lt_iff_toInt_lt.mpr q)
          refine own_go (fun t_ kt_ => XS.icmpNo X30g.here hx rfl (hb hby at_461) rfl (flt hc461).2.2.1 kt_) ?_
          show own_Go p e below s _ _ _ (T30.setTop (mkF m 464 #[.val (.long q0), .second, .val (.int p1), .val (.int p2), .val (.int p3), .val (.int p4), .val (.int p5), .val (.long nn), .second, .val (.int sv), .val (.int dv), .val (.ref ln), .val (.int fl), .val (.int ev), .val (.int qv), .val (.int vv), .val (.int (w0 qq)), .unset, .unset] []))
          refine own_go (fun t_ kt_ => XS.iload X30g.here hx rfl (hb hby at_464) rfl kt_) ?_
          show own_Go p e below s _ _ _ (T30.setTop (mkF m 466 #[.val (.long q0), .second, .val (.int p1), .val (.int p2), .val (.int p3), .val (.int p4), .val (.int p5), .val (.long nn), .second, .val (.int sv), .val (.int dv), .val (.ref ln), .val (.int fl), .val (.int ev), .val (.int qv), .val (.int vv), .val (.int (w0 qq)), .unset, .unset] [(.int vv)]))
          refine own_go (fun t_ kt_ => XS.iload X30g.here hx rfl (hb hby at_466) rfl kt_) ?_
          show own_Go p e below s _ _ _ (T30.setTop (mkF m 468 #[.val (.long q0), .second, .val (.int p1), .val (.int p2), .val (.int p3), .val (.int p4), .val (.int p5), .val (.long nn), .second, .val (.int sv), .val (.int dv), .val (.ref ln), .val (.int fl), .val (.int ev), .val (.int qv), .val (.int vv), .val (.int (w0 qq)), .unset, .unset] [(.int (w0 qq)), (.int vv)]))
          by_cases hc468 : vv = (w0 qq)
          · skip
            have hi468 : vv.toInt = ((w0 qq)).toInt := congrArg Int32.toInt hc468
            refine own_go (fun t_ kt_ => XS.icmpNo X30g.here hx rfl (hb hby at_468) rfl (teq hc468).2 kt_) ?_
            show own_Go p e below s _ _ _ (T30.setTop (mkF m 471 #[.val (.long q0), .second, .val (.int p1), .val (.int p2), .val (.int p3), .val (.int p4), .val (.int p5), .val (.long nn), .second, .val (.int sv), .val (.int dv), .val (.ref ln), .val (.int fl), .val (.int ev), .val (.int qv), .val (.int vv), .val (.int (w0 qq)), .unset, .unset] []))
            exact J471 T30 _ X30g e30 N30g   (own_okY (by omega) w44 wd (by first | exact Or.inr (Or.inr hc468) | exact Or.inl (by omega) | exact Or.inr (Or.inl (by omega))))
          · skip
            have hi468 : ¬ vv.toInt = ((w0 qq)).toInt := fun q => hc468 (Int32.toInt_inj.mp q)
            refine own_go (fun t_ kt_ => XS.icmpYes X30g.here hx rfl (pc0 := 468) (pc' := 475) rfl (hb hby at_468) rfl (feq hc468).2 (by decide) (by decide) kt_) ?_
            show own_Go p e below s _ _ _ (T30.setTop (mkF m 475 #[.val (.long q0), .second, .val (.int p1), .val (.int p2), .val (.int p3), .val (.int p4), .val (.int p5), .val (.long nn), .second, .val (.int sv), .val (.int dv), .val (.ref ln), .val (.int fl), .val (.int ev), .val (.int qv), .val (.int vv), .val (.int (w0 qq)), .unset, .unset] []))
            exact J475 T30 _ X30g e30 N30g   (own_okN w44 wd (by first | exact Or.inl (by omega) | exact Or.inr ⟨by omega, by omega, hc468⟩))
    · skip
      have hi444 : ¬ ((sv + dv)).toInt < ev.toInt := fun q => hc444 (Int32.lt_iff_toInt_lt.mpr q)
      refine own_go (fun t_ kt_ => XS.icmpYes X30g.here hx rfl (pc0 := 444) (pc' := 475) rfl (hb hby at_444) rfl (flt hc444).2.1 (by decide) (by decide) kt_) ?_
      show own_Go p e below s _ _ _ (T30.setTop (mkF m 475 #[.val (.long q0), .second, .val (.int p1), .val (.int p2), .val (.int p3), .val (.int p4), .val (.int p5), .val (.long nn), .second, .val (.int sv), .val (.int dv), .val (.ref ln), .val (.int fl), .val (.int ev), .val (.int qv), .val (.int vv), .val (.int (w0 qq)), .unset, .unset] []))
      exact J475 T30 _ X30g e30 N30g   (own_okN w44 wd (by first | exact Or.inl (by omega) | exact Or.inr ⟨by omega, by omega, hc468⟩))
  by_cases hc11 : (q0 &&& (9223372036854775807 : Int64)) = (0 : Int64)
  · skip
    have hi11 : ((q0 &&& (9223372036854775807 : Int64))).toInt = 0 := congrArg Int64.toInt hc11
    refine own_go (fun t_ kt_ => XS.ifNo X0.here hx rfl (hb hby at_11) rfl ((if0 _ _).trans (teq ((lw_eq (q0 &&& (9223372036854775807 : Int64)) (0 : Int64)).mpr hc11)).2) kt_) ?_
    show own_Go p e below s _ _ _ (s₁.setTop (mkF m 14 #[.val (.long q0), .second, .val (.int p1), .val (.int p2), .val (.int p3), .val (.int p4), .val (.int p5), .val (.long (q0 &&& (9223372036854775807 : Int64))), .second, .unset, .unset, .unset, .unset, .unset, .unset, .unset, .unset, .unset, .unset] []))
    refine own_go (fun t_ kt_ => XS.lconst X0.here hx rfl (hb hby at_14) kt_) ?_
    show own_Go p e below s _ _ _ (s₁.setTop (mkF m 15 #[.val (.long q0), .second, .val (.int p1), .val (.int p2), .val (.int p3), .val (.int p4), .val (.int p5), .val (.long (q0 &&& (9223372036854775807 : Int64))), .second, .unset, .unset, .unset, .unset, .unset, .unset, .unset, .unset, .unset, .unset] [(.long (1 : Int64))]))
    refine own_go (fun t_ kt_ => XS.lstore X0.here hx rfl (hb hby at_15) rfl (l' := #[.val (.long q0), .second, .val (.int p1), .val (.int p2), .val (.int p3), .val (.int p4), .val (.int p5), .val (.long (1 : Int64)), .second, .unset, .unset, .unset, .unset, .unset, .unset, .unset, .unset, .unset, .unset]) rfl kt_) ?_
    show own_Go p e below s _ _ _ (s₁.setTop (mkF m 17 #[.val (.long q0), .second, .val (.int p1), .val (.int p2), .val (.int p3), .val (.int p4), .val (.int p5), .val (.long (1 : Int64)), .second, .unset, .unset, .unset, .unset, .unset, .unset, .unset, .unset, .unset, .unset] []))
    exact J17 s₁ _ X0 e0 N0 ((1 : Int64))  (own_one)
  · skip
    have hi11 : ¬ ((q0 &&& (9223372036854775807 : Int64))).toInt = 0 := fun q => hc11 (Int64.toInt_inj.mp q)
    refine own_go (fun t_ kt_ => XS.ifYes X0.here hx rfl (pc0 := 11) (pc' := 17) rfl (hb hby at_11) rfl ((if0 _ _).trans (feq (fun q => hc11 ((lw_eq (q0 &&& (9223372036854775807 : Int64)) (0 : Int64)).mp q))).2) (by decide) (by decide) kt_) ?_
    show own_Go p e below s _ _ _ (s₁.setTop (mkF m 17 #[.val (.long q0), .second, .val (.int p1), .val (.int p2), .val (.int p3), .val (.int p4), .val (.int p5), .val (.long (q0 &&& (9223372036854775807 : Int64))), .second, .unset, .unset, .unset, .unset, .unset, .unset, .unset, .unset, .unset, .unset] []))
    exact J17 s₁ _ X0 e0 N0 ((q0 &&& (9223372036854775807 : Int64)))  (own_pos hi11)
set_option maxRecDepth 65536 in
set_option maxHeartbeats 40000000 in
theorem comes_1 {Post : Tables → Env → Array Value → State → Outcome → State → Prop} (hpost : ∀ tb e args s v u, (limb_1_1.after args s (.returned v) u = true ∧ limb_1_2.after args s (.returned v) u = true ∧ True) → FrameEnd s (.returned v) u (Jvm.fieldLocs frame_1_writes args s ++ Jvm.arrayLocs frame_1_arrays args s ++ Jvm.staticLocs frame_1_statics s) 16 128 → Post tb e args s (.returned v) u) :
    ArmFor flags0 classFile x code maxLocals ret World_1 tables_1 room_1 Calls_1 rest_1 Pre_1 Post := by
  intro l hfl _ _ p e ha hc hk s m args below hf hA hF happ hP
  obtain ⟨hcalls, hrest, hpre⟩ := hP
  obtain ⟨-, -, -, hnamed, -, -, -, hat⟩ := (Spec.applies_iff hf).mp happ
  obtain ⟨hg, hn⟩ := and_e (Cond.before_iff.mp (show (Jvm.Cond.and given_1 narrow_1).before args s = true from hpre))
  obtain ⟨g1, g2⟩ := and_e hg
  obtain ⟨g3, g4⟩ := and_e g2
  obtain ⟨g5, g6⟩ := and_e g4
  obtain ⟨g7, g8⟩ := and_e g6
  obtain ⟨g9, g10⟩ := and_e g8
  obtain ⟨g11, g12⟩ := and_e g10
  obtain ⟨w0, w1, w2, w3, w4, w5, rfl⟩ : ∃ w0 w1 w2 w3 w4 w5 : Value, args = #[w0, w1, w2, w3, w4, w5] := by
    have hs : args.size = 6 := by simpa [Cond.value, given_1] using g1
    obtain ⟨L⟩ := args
    match L, hs with
    | [w0, w1, w2, w3, w4, w5], _ => exact ⟨w0, w1, w2, w3, w4, w5, rfl⟩
  have hw := fun d (hd : d ∈ tables_1) => atoms_spec (ws := Jvm.Cond.code x code maxLocals ret :: tables_1) hat d (List.mem_cons_of_mem _ hd)
  have hfit : Fit s := fun {y c} hc i hi => by
    obtain ⟨ha, rfl⟩ := Array.getElem?_eq_some_iff.mp hc
    have q := List.all_eq_true.mp ((Array.all_eq_true_iff_forall_mem.mp hF) _ (Array.getElem_mem ha)) i (List.mem_range.mpr hi)
    simpa [Array.getElem?_eq_getElem hi] using q
  obtain ⟨i0, ei0⟩ := isL_v g3
  obtain rfl : w0 = (.long i0) := Option.some.inj ei0
  obtain ⟨i1, ei1⟩ := is_v g5
  obtain rfl : w1 = (.int i1) := Option.some.inj ei1
  obtain ⟨i2, ei2⟩ := is_v g7
  obtain rfl : w2 = (.int i2) := Option.some.inj ei2
  obtain ⟨i3, ei3⟩ := is_v g9
  obtain rfl : w3 = (.int i3) := Option.some.inj ei3
  obtain ⟨i4, ei4⟩ := is_v g11
  obtain rfl : w4 = (.int i4) := Option.some.inj ei4
  obtain ⟨i5, ei5⟩ := is_v g12
  obtain rfl : w5 = (.int i5) := Option.some.inj ei5
  obtain ⟨n, o, h1, h2, h3, _, L, rfl, ⟨rfl, N⟩, hq⟩ := rm0 l s _ hw tables_1 i0 i1 i2 i3 i4 i5  s.heap s.heap.size (Nat.le_refl _)  p e ha hc hk s m _ below hf ((Spec.applies_iff_loose hf).mp happ).1 ⟨rfl, State.Warmed39.refl s, rfl⟩ trivial
  refine ⟨n, _, h1, h2, h3, hpost _ _ _ _ _ _ ⟨Cond.after_iff.mpr rfl, Cond.after_iff.mpr (eq_i res_at (Term.int_eval (1)) rfl), trivial⟩ ⟨hq.1, hq.2.1, (hq.2.2.sift fun y hy => Or.inr (N y hy)).mono (by decide) (by decide)⟩⟩
theorem main_1_1 : Claimed_1_1 := comes_1 fun _ _ _ _ _ _ h hF => ⟨h.1, hF⟩
theorem main_1_2 : Claimed_1_2 := comes_1 fun _ _ _ _ _ _ h hF => ⟨h.2.1, hF⟩
end Jvm.Pilot.@@N@@
namespace Jvm.Pilot.@@N@@
open Jvm Jvm.ClassFile Sem Op Lib Jvm.Free Jvm.Stand Jvm.Pilot.@@N@@.Jvm.D
/-! MADE BY PROGRAM (witnessworld.py) out of the Statement's table words and the real class files: 9 classes; the members and pool entries that the words name. The judged class is class 1, her method 1. -/
namespace start1
open Jvm.ClassFile
def u (s : String) : CpInfo := .utf8 (stringToUtf16 s)
/-- a pool by its gaps: so many unusable entries, then the entry; so many at the end -/
def gap : Nat → List CpInfo → List CpInfo
  | 0, r => r
  | n + 1, r => .unusable :: gap n r
def poolList (es : List (Nat × CpInfo)) (last : Nat) : List CpInfo := es.foldr (fun e r => gap e.1 (e.2 :: r)) (gap last [])
def pool (es : List (Nat × CpInfo)) (last : Nat) : Array CpInfo := ⟨poolList es last⟩
def fileOf (pool : Array CpInfo) (this : Nat) (attrs : Array Attribute := #[]) (ms : Array MethodInfo := #[]) (fl : Nat := 33) (sup : Nat := 0) (ifs : Array Nat := #[]) (fds : Array FieldInfo := #[]) : ClassFile where
  minorVersion := 0
  majorVersion := 65
  constantPool := pool
  accessFlags := fl
  thisClass := this
  superClass := sup
  interfaces := ifs
  fields := fds
  methods := ms
  attributes := attrs
def plain (name : String) (sup : Option ClassId) : Class where
  name := name
  kind := .ordinary
  loader := none
  accessFlags := 33
  super := sup
  interfaces := #[]
  cf := none
  fields := #[]
  methods := #[]
  instanceTypes := #[]
  staticTypes := #[]
  resolved := #[]
  callSites := []
  init := .initialized
  statics := none
  mirror := none

def pool0 : Array CpInfo := pool [(5, u "<init>"), (0, u "()V"), (1, .class_ 10), (1, u "java/lang/Object")] 113

def k0m0 : Method := { name := "<init>", desc := "()V", sig := { parameters := [], returnType := none }, accessFlags := 1, code := none }
/-- java/lang/Object -/
def k0 : Class := { plain "java/lang/Object" none with
  accessFlags := 33
  interfaces := #[]
  cf := some (fileOf pool0 8 #[] #[{ accessFlags := 1, nameIndex := 5, descriptorIndex := 6, attributes := #[] }] 33 0 #[] #[])
  fields := #[]
  methods := #[k0m0]
  instanceTypes := #[]
  staticTypes := #[]
  resolved := Array.replicate 124 none
  statics := none }

def pool1 : Array CpInfo := pool [(2, .class_ 4), (1, u "java/lang/Object"), (0, u "<init>"), (0, u "()V"), (2, .long 9223372036854775807), (1, .methodref 12 13), (0, .class_ 14), (0, .nameAndType 15 16), (0, u "com/example/ledgerstrike/ledgerstrike/journal/JournalFormatAfterNumberPinLaw"), (0, u "digits"), (0, u "(J)I"), (0, .methodref 12 18), (0, .nameAndType 19 20), (0, u "digit"), (0, u "([BIIJIJ)V"), (0, .long 10), (1, .long 100), (1, .long 1000), (1, .long 10000), (1, .long 100000), (1, .long 1000000), (1, .long 10000000), (1, .long 100000000), (1, .long 1000000000), (1, .long 10000000000), (1, .long 100000000000), (1, .long 1000000000000), (1, .long 10000000000000), (1, .long 100000000000000), (1, .long 1000000000000000), (1, .long 10000000000000000), (1, .long 100000000000000000), (1, .long 1000000000000000000), (1, .methodref 58 59), (0, .class_ 60), (0, .nameAndType 61 62), (0, u "com/example/ledgerstrike/ledgerstrike/journal/JournalFormat"), (0, u "afterNumber"), (0, u "([BIIJ)I"), (0, .long 48), (3, u "law"), (0, u "(JIIIII)Z")] 5

def k1m0 : Method := { name := "<init>", desc := "()V", sig := { parameters := [], returnType := none }, accessFlags := 1, code := none }
def k1c1 : Code := { maxStack := 8, maxLocals := 19, code := code, exceptionTable := #[], attributes := #[] }
def k1m1 : Method := { name := "law", desc := "(JIIIII)Z", sig := { parameters := [.long, .int, .int, .int, .int, .int], returnType := some .boolean }, accessFlags := 9, code := some k1c1 }
def k1c2 : Code := { maxStack := 5, maxLocals := 2, code := method_3_code, exceptionTable := #[], attributes := #[] }
def k1m2 : Method := { name := "digits", desc := "(J)I", sig := { parameters := [.long], returnType := some .int }, accessFlags := 10, code := some k1c2 }
def k1c3 : Code := { maxStack := 8, maxLocals := 8, code := method_4_code, exceptionTable := #[], attributes := #[] }
def k1m3 : Method := { name := "digit", desc := "([BIIJIJ)V", sig := { parameters := [(.array .byte), .int, .int, .long, .int, .long], returnType := none }, accessFlags := 10, code := some k1c3 }
/-- com/example/ledgerstrike/ledgerstrike/journal/JournalFormatAfterNumberPinLaw -/
def k1 : Class := { plain "com/example/ledgerstrike/ledgerstrike/journal/JournalFormatAfterNumberPinLaw" (some 0) with
  accessFlags := 49
  interfaces := #[]
  cf := some (fileOf pool1 12 #[] #[{ accessFlags := 1, nameIndex := 5, descriptorIndex := 6, attributes := #[] }, { accessFlags := 9, nameIndex := 67, descriptorIndex := 68, attributes := #[] }, { accessFlags := 10, nameIndex := 15, descriptorIndex := 16, attributes := #[] }, { accessFlags := 10, nameIndex := 19, descriptorIndex := 20, attributes := #[] }] 49 2 #[] #[])
  fields := #[]
  methods := #[k1m0, k1m1, k1m2, k1m3]
  instanceTypes := #[]
  staticTypes := #[]
  resolved := Array.replicate 74 none
  statics := none }

def pool2 : Array CpInfo := pool [(2, .class_ 4), (1, u "java/lang/Object"), (3, .class_ 10), (1, u "com/example/ledgerstrike/ledgerstrike/journal/JournalFormat"), (0, u "fileName"), (0, u "Ljava/lang/String;"), (2, u "kind"), (2, u "version"), (59, u "afterNumber"), (0, u "([BIIJ)I"), (14, .long 10), (1, .long 48), (6, u "HEX_VALUES"), (0, u "[B"), (38, u "REQUESTS"), (0, u "Lcom/example/ledgerstrike/ledgerstrike/journal/JournalFormat;"), (8, u "RESULTS"), (6, u "ORDERS"), (3, u "LOCK_FILE_NAME"), (3, u "CHECKSUM_MISMATCH"), (0, u "PROGRAM"), (2, u "CHECKSUM_DIGITS"), (0, u "I")] 37

def k2c0 : Code := { maxStack := 8, maxLocals := 10, code := prog_24_method_9_code, exceptionTable := #[], attributes := #[] }
def k2m0 : Method := { name := "afterNumber", desc := "([BIIJ)I", sig := { parameters := [(.array .byte), .int, .int, .long], returnType := some .int }, accessFlags := 8, code := some k2c0 }
/-- com/example/ledgerstrike/ledgerstrike/journal/JournalFormat -/
def k2 : Class := { plain "com/example/ledgerstrike/ledgerstrike/journal/JournalFormat" (some 0) with
  accessFlags := 48
  interfaces := #[]
  cf := some (fileOf pool2 8 #[] #[{ accessFlags := 8, nameIndex := 78, descriptorIndex := 79, attributes := #[] }] 48 2 #[] #[{ accessFlags := 24, nameIndex := 164, descriptorIndex := 12, attributes := #[] }, { accessFlags := 24, nameIndex := 143, descriptorIndex := 144, attributes := #[] }, { accessFlags := 24, nameIndex := 153, descriptorIndex := 144, attributes := #[] }, { accessFlags := 24, nameIndex := 160, descriptorIndex := 144, attributes := #[] }, { accessFlags := 24, nameIndex := 168, descriptorIndex := 12, attributes := #[] }, { accessFlags := 26, nameIndex := 169, descriptorIndex := 12, attributes := #[] }, { accessFlags := 26, nameIndex := 172, descriptorIndex := 173, attributes := #[] }, { accessFlags := 26, nameIndex := 103, descriptorIndex := 104, attributes := #[] }, { accessFlags := 18, nameIndex := 11, descriptorIndex := 12, attributes := #[] }, { accessFlags := 18, nameIndex := 15, descriptorIndex := 12, attributes := #[] }, { accessFlags := 18, nameIndex := 18, descriptorIndex := 12, attributes := #[] }])
  fields := #[{ name := "LOCK_FILE_NAME", type := (.object "java/lang/String"), accessFlags := 24, slot := 0, constantValue := 0 }, { name := "REQUESTS", type := (.object "com/example/ledgerstrike/ledgerstrike/journal/JournalFormat"), accessFlags := 24, slot := 1, constantValue := 0 }, { name := "RESULTS", type := (.object "com/example/ledgerstrike/ledgerstrike/journal/JournalFormat"), accessFlags := 24, slot := 2, constantValue := 0 }, { name := "ORDERS", type := (.object "com/example/ledgerstrike/ledgerstrike/journal/JournalFormat"), accessFlags := 24, slot := 3, constantValue := 0 }, { name := "CHECKSUM_MISMATCH", type := (.object "java/lang/String"), accessFlags := 24, slot := 4, constantValue := 0 }, { name := "PROGRAM", type := (.object "java/lang/String"), accessFlags := 26, slot := 5, constantValue := 0 }, { name := "CHECKSUM_DIGITS", type := .int, accessFlags := 26, slot := 6, constantValue := 0 }, { name := "HEX_VALUES", type := (.array .byte), accessFlags := 26, slot := 7, constantValue := 0 }, { name := "fileName", type := (.object "java/lang/String"), accessFlags := 18, slot := 0, constantValue := 0 }, { name := "kind", type := (.object "java/lang/String"), accessFlags := 18, slot := 1, constantValue := 0 }, { name := "version", type := (.object "java/lang/String"), accessFlags := 18, slot := 2, constantValue := 0 }]
  methods := #[k2m0]
  instanceTypes := #[(.object "java/lang/String"), (.object "java/lang/String"), (.object "java/lang/String")]
  staticTypes := #[(.object "java/lang/String"), (.object "com/example/ledgerstrike/ledgerstrike/journal/JournalFormat"), (.object "com/example/ledgerstrike/ledgerstrike/journal/JournalFormat"), (.object "com/example/ledgerstrike/ledgerstrike/journal/JournalFormat"), (.object "java/lang/String"), (.object "java/lang/String"), .int, (.array .byte)]
  resolved := Array.replicate 211 none
  statics := none }

def pool3 : Array CpInfo := pool [(1, u "java/lang/Cloneable"), (0, .class_ 1), (0, u "java/lang/Object"), (0, .class_ 3)] 3

/-- java/lang/Cloneable -/
def k3 : Class := { plain "java/lang/Cloneable" (some 0) with
  accessFlags := 1537
  interfaces := #[]
  cf := some (fileOf pool3 2 #[] #[] 1537 4 #[] #[])
  fields := #[]
  methods := #[]
  instanceTypes := #[]
  staticTypes := #[]
  resolved := Array.replicate 8 none
  statics := none }

def pool4 : Array CpInfo := pool [(1, u "java/io/Serializable"), (0, .class_ 1), (0, u "java/lang/Object"), (0, .class_ 3)] 3

/-- java/io/Serializable -/
def k4 : Class := { plain "java/io/Serializable" (some 0) with
  accessFlags := 1537
  interfaces := #[]
  cf := some (fileOf pool4 2 #[] #[] 1537 4 #[] #[])
  fields := #[]
  methods := #[]
  instanceTypes := #[]
  staticTypes := #[]
  resolved := Array.replicate 8 none
  statics := none }

/-- the primitive byte -/
def k5 : Class := { plain "byte" none with kind := .primitive 'B', accessFlags := 0x411 }
/-- [B -/
def k6 : Class := { plain "[B" (some 0) with kind := .array 5 .byte, interfaces := #[3, 4], accessFlags := 1041 }

/-- the primitive int -/
def k7 : Class := { plain "int" none with kind := .primitive 'I', accessFlags := 0x411 }
/-- [I -/
def k8 : Class := { plain "[I" (some 0) with kind := .array 7 .int, interfaces := #[3, 4], accessFlags := 1041 }

def heap : Heap := #[]
def classes : Array Class := #[k0, k1, k2, k3, k4, k5, k6, k7, k8]
def interned : List (Array UInt16 × Addr) := []
def slotsUsed : Nat := 0
def theMethod : MethodId := ⟨1, 1⟩
def args0 : Array Value := #[.long 57, .int 3, .int 2, .int 1, .int 7, .int 4]
def aboutOver (below : List Frame) : State where
  vm := { classes := classes, interned := interned.toArray }
  heap := heap
  slotsUsed := slotsUsed
  threads := #[{ frames := .invoking theMethod args0 :: below }]
def below0 : List Frame := [.native { method := ⟨0, 0⟩, args := #[] }]
def about1 : State := aboutOver below0
def p0 : Program := .bare "" "" ""
def e0 : Env := launch0.env 0 0 0
theorem w_frames : about1.frames = Frame.invoking theMethod args0 :: below0 := rfl
set_option maxRecDepth 65536 in
theorem w_args : argsFit about1.vm theMethod args0 = true := by decide +kernel
set_option maxRecDepth 65536 in
theorem w_heap : heapFits about1 = true := by decide +kernel
set_option maxRecDepth 65536 in
theorem w_runnable : about1.curStatus? = some .runnable := by decide +kernel
set_option maxRecDepth 65536 in
theorem w_alone : about1.alone = true := by decide +kernel
set_option maxRecDepth 65536 in
theorem w_named : about1.methodNamed? x = some theMethod := by decide +kernel
set_option maxRecDepth 65536 in
theorem w_hears : about1.hears theMethod below0 = true := by decide +kernel
set_option maxRecDepth 65536 in
theorem w_ripe : about1.ripe theMethod args0 below0 = true := by decide +kernel
theorem w_running : about1.status = .running := rfl
set_option maxRecDepth 65536 in
theorem w_room : about1.hasRoom e0.platform room_1 = true :=
  launch0.hasRoom_least _ room_1 (by decide +kernel) (by decide +kernel) (by decide +kernel) (by decide +kernel) (by decide +kernel) (by decide +kernel)
theorem allAtoms_all (ts : List Jvm.Cond) (a : Array Jvm.Value) (st : Jvm.State) : (allAtoms ts).before a st = ts.all (fun c => c.before a st) := by
  induction ts with
  | nil => rfl
  | cons c t ih =>
    show (Jvm.Cond.and c (allAtoms t)).before a st = _
    rw [Jvm.Cond.before_and, ih, List.all_cons]
def words1 : List Jvm.Cond := Jvm.Cond.code x code maxLocals ret :: tables_1
/-- a 'code' word, met by the world's own term for the bytes: nothing is compared byte by byte -/
theorem code_word {y : MethodName} {bytes : ByteArray} {mx : Nat} {rt : Option FieldType} {a : Array Value} {s : State} {m : MethodId} {meth : Method} {c : Code} (h1 : s.methodNamed? y = some m) (h2 : s.vm.method? m = some meth) (h3 : meth.code = some c) (h4 : c.code = bytes)
    (h5 : (c.maxLocals == mx && c.exceptionTable.isEmpty && decide (c.maxStack ≤ mostOperands) && decide (meth.sig.returnType = rt) && !meth.locks && decide (parseMethodDescriptor y.desc = some meth.sig)) = true) : (Jvm.Cond.code y bytes mx rt).before a s = true := by
  simp only [Bool.and_eq_true, beq_iff_eq, Bool.not_eq_true', decide_eq_true_eq] at h5
  obtain ⟨⟨⟨⟨⟨g1, g2⟩, g3⟩, g4⟩, g5⟩, g6⟩ := h5
  simp [Cond.before, Cond.holds, Cond.value, h1, h2, h3, h4, g1, g2, g3, g4, g5, g6]
def isCode : Jvm.Cond → Bool
  | .code _ _ _ _ => true
  | _ => false
theorem all_split {L : List Jvm.Cond} {P : Jvm.Cond → Bool} (h1 : L.all (fun c => isCode c || P c) = true) (h2 : ∀ c ∈ L.filter isCode, P c = true) : L.all P = true := by
  refine List.all_eq_true.mpr fun c hc => ?_
  have h := List.all_eq_true.mp h1 c hc
  rcases Bool.eq_false_or_eq_true (isCode c) with hi | hi
  · exact h2 c (List.mem_filter.mpr ⟨hc, hi⟩)
  · simpa [hi] using h
set_option maxRecDepth 65536 in
theorem w_c0 : (Jvm.Cond.code x code maxLocals ret).before args0 about1 = true := code_word (m := ⟨1, 1⟩) (meth := k1m1) (c := k1c1) (by decide +kernel) rfl rfl rfl (by decide +kernel)
set_option maxRecDepth 65536 in
theorem w_c1 : (Jvm.Cond.code ({ cls := "com/example/ledgerstrike/ledgerstrike/journal/JournalFormatAfterNumberPinLaw", name := "digits", desc := "(J)I" } : Jvm.MethodName) method_3_code (2 : Nat) (Option.some Jvm.ClassFile.FieldType.int)).before args0 about1 = true := code_word (m := ⟨1, 2⟩) (meth := k1m2) (c := k1c2) (by decide +kernel) rfl rfl rfl (by decide +kernel)
set_option maxRecDepth 65536 in
theorem w_c2 : (Jvm.Cond.code ({ cls := "com/example/ledgerstrike/ledgerstrike/journal/JournalFormatAfterNumberPinLaw", name := "digit", desc := "([BIIJIJ)V" } : Jvm.MethodName) method_4_code (8 : Nat) (Option.none : Option Jvm.ClassFile.FieldType)).before args0 about1 = true := code_word (m := ⟨1, 3⟩) (meth := k1m3) (c := k1c3) (by decide +kernel) rfl rfl rfl (by decide +kernel)
set_option maxRecDepth 65536 in
theorem w_c3 : (Jvm.Cond.code ({ cls := "com/example/ledgerstrike/ledgerstrike/journal/JournalFormat", name := "afterNumber", desc := "([BIIJ)I" } : Jvm.MethodName) prog_24_method_9_code (10 : Nat) (Option.some Jvm.ClassFile.FieldType.int)).before args0 about1 = true := code_word (m := ⟨2, 0⟩) (meth := k2m0) (c := k2c0) (by decide +kernel) rfl rfl rfl (by decide +kernel)
def codes1 : List Jvm.Cond := [Jvm.Cond.code x code maxLocals ret, Jvm.Cond.code ({ cls := "com/example/ledgerstrike/ledgerstrike/journal/JournalFormatAfterNumberPinLaw", name := "digits", desc := "(J)I" } : Jvm.MethodName) method_3_code (2 : Nat) (Option.some Jvm.ClassFile.FieldType.int), Jvm.Cond.code ({ cls := "com/example/ledgerstrike/ledgerstrike/journal/JournalFormatAfterNumberPinLaw", name := "digit", desc := "([BIIJIJ)V" } : Jvm.MethodName) method_4_code (8 : Nat) (Option.none : Option Jvm.ClassFile.FieldType), Jvm.Cond.code ({ cls := "com/example/ledgerstrike/ledgerstrike/journal/JournalFormat", name := "afterNumber", desc := "([BIIJ)I" } : Jvm.MethodName) prog_24_method_9_code (10 : Nat) (Option.some Jvm.ClassFile.FieldType.int)]
set_option maxRecDepth 65536 in
theorem codes_eq : words1.filter isCode = codes1 := rfl
theorem w_codes : ∀ c ∈ words1.filter isCode, c.before args0 about1 = true := by
  rw [codes_eq]
  intro c hc
  simp only [codes1, List.mem_cons, List.not_mem_nil, or_false] at hc
  rcases hc with rfl | rfl | rfl | rfl
  · exact w_c0
  · exact w_c1
  · exact w_c2
  · exact w_c3
set_option maxRecDepth 65536 in
theorem w_t1 : (words1.take 24).all (fun c => isCode c || c.before args0 about1) = true := by decide +kernel
set_option maxRecDepth 65536 in
theorem w_t2 : (words1.drop 24).all (fun c => isCode c || c.before args0 about1) = true := by decide +kernel
theorem w_tables : (allAtoms (Jvm.Cond.code x code maxLocals ret :: tables_1)).before args0 about1 = true := by
  rw [allAtoms_all]
  show words1.all (fun c => c.before args0 about1) = true
  refine all_split ?_ w_codes
  rw [← List.take_append_drop 24 words1, List.all_append, w_t1, w_t2]
  rfl
set_option maxRecDepth 65536 in
theorem w_case : (Jvm.Cond.and given_1 narrow_1).before args0 about1 = true := by decide +kernel
theorem w_applies : (headSpec (Jvm.Cond.code x code maxLocals ret :: tables_1) room_1).applies x e0.platform about1 = true :=
  (Spec.applies_iff w_frames).mpr ⟨w_running, w_runnable, w_alone, w_named, w_hears, w_ripe, w_room, w_tables⟩
theorem atStart : AtStart classFile x code maxLocals ret World_1 tables_1 room_1 Calls_1 rest_1 Pre_1 launch0 p0 e0 about1 theMethod args0 below0 :=
  ⟨lists_1, trivial, launch0.admits_env _ _ _, launch0.least_env, fairChoices_fair.cas, fairChoices_fair.clock, w_frames, w_args, w_heap, w_applies, trivial, trivial, w_case⟩
end start1
theorem witness_1 : WitnessClaimed_1 := ⟨start1.p0, start1.e0, start1.about1, start1.theMethod, start1.args0, start1.below0, start1.atStart⟩
end Jvm.Pilot.@@N@@
