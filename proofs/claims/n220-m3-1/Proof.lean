import JvmDerived
import JvmDerived.Pilot.@@N@@Statement
import JvmDerived.Pilot.@@N@@Code
set_option linter.unusedVariables false
set_option linter.unusedSimpArgs false
namespace Jvm.RoadKit
open Sem ClassFile Op Lib Jvm.Stand Jvm.Free Jvm.LawKit
section New
variable {p : Program} {l : Launch} {e : Env} {R : Room} {s : State} {m : MethodId} {args : Array Value} {below : List Frame} {meth : Method} {c : Code} {T : State} {locs : List Loc} {cells slots : Nat}
theorem retI (X : Stand p l e R s m args below meth c T locs cells slots) (hx : p.tables.exec = Jvm.exec) {pc : Nat} {Ls : Array Slot} {z : Int32} {rest : List Value} (hret : meth.sig.returnType = some .int) (hd : decode c.code pc = .ok (.ireturn, 1)) {fs : List Frame}
    (hl : ∀ (f : JFrame) (acts : List Action), f.method = m → f.locked = none → f.entered = [] → (doReturn e (T.setTop f) acts (some (.int z))).1 = T.setFrames fs) : Steps p.tables e below (T.setTop (mkF m pc Ls (.int z :: rest))) (T.setFrames fs) := by
  have hm' : T.vm.method? m = some meth := X.method'
  have hn : narrow .int (.int z) = .int z := rfl
  show Steps p.tables e below (T.setTop { method := m, pc := pc, locals := Ls, stack := _ :: rest, locked := none }) _
  jvm_step X.here [X.here.top, hx, hd, hm', hret, hn]
  first | (intro acts; rw [hl _ acts rfl rfl rfl]) | rw [hl _ _ rfl rfl rfl]
  exact Steps.refl _
theorem own_lrem {g : JFrame} {target : State} (X : Stand p l e R s m args below meth c T locs cells slots) (hx : p.tables.exec = Jvm.exec) (hg : g.method = m) {x y : Int64} {rest : List Value} (hd : decode c.code g.pc = .ok (.lrem, 1)) (hs : g.stack = .long y :: .long x :: rest) (hy : y ≠ 0)
    (hr : Steps p.tables e below (T.setTop { g with pc := g.pc + 1, stack := .long (x % y) :: rest }) target) : Steps p.tables e below (T.setTop g) target :=
  XS.lrem X.here hx hg hd hs hy (by first | exact hr | (rw [lrem_mod]; exact hr))
end New
end Jvm.RoadKit
namespace Jvm.Pilot.@@N@@
open Jvm Jvm.ClassFile Sem Op Lib Jvm.Free Jvm.Stand Jvm.LawKit Jvm.RoadKit Bundle Jvm.Pilot.@@N@@.Jvm.D
/-- from the state A the body returns with QQ -/
def own_Go (p : Program) (e : Env) (below : List Frame) (s : State) (QQ : Option Value → Heap → List Loc → Prop) (k n : Nat) (A : State) : Prop :=
  ∃ U o, Steps p.tables e below A U ∧ U.status = .running ∧ Ended U below o ∧ ∃ v L, o = .returned v ∧ QQ v U.heap L ∧ FrameEnd s o U L k n
theorem own_go {p : Program} {e : Env} {below : List Frame} {s : State} {QQ : Option Value → Heap → List Loc → Prop} {k n : Nat} {A B : State} (h : ∀ t, Steps p.tables e below B t → Steps p.tables e below A t) (g : own_Go p e below s QQ k n B) : own_Go p e below s QQ k n A := by
  obtain ⟨U, o, h1, r⟩ := g
  exact ⟨U, o, h U h1, r⟩
theorem own_ret {p : Program} {l : Launch} {e : Env} {R : Room} {s : State} {m : MethodId} {args : Array Value} {below : List Frame} {meth : Method} {c : Code} {T : State} {locs : List Loc} {cells slots : Nat} {QQ : Option Value → Heap → List Loc → Prop} {k n : Nat} {A : State}
    (X : Stand p l e R s m args below meth c T locs cells slots) {v : Option Value} (hv : meth.sig.returnType = none → v = none) (hlk : meth.locks = false) (hQ : QQ v T.heap locs) (hk : cells ≤ k) (hn : slots ≤ n)
    (st : ∀ fs, (∀ (f : JFrame) (acts : List Action), f.method = m → f.locked = none → f.entered = [] → (doReturn e (T.setTop f) acts v).1 = T.setFrames fs) → Steps p.tables e below A (T.setFrames fs)) : own_Go p e below s QQ k n A := by
  obtain ⟨fs, hr, hrun, hended, hW, hsame⟩ := X.leave hv hlk
  exact ⟨_, _, st fs hr, hrun, hended, _, _, rfl, hQ, ⟨_, rfl⟩, hW, hsame.mono hk hn⟩
def own_GoW (p : Program) (e : Env) (below : List Frame) (s : State) (QQ : Option Value → Heap → List Loc → Prop) (k n : Nat) (A : State) : Prop :=
  ∃ U o, Steps p.tables e below A U ∧ U.status = .running ∧ Ended U below o ∧ ∃ v L, o = .returned v ∧ QQ v U.heap L ∧ ReturnedEndW s o U L k n
theorem own_goW {p : Program} {e : Env} {below : List Frame} {s : State} {QQ : Option Value → Heap → List Loc → Prop} {k n : Nat} {A B : State} (h : ∀ t, Steps p.tables e below B t → Steps p.tables e below A t) (g : own_GoW p e below s QQ k n B) : own_GoW p e below s QQ k n A := by
  obtain ⟨U, o, h1, r⟩ := g
  exact ⟨U, o, h U h1, r⟩
theorem own_retW {p : Program} {l : Launch} {e : Env} {R : Room} {s : State} {vm₁ : Vm} {m : MethodId} {args : Array Value} {below : List Frame} {meth : Method} {c : Code} {T : State} {locs : List Loc} {cells slots : Nat} {QQ : Option Value → Heap → List Loc → Prop} {k n : Nat} {A : State}
    (X : Stand p l e R (s.setVm vm₁) m args below meth c T locs cells slots) {n1 : Nat} (hS : s.Since vm₁ n1) (hn1 : n1 ≤ T.heap.size) {v : Option Value} (hv : meth.sig.returnType = none → v = none) (hlk : meth.locks = false) (hQ : QQ v T.heap locs) (hk : cells ≤ k) (hn : slots ≤ n)
    (st : ∀ fs, (∀ (f : JFrame) (acts : List Action), f.method = m → f.locked = none → f.entered = [] → (doReturn e (T.setTop f) acts v).1 = T.setFrames fs) → Steps p.tables e below A (T.setFrames fs)) : own_GoW p e below s QQ k n A := by
  obtain ⟨fs, hr, hrun, hended, hq⟩ := X.leaveW hS hn1 hv hlk
  exact ⟨_, _, st fs hr, hrun, hended, _, _, rfl, hQ, hq.1, hq.2.1, hq.2.2.1, hq.2.2.2.mono hk hn⟩
/-- an array by what its places hold -/
def own_Ary (Z : State) (h : Heap) (a : Addr) (ty : FieldType) (n : Nat) (f : Nat → Value) : Prop := ∃ c : Cell, Arr Z h a c ty ∧ c.slots.size = n ∧ ∀ j, j < n → c.slots[j]? = some (f j)
def own_set (f : Nat → Value) (i : Nat) (v : Value) : Nat → Value := fun j => if j = i then v else f j
section
variable {Z : State} {h h' : Heap} {a b : Addr} {ty : FieldType} {n : Nat} {f : Nat → Value}
theorem own_Ary.lt (F : own_Ary Z h a ty n f) : a < h.size := by obtain ⟨c, A, -⟩ := F; exact A.lt
theorem own_Ary.ext (F : own_Ary Z h a ty n f) (E : Ext h h') : own_Ary Z h' a ty n f := by obtain ⟨c, A, r⟩ := F; exact ⟨c, A.ext E, r⟩
theorem own_Ary.other {sl : Nat} {v : Value} (F : own_Ary Z h b ty n f) (W : Wr h h' a sl v) (q : b ≠ a) : own_Ary Z h' b ty n f := by obtain ⟨c, A, r⟩ := F; exact ⟨c, A.other W q, r⟩
theorem own_Ary.keep {ws : List Addr} (F : own_Ary Z h a ty n f) (K : Keep h h' ws) (q : a ∉ ws) : own_Ary Z h' a ty n f := by obtain ⟨c, A, r⟩ := F; exact ⟨c, ⟨K.2.1 a c A.1 q, A.2⟩, r⟩
theorem own_Ary.new {k : ClassId} {z : Int32} (A : Arr Z h a (newA k ty z) ty) (hz : z.toNatClampNeg = n) : own_Ary Z h a ty n (fun _ => defaultValue ty) :=
  ⟨_, A, by rw [sz_new]; exact hz, fun j hj => by simp [newA, hz, hj]⟩
theorem own_Ary.set {c : Cell} {i : Nat} {v : Value} (A : Arr Z h a c ty) (S : c.slots.size = n) (G : ∀ j, j < n → c.slots[j]? = some (f j)) (W : Wr h h' a i v) : own_Ary Z h' a ty n (own_set f i v) := by
  refine ⟨_, A.same W, by rw [sz_set]; exact S, fun j hj => ?_⟩
  simp only [Cell.setSlot, Array.getElem?_setIfInBounds, own_set]
  by_cases q : j = i
  · subst q; simp [S, hj]
  · have q' : ¬ i = j := fun z => q z.symm
    simp [q, q', G j hj]
theorem own_Ary.congr {g : Nat → Value} (F : own_Ary Z h a ty n f) (q : ∀ j, j < n → f j = g j) : own_Ary Z h a ty n g := by
  obtain ⟨c, A, S, G⟩ := F; exact ⟨c, A, S, fun j hj => by rw [G j hj, q j hj]⟩
theorem own_sta_keep {C m d : String} {v : Value} (F : Sta Z h C m d v) (K : Keep h h' []) : Sta Z h' C m d v := by
  obtain ⟨cf, i, k, g, st, cell, h1, h2, h3, h4, h5, r⟩ := F
  exact ⟨cf, i, k, g, st, cell, h1, h2, h3, h4, K.2.1 _ _ h5 nin0, r⟩
theorem own_cl {j : Int32} {i : Nat} (q : j.toInt = (i : Int)) : j.toNatClampNeg = i := by
  show j.toInt.toNat = i
  rw [q]; rfl
theorem own_in {c : Cell} {j : Int32} {i : Nat} (S : c.slots.size = n) (q : j.toInt = (i : Int)) (hi : i < n) : ¬ (j < 0 ∨ c.slots.size ≤ j.toNatClampNeg) := by
  rw [own_cl q, S]
  have h0 : (0 : Int32).toInt = 0 := by decide
  intro z
  rcases z with z | z
  · have := Int32.lt_iff_toInt_lt.mp z; omega
  · omega
end
def own_pl : List Int := [1, 2, 4, 8, 16, 32, 64, 128, 256, 512, 1024, 2048, 4096, 8192, 16384, 32768, 65536, 131072, 262144, 524288, 1048576, 2097152, 4194304, 8388608, 16777216, 33554432, 67108864, 134217728, 268435456, 536870912, 1073741824]
def own_P (x : Int) : Prop := x ∈ own_pl
theorem own_lt {x y : Int32} (h : x.toInt < y.toInt) : x < y := Int32.lt_iff_toInt_lt.mpr h
theorem own_nlt {x y : Int32} (h : y.toInt ≤ x.toInt) : ¬ x < y := fun q => by have := Int32.lt_iff_toInt_lt.mp q; omega
theorem own_l4 : (4 : Int32).toInt = 4 := by decide
theorem own_p2 {x : Int} (h : own_P x) (q : x < 1073741824) : own_P (2 * x) := by
  have : ∀ x ∈ own_pl, x < 1073741824 → 2 * x ∈ own_pl := by decide +kernel
  exact this x h q
theorem own_ph {x : Int} (h : own_P x) (q : 4 < x) : ∃ y, x = 2 * y ∧ own_P y ∧ 4 ≤ y := by
  have : ∀ x ∈ own_pl, 4 < x → x = 2 * (x / 2) ∧ x / 2 ∈ own_pl ∧ 4 ≤ x / 2 := by decide +kernel
  exact ⟨_, this x h q⟩
theorem own_pa {r : Int32} (h : own_P r.toInt) : (r &&& (r - (1 : Int32))) = (0 : Int32) := by
  have : ∀ x ∈ own_pl, (Int32.ofInt x &&& (Int32.ofInt x - (1 : Int32))) = (0 : Int32) := by decide +kernel
  have q := this _ h
  rwa [Int32.ofInt_toInt] at q
theorem own_pr {x : Int} (h : own_P x) : 1 ≤ x ∧ x ≤ 1073741824 := by
  have : ∀ x ∈ own_pl, 1 ≤ x ∧ x ≤ 1073741824 := by decide +kernel
  exact this x h
/-- what arrayFor promises -/
def own_AF (len size r : Int) : Prop := own_P r ∧ 4 ≤ r ∧ (len < size → size ≤ r ∧ r < 2 * size) ∧ (size ≤ len → r ≤ len ∧ (r = 4 ∨ r / 4 < size) ∧ (r = len ∨ size ≤ r / 2))
theorem own_d2 {r : Int32} (h : 0 ≤ r.toInt) : (r / (2 : Int32)).toInt = r.toInt / 2 := (c_idiv r 2 2 (by decide) (by decide)).1 h
theorem own_d4 {r : Int32} (h : 0 ≤ r.toInt) : (r / (4 : Int32)).toInt = r.toInt / 4 := (c_idiv r 4 4 (by decide) (by decide)).1 h
theorem own_x2 {r : Int32} (h : 0 ≤ r.toInt) (q : r.toInt < 1073741824) : (r * (2 : Int32)).toInt = 2 * r.toInt := by
  have h1 := c_imul r 2
  have h2 : (2 : Int32).toInt = 2 := by decide
  have h3 := rng32 (r * 2)
  rw [h2] at h1
  omega
def own_max (x y : Int32) : Int32 := if x < y then y else x
def own_min (x y : Int32) : Int32 := if y < x then y else x
def own_len (a : Int32) : Int32 := (4 : Int32) <<< (((a &&& (2147483647 : Int32)) % (28 : Int32)) &&& 31)
theorem own_s28 (a : Int32) (d : Int32) (n : Int) (hd : d.toInt = n) (hn : 0 < n) : 0 ≤ ((a &&& (2147483647 : Int32)) % d).toInt ∧ ((a &&& (2147483647 : Int32)) % d).toInt < n := by
  have h1 := c_and a 2147483647 (by decide)
  have h2 := (c_irem (a &&& (2147483647 : Int32)) d n hd).1 h1.1
  rw [h2]
  exact ⟨Int.emod_nonneg _ (by omega), Int.emod_lt_of_pos _ hn⟩
theorem own_lenP (a : Int32) : own_P (own_len a).toInt ∧ 4 ≤ (own_len a).toInt ∧ (own_len a).toInt ≤ 536870912 := by
  have h := own_s28 a 28 28 (by decide) (by decide)
  have all : ∀ n ∈ List.range 28, ((4 : Int32) <<< (Int32.ofInt (n : Nat) &&& 31)).toInt ∈ own_pl ∧ 4 ≤ ((4 : Int32) <<< (Int32.ofInt (n : Nat) &&& 31)).toInt ∧ ((4 : Int32) <<< (Int32.ofInt (n : Nat) &&& 31)).toInt ≤ 536870912 := by decide +kernel
  unfold own_len
  generalize ((a &&& (2147483647 : Int32)) % (28 : Int32)) = s at h
  have e : s = Int32.ofInt (s.toInt.toNat : Nat) := by
    rw [Int.toNat_of_nonneg h.1, Int32.ofInt_toInt]
  have q := all s.toInt.toNat (List.mem_range.mpr (by omega))
  rw [← e] at q
  exact q
theorem own_mm (x : Int32) : 0 ≤ (own_min (own_max (0 : Int32) x) (1073741824 : Int32)).toInt ∧ (own_min (own_max (0 : Int32) x) (1073741824 : Int32)).toInt ≤ 1073741824 := by
  have e0 : (0 : Int32).toInt = 0 := by decide
  have e1 : (1073741824 : Int32).toInt = 1073741824 := by decide
  unfold own_min own_max
  simp only [Int32.lt_iff_toInt_lt, e0, e1]
  split <;> split <;> (try simp only [e0, e1]) <;> omega
theorem d1_0 : decode jdk_29_method_65_code 0 = .ok (.iload_n 0, 1) := by decide +kernel
theorem d1_1 : decode jdk_29_method_65_code 1 = .ok (.iload_n 1, 1) := by decide +kernel
theorem d1_2 : decode jdk_29_method_65_code 2 = .ok (.if_icmp .lt 7, 3) := by decide +kernel
theorem d1_9 : decode jdk_29_method_65_code 9 = .ok (.iload_n 1, 1) := by decide +kernel
theorem d1_10 : decode jdk_29_method_65_code 10 = .ok (.ireturn, 1) := by decide +kernel
theorem d1_5 : decode jdk_29_method_65_code 5 = .ok (.iload_n 0, 1) := by decide +kernel
theorem d1_6 : decode jdk_29_method_65_code 6 = .ok (.goto 4, 3) := by decide +kernel
theorem ef_1 (m : MethodId) (p0 : Int32) (p1 : Int32) : entryFrame m #[(.int p0), (.int p1)] 2 = mkF m 0 #[.val (.int p0), .val (.int p1)] [] := by first | (simp [entryFrame, mkF, argsToLocals, Value.category]; done) | rfl
def Q1 (Z : State) (p0 : Int32) (p1 : Int32) (h0 : Heap) (n0 : Nat) (v : Option Value) (h : Heap) (L : List Loc) : Prop := v = some (.int (own_max p0 p1)) ∧ Fr n0 L ∧ h = h0
set_option maxRecDepth 65536 in
set_option maxHeartbeats 40000000 in
theorem rm1 (l : Launch) (Z : State) (a0 : Array Value) (hw : ∀ d ∈ tables_1, d.before a0 Z = true) (ws : List Jvm.Cond) (p0 : Int32) (p1 : Int32) (h0 : Heap) (n0 : Nat) (Z0 : n0 ≤ h0.size) :
    MetFree l (⟨"java/lang/Math", "max", "(II)I"⟩ : MethodName) (head1 (Jvm.Cond.code (⟨"java/lang/Math", "max", "(II)I"⟩ : MethodName) jdk_29_method_65_code 2 (some .int) :: ws) ({ frames := 0, cells := 0, slots := 0, locals := 0 } : Room)) (fun a U => a = #[(.int p0), (.int p1)] ∧ Z.Warmed39 U.vm ∧ U.heap = h0) (fun _ _ _ _ _ => True) (fun _ U o U' => ∃ v L, o = .returned v ∧ Q1 Z p0 p1 h0 n0 v U'.heap L ∧ FrameEnd U o U' L (({ frames := 0, cells := 0, slots := 0, locals := 0 } : Room)).cells (({ frames := 0, cells := 0, slots := 0, locals := 0 } : Room)).slots) := by
  refine MetFree.of_bodySF (Jvm.Free.JP.mathPlain rfl (by decide +kernel)) hisR ?_
  intro p e s m args below meth c s₁ Bd hml0 hP hK
  obtain ⟨rfl, hZ, hh⟩ := hP
  have hx := Bd.exec
  have hby := Bd.bytes
  have hml : c.maxLocals = 2 := hml0
  have hown : s.vm.findClass "java/lang/Math" = some m.cls := findClass_of_methodNamed Bd.named
  have hnm := (name_of_methodNamed Bd.named Bd.method).1
  have hlk : meth.locks = false := Bd.notSynchronized
  have X0 : Stand p l e ({ frames := 0, cells := 0, slots := 0, locals := 0 } : Room) s m #[(.int p0), (.int p1)] below meth c s₁ [] 0 0 := Stand.of_body Bd
  have e0 : s₁.heap = h0 := by rw [← hh, Bd.state]; rfl
  have N0 := Fr.nil n0
  have hret := Bd.returns
  show own_Go p e below s (Q1 Z p0 p1 h0 n0) _ _ (s₁.setTop (entryFrame m #[(.int p0), (.int p1)] 2))
  refine own_go (fun t k => castTop (ef_1 m p0 p1) k) ?_
  show own_Go p e below s _ _ _ (s₁.setTop (mkF m 0 #[.val (.int p0), .val (.int p1)] []))
  refine own_go (fun t_ kt_ => XS.iloadN X0.here hx rfl (hb hby d1_0) rfl kt_) ?_
  show own_Go p e below s _ _ _ (s₁.setTop (mkF m 1 #[.val (.int p0), .val (.int p1)] [(.int p0)]))
  refine own_go (fun t_ kt_ => XS.iloadN X0.here hx rfl (hb hby d1_1) rfl kt_) ?_
  show own_Go p e below s _ _ _ (s₁.setTop (mkF m 2 #[.val (.int p0), .val (.int p1)] [(.int p1), (.int p0)]))
  by_cases hc2 : p0 < p1
  · skip
    have hi2 : p0.toInt < p1.toInt := Int32.lt_iff_toInt_lt.mp hc2
    refine own_go (fun t_ kt_ => XS.icmpYes X0.here hx rfl (pc0 := 2) (pc' := 9) rfl (hb hby d1_2) rfl (tlt hc2).1 (by decide) (by decide) kt_) ?_
    show own_Go p e below s _ _ _ (s₁.setTop (mkF m 9 #[.val (.int p0), .val (.int p1)] []))
    refine own_go (fun t_ kt_ => XS.iloadN X0.here hx rfl (hb hby d1_9) rfl kt_) ?_
    show own_Go p e below s _ _ _ (s₁.setTop (mkF m 10 #[.val (.int p0), .val (.int p1)] [(.int p1)]))
    refine own_ret X0 (v := some (.int p1)) (fun h => by rw [hret] at h; cases h) hlk ?_ (by decide) (by decide) (fun fs hr => retI X0 hx hret (hb hby d1_10) hr)
    show Q1 Z p0 p1 h0 n0 (some (.int p1)) s₁.heap _
    rw [e0]
    exact ⟨congrArg (fun z => some (Value.int z)) (by unfold own_max; simp [hc2]), N0, rfl⟩
  · skip
    have hi2 : ¬ p0.toInt < p1.toInt := fun q => hc2 (Int32.lt_iff_toInt_lt.mpr q)
    refine own_go (fun t_ kt_ => XS.icmpNo X0.here hx rfl (hb hby d1_2) rfl (flt hc2).1 kt_) ?_
    show own_Go p e below s _ _ _ (s₁.setTop (mkF m 5 #[.val (.int p0), .val (.int p1)] []))
    refine own_go (fun t_ kt_ => XS.iloadN X0.here hx rfl (hb hby d1_5) rfl kt_) ?_
    show own_Go p e below s _ _ _ (s₁.setTop (mkF m 6 #[.val (.int p0), .val (.int p1)] [(.int p0)]))
    refine own_go (fun t_ kt_ => XS.goto X0.here hx rfl (pc0 := 6) (pc' := 10) rfl (hb hby d1_6) (by decide) (by decide) kt_) ?_
    show own_Go p e below s _ _ _ (s₁.setTop (mkF m 10 #[.val (.int p0), .val (.int p1)] [(.int p0)]))
    refine own_ret X0 (v := some (.int p0)) (fun h => by rw [hret] at h; cases h) hlk ?_ (by decide) (by decide) (fun fs hr => retI X0 hx hret (hb hby d1_10) hr)
    show Q1 Z p0 p1 h0 n0 (some (.int p0)) s₁.heap _
    rw [e0]
    exact ⟨congrArg (fun z => some (Value.int z)) (by unfold own_max; simp [hc2]), N0, rfl⟩
theorem d2_0 : decode jdk_29_method_69_code 0 = .ok (.iload_n 0, 1) := by decide +kernel
theorem d2_1 : decode jdk_29_method_69_code 1 = .ok (.iload_n 1, 1) := by decide +kernel
theorem d2_2 : decode jdk_29_method_69_code 2 = .ok (.if_icmp .gt 7, 3) := by decide +kernel
theorem d2_9 : decode jdk_29_method_69_code 9 = .ok (.iload_n 1, 1) := by decide +kernel
theorem d2_10 : decode jdk_29_method_69_code 10 = .ok (.ireturn, 1) := by decide +kernel
theorem d2_5 : decode jdk_29_method_69_code 5 = .ok (.iload_n 0, 1) := by decide +kernel
theorem d2_6 : decode jdk_29_method_69_code 6 = .ok (.goto 4, 3) := by decide +kernel
theorem ef_2 (m : MethodId) (p0 : Int32) (p1 : Int32) : entryFrame m #[(.int p0), (.int p1)] 2 = mkF m 0 #[.val (.int p0), .val (.int p1)] [] := by first | (simp [entryFrame, mkF, argsToLocals, Value.category]; done) | rfl
def Q2 (Z : State) (p0 : Int32) (p1 : Int32) (h0 : Heap) (n0 : Nat) (v : Option Value) (h : Heap) (L : List Loc) : Prop := v = some (.int (own_min p0 p1)) ∧ Fr n0 L ∧ h = h0
set_option maxRecDepth 65536 in
set_option maxHeartbeats 40000000 in
theorem rm2 (l : Launch) (Z : State) (a0 : Array Value) (hw : ∀ d ∈ tables_1, d.before a0 Z = true) (ws : List Jvm.Cond) (p0 : Int32) (p1 : Int32) (h0 : Heap) (n0 : Nat) (Z0 : n0 ≤ h0.size) :
    MetFree l (⟨"java/lang/Math", "min", "(II)I"⟩ : MethodName) (head1 (Jvm.Cond.code (⟨"java/lang/Math", "min", "(II)I"⟩ : MethodName) jdk_29_method_69_code 2 (some .int) :: ws) ({ frames := 0, cells := 0, slots := 0, locals := 0 } : Room)) (fun a U => a = #[(.int p0), (.int p1)] ∧ Z.Warmed39 U.vm ∧ U.heap = h0) (fun _ _ _ _ _ => True) (fun _ U o U' => ∃ v L, o = .returned v ∧ Q2 Z p0 p1 h0 n0 v U'.heap L ∧ FrameEnd U o U' L (({ frames := 0, cells := 0, slots := 0, locals := 0 } : Room)).cells (({ frames := 0, cells := 0, slots := 0, locals := 0 } : Room)).slots) := by
  refine MetFree.of_bodySF (Jvm.Free.JP.mathPlain rfl (by decide +kernel)) hisR ?_
  intro p e s m args below meth c s₁ Bd hml0 hP hK
  obtain ⟨rfl, hZ, hh⟩ := hP
  have hx := Bd.exec
  have hby := Bd.bytes
  have hml : c.maxLocals = 2 := hml0
  have hown : s.vm.findClass "java/lang/Math" = some m.cls := findClass_of_methodNamed Bd.named
  have hnm := (name_of_methodNamed Bd.named Bd.method).1
  have hlk : meth.locks = false := Bd.notSynchronized
  have X0 : Stand p l e ({ frames := 0, cells := 0, slots := 0, locals := 0 } : Room) s m #[(.int p0), (.int p1)] below meth c s₁ [] 0 0 := Stand.of_body Bd
  have e0 : s₁.heap = h0 := by rw [← hh, Bd.state]; rfl
  have N0 := Fr.nil n0
  have hret := Bd.returns
  show own_Go p e below s (Q2 Z p0 p1 h0 n0) _ _ (s₁.setTop (entryFrame m #[(.int p0), (.int p1)] 2))
  refine own_go (fun t k => castTop (ef_2 m p0 p1) k) ?_
  show own_Go p e below s _ _ _ (s₁.setTop (mkF m 0 #[.val (.int p0), .val (.int p1)] []))
  refine own_go (fun t_ kt_ => XS.iloadN X0.here hx rfl (hb hby d2_0) rfl kt_) ?_
  show own_Go p e below s _ _ _ (s₁.setTop (mkF m 1 #[.val (.int p0), .val (.int p1)] [(.int p0)]))
  refine own_go (fun t_ kt_ => XS.iloadN X0.here hx rfl (hb hby d2_1) rfl kt_) ?_
  show own_Go p e below s _ _ _ (s₁.setTop (mkF m 2 #[.val (.int p0), .val (.int p1)] [(.int p1), (.int p0)]))
  by_cases hc2 : p1 < p0
  · skip
    have hi2 : p1.toInt < p0.toInt := Int32.lt_iff_toInt_lt.mp hc2
    refine own_go (fun t_ kt_ => XS.icmpYes X0.here hx rfl (pc0 := 2) (pc' := 9) rfl (hb hby d2_2) rfl (tlt hc2).2.2.1 (by decide) (by decide) kt_) ?_
    show own_Go p e below s _ _ _ (s₁.setTop (mkF m 9 #[.val (.int p0), .val (.int p1)] []))
    refine own_go (fun t_ kt_ => XS.iloadN X0.here hx rfl (hb hby d2_9) rfl kt_) ?_
    show own_Go p e below s _ _ _ (s₁.setTop (mkF m 10 #[.val (.int p0), .val (.int p1)] [(.int p1)]))
    refine own_ret X0 (v := some (.int p1)) (fun h => by rw [hret] at h; cases h) hlk ?_ (by decide) (by decide) (fun fs hr => retI X0 hx hret (hb hby d2_10) hr)
    show Q2 Z p0 p1 h0 n0 (some (.int p1)) s₁.heap _
    rw [e0]
    exact ⟨congrArg (fun z => some (Value.int z)) (by unfold own_min; simp [hc2]), N0, rfl⟩
  · skip
    have hi2 : ¬ p1.toInt < p0.toInt := fun q => hc2 (Int32.lt_iff_toInt_lt.mpr q)
    refine own_go (fun t_ kt_ => XS.icmpNo X0.here hx rfl (hb hby d2_2) rfl (flt hc2).2.2.1 kt_) ?_
    show own_Go p e below s _ _ _ (s₁.setTop (mkF m 5 #[.val (.int p0), .val (.int p1)] []))
    refine own_go (fun t_ kt_ => XS.iloadN X0.here hx rfl (hb hby d2_5) rfl kt_) ?_
    show own_Go p e below s _ _ _ (s₁.setTop (mkF m 6 #[.val (.int p0), .val (.int p1)] [(.int p0)]))
    refine own_go (fun t_ kt_ => XS.goto X0.here hx rfl (pc0 := 6) (pc' := 10) rfl (hb hby d2_6) (by decide) (by decide) kt_) ?_
    show own_Go p e below s _ _ _ (s₁.setTop (mkF m 10 #[.val (.int p0), .val (.int p1)] [(.int p0)]))
    refine own_ret X0 (v := some (.int p0)) (fun h => by rw [hret] at h; cases h) hlk ?_ (by decide) (by decide) (fun fs hr => retI X0 hx hret (hb hby d2_10) hr)
    show Q2 Z p0 p1 h0 n0 (some (.int p0)) s₁.heap _
    rw [e0]
    exact ⟨congrArg (fun z => some (Value.int z)) (by unfold own_min; simp [hc2]), N0, rfl⟩
theorem pn_0 : plainName "com/example/evenkeel/evenkeel/Aggregate" = true := by first | (simp [plainName, overriddenIn]; done) | decide +kernel
theorem d3_0 : decode prog_2_method_8_code 0 = .ok (.iload_n 0, 1) := by decide +kernel
theorem d3_1 : decode prog_2_method_8_code 1 = .ok (.istore_n 2, 1) := by decide +kernel
theorem d3_33 : decode prog_2_method_8_code 33 = .ok (.iload_n 2, 1) := by decide +kernel
theorem d3_34 : decode prog_2_method_8_code 34 = .ok (.ireturn, 1) := by decide +kernel
theorem d3_14 : decode prog_2_method_8_code 14 = .ok (.iload_n 2, 1) := by decide +kernel
theorem d3_15 : decode prog_2_method_8_code 15 = .ok (.iconst 4, 1) := by decide +kernel
theorem d3_16 : decode prog_2_method_8_code 16 = .ok (.if_icmp .le 17, 3) := by decide +kernel
theorem d3_19 : decode prog_2_method_8_code 19 = .ok (.iload_n 1, 1) := by decide +kernel
theorem d3_20 : decode prog_2_method_8_code 20 = .ok (.iload_n 2, 1) := by decide +kernel
theorem d3_21 : decode prog_2_method_8_code 21 = .ok (.iconst 4, 1) := by decide +kernel
theorem d3_22 : decode prog_2_method_8_code 22 = .ok (.idiv, 1) := by decide +kernel
theorem d3_23 : decode prog_2_method_8_code 23 = .ok (.if_icmp .gt 10, 3) := by decide +kernel
theorem d3_26 : decode prog_2_method_8_code 26 = .ok (.iload_n 2, 1) := by decide +kernel
theorem d3_27 : decode prog_2_method_8_code 27 = .ok (.iconst 2, 1) := by decide +kernel
theorem d3_28 : decode prog_2_method_8_code 28 = .ok (.idiv, 1) := by decide +kernel
theorem d3_29 : decode prog_2_method_8_code 29 = .ok (.istore_n 2, 1) := by decide +kernel
theorem d3_30 : decode prog_2_method_8_code 30 = .ok (.goto (-16), 3) := by decide +kernel
theorem d3_2 : decode prog_2_method_8_code 2 = .ok (.iload_n 2, 1) := by decide +kernel
theorem d3_3 : decode prog_2_method_8_code 3 = .ok (.iload_n 1, 1) := by decide +kernel
theorem d3_4 : decode prog_2_method_8_code 4 = .ok (.if_icmp .ge 10, 3) := by decide +kernel
theorem d3_7 : decode prog_2_method_8_code 7 = .ok (.iload_n 2, 1) := by decide +kernel
theorem d3_8 : decode prog_2_method_8_code 8 = .ok (.iconst 2, 1) := by decide +kernel
theorem d3_9 : decode prog_2_method_8_code 9 = .ok (.imul, 1) := by decide +kernel
theorem d3_10 : decode prog_2_method_8_code 10 = .ok (.istore_n 2, 1) := by decide +kernel
theorem d3_11 : decode prog_2_method_8_code 11 = .ok (.goto (-9), 3) := by decide +kernel
theorem ef_3 (m : MethodId) (p0 : Int32) (p1 : Int32) : entryFrame m #[(.int p0), (.int p1)] 3 = mkF m 0 #[.val (.int p0), .val (.int p1), .unset] [] := by first | (simp [entryFrame, mkF, argsToLocals, Value.category]; done) | rfl
def Q3 (Z : State) (p0 : Int32) (p1 : Int32) (h0 : Heap) (n0 : Nat) (v : Option Value) (h : Heap) (L : List Loc) : Prop := ∃ r : Int32, v = some (.int r) ∧ own_AF p0.toInt p1.toInt r.toInt ∧ Fr n0 L ∧ h = h0
set_option maxRecDepth 65536 in
set_option maxHeartbeats 40000000 in
theorem rm3 (l : Launch) (Z : State) (a0 : Array Value) (hw : ∀ d ∈ tables_1, d.before a0 Z = true) (ws : List Jvm.Cond) (p0 : Int32) (p1 : Int32) (h0 : Heap) (n0 : Nat) (Z0 : n0 ≤ h0.size) (a1 : own_P p0.toInt) (a2 : 4 ≤ p0.toInt ∧ p0.toInt ≤ 536870912) (a3 : 0 ≤ p1.toInt ∧ p1.toInt ≤ 1073741824) :
    MetFree l (⟨"com/example/evenkeel/evenkeel/Aggregate", "arrayFor", "(II)I"⟩ : MethodName) (head1 (Jvm.Cond.code (⟨"com/example/evenkeel/evenkeel/Aggregate", "arrayFor", "(II)I"⟩ : MethodName) prog_2_method_8_code 3 (some .int) :: ws) ({ frames := 0, cells := 0, slots := 0, locals := 0 } : Room)) (fun a U => a = #[(.int p0), (.int p1)] ∧ Z.Warmed39 U.vm ∧ U.heap = h0) (fun _ _ _ _ _ => True) (fun _ U o U' => ∃ v L, o = .returned v ∧ Q3 Z p0 p1 h0 n0 v U'.heap L ∧ FrameEnd U o U' L (({ frames := 0, cells := 0, slots := 0, locals := 0 } : Room)).cells (({ frames := 0, cells := 0, slots := 0, locals := 0 } : Room)).slots) := by
  refine MetFree.of_bodySF (plainFor_of_name pn_0) hisR ?_
  intro p e s m args below meth c s₁ Bd hml0 hP hK
  obtain ⟨rfl, hZ, hh⟩ := hP
  have hx := Bd.exec
  have hby := Bd.bytes
  have hml : c.maxLocals = 3 := hml0
  have hown : s.vm.findClass "com/example/evenkeel/evenkeel/Aggregate" = some m.cls := findClass_of_methodNamed Bd.named
  have hnm := (name_of_methodNamed Bd.named Bd.method).1
  have hlk : meth.locks = false := Bd.notSynchronized
  have X0 : Stand p l e ({ frames := 0, cells := 0, slots := 0, locals := 0 } : Room) s m #[(.int p0), (.int p1)] below meth c s₁ [] 0 0 := Stand.of_body Bd
  have e0 : s₁.heap = h0 := by rw [← hh, Bd.state]; rfl
  have N0 := Fr.nil n0
  have hret := Bd.returns
  show own_Go p e below s (Q3 Z p0 p1 h0 n0) _ _ (s₁.setTop (entryFrame m #[(.int p0), (.int p1)] 3))
  refine own_go (fun t k => castTop (ef_3 m p0 p1) k) ?_
  show own_Go p e below s _ _ _ (s₁.setTop (mkF m 0 #[.val (.int p0), .val (.int p1), .unset] []))
  refine own_go (fun t_ kt_ => XS.iloadN X0.here hx rfl (hb hby d3_0) rfl kt_) ?_
  show own_Go p e below s _ _ _ (s₁.setTop (mkF m 1 #[.val (.int p0), .val (.int p1), .unset] [(.int p0)]))
  refine own_go (fun t_ kt_ => XS.istoreN X0.here hx rfl (hb hby d3_1) rfl (l' := #[.val (.int p0), .val (.int p1), .val (.int p0)]) rfl kt_) ?_
  show own_Go p e below s _ _ _ (s₁.setTop (mkF m 2 #[.val (.int p0), .val (.int p1), .val (.int p0)] []))
  have J33 : ∀ (T1 : State) (locs1 : List Loc) (X1 : Stand p l e ({ frames := 0, cells := 0, slots := 0, locals := 0 } : Room) s m #[(.int p0), (.int p1)] below meth c T1 locs1 0 0) (e1 : T1.heap = h0) (N1 : Fr n0 locs1) (r : Int32) (jq : own_AF p0.toInt p1.toInt r.toInt), own_Go p e below s (Q3 Z p0 p1 h0 n0) (({ frames := 0, cells := 0, slots := 0, locals := 0 } : Room)).cells (({ frames := 0, cells := 0, slots := 0, locals := 0 } : Room)).slots (T1.setTop (mkF m 33 #[.val (.int p0), .val (.int p1), .val (.int r)] [])) := by
    intro T1 locs1 X1 e1 N1 r jq
    refine own_go (fun t_ kt_ => XS.iloadN X1.here hx rfl (hb hby d3_33) rfl kt_) ?_
    show own_Go p e below s _ _ _ (T1.setTop (mkF m 34 #[.val (.int p0), .val (.int p1), .val (.int r)] [(.int r)]))
    refine own_ret X1 (v := some (.int r)) (fun h => by rw [hret] at h; cases h) hlk ?_ (by decide) (by decide) (fun fs hr => retI X1 hx hret (hb hby d3_34) hr)
    show Q3 Z p0 p1 h0 n0 (some (.int r)) T1.heap _
    rw [e1]
    exact ⟨r, rfl, jq, N1, rfl⟩
  have J14 : ∀ (kk : Nat) (T2 : State) (locs2 : List Loc) (X2 : Stand p l e ({ frames := 0, cells := 0, slots := 0, locals := 0 } : Room) s m #[(.int p0), (.int p1)] below meth c T2 locs2 0 0) (e2 : T2.heap = h0) (N2 : Fr n0 locs2) (r : Int32) (j1 : own_P r.toInt) (j2 : 4 ≤ r.toInt ∧ p1.toInt ≤ r.toInt) (j3 : (p0.toInt < p1.toInt → r.toInt < 2 * p1.toInt) ∧ (p1.toInt ≤ p0.toInt → r.toInt ≤ p0.toInt ∧ (r.toInt = p0.toInt ∨ p1.toInt ≤ r.toInt / 2))) (j4 : kk = r.toInt.toNat), own_Go p e below s (Q3 Z p0 p1 h0 n0) (({ frames := 0, cells := 0, slots := 0, locals := 0 } : Room)).cells (({ frames := 0, cells := 0, slots := 0, locals := 0 } : Room)).slots (T2.setTop (mkF m 14 #[.val (.int p0), .val (.int p1), .val (.int r)] [])) := by
    intro kk
    induction kk using Nat.strongRecOn with
    | ind kk ih =>
      intro T2 locs2 X2 e2 N2 r j1 j2 j3 j4
      refine own_go (fun t_ kt_ => XS.iloadN X2.here hx rfl (hb hby d3_14) rfl kt_) ?_
      show own_Go p e below s _ _ _ (T2.setTop (mkF m 15 #[.val (.int p0), .val (.int p1), .val (.int r)] [(.int r)]))
      refine own_go (fun t_ kt_ => XS.iconst X2.here hx rfl (hb hby d3_15) kt_) ?_
      show own_Go p e below s _ _ _ (T2.setTop (mkF m 16 #[.val (.int p0), .val (.int p1), .val (.int r)] [(.int (4 : Int32)), (.int r)]))
      by_cases hc16 : (4 : Int32) < r
      · skip
        have hi16 : 4 < r.toInt := Int32.lt_iff_toInt_lt.mp hc16
        refine own_go (fun t_ kt_ => XS.icmpNo X2.here hx rfl (hb hby d3_16) rfl (tlt hc16).2.2.2 kt_) ?_
        show own_Go p e below s _ _ _ (T2.setTop (mkF m 19 #[.val (.int p0), .val (.int p1), .val (.int r)] []))
        have own_r0 := own_pr j1
        have own_r4 := own_d4 (r := r) (by omega)
        refine own_go (fun t_ kt_ => XS.iloadN X2.here hx rfl (hb hby d3_19) rfl kt_) ?_
        show own_Go p e below s _ _ _ (T2.setTop (mkF m 20 #[.val (.int p0), .val (.int p1), .val (.int r)] [(.int p1)]))
        refine own_go (fun t_ kt_ => XS.iloadN X2.here hx rfl (hb hby d3_20) rfl kt_) ?_
        show own_Go p e below s _ _ _ (T2.setTop (mkF m 21 #[.val (.int p0), .val (.int p1), .val (.int r)] [(.int r), (.int p1)]))
        refine own_go (fun t_ kt_ => XS.iconst X2.here hx rfl (hb hby d3_21) kt_) ?_
        show own_Go p e below s _ _ _ (T2.setTop (mkF m 22 #[.val (.int p0), .val (.int p1), .val (.int r)] [(.int (4 : Int32)), (.int r), (.int p1)]))
        refine own_go (fun t_ kt_ => XS.idiv X2.here hx rfl (hb hby d3_22) rfl (by decide) kt_) ?_
        show own_Go p e below s _ _ _ (T2.setTop (mkF m 23 #[.val (.int p0), .val (.int p1), .val (.int r)] [(.int (r / (4 : Int32))), (.int p1)]))
        by_cases hc23 : (r / (4 : Int32)) < p1
        · skip
          have hi23 : ((r / (4 : Int32))).toInt < p1.toInt := Int32.lt_iff_toInt_lt.mp hc23
          refine own_go (fun t_ kt_ => XS.icmpYes X2.here hx rfl (pc0 := 23) (pc' := 33) rfl (hb hby d3_23) rfl (tlt hc23).2.2.1 (by decide) (by decide) kt_) ?_
          show own_Go p e below s _ _ _ (T2.setTop (mkF m 33 #[.val (.int p0), .val (.int p1), .val (.int r)] []))
          exact J33 T2 _ X2 e2 N2  (r) (by refine ⟨j1, by omega, ?_, ?_⟩ <;> omega)
        · skip
          have hi23 : ¬ ((r / (4 : Int32))).toInt < p1.toInt := fun q => hc23 (Int32.lt_iff_toInt_lt.mpr q)
          refine own_go (fun t_ kt_ => XS.icmpNo X2.here hx rfl (hb hby d3_23) rfl (flt hc23).2.2.1 kt_) ?_
          show own_Go p e below s _ _ _ (T2.setTop (mkF m 26 #[.val (.int p0), .val (.int p1), .val (.int r)] []))
          have own_r2 := own_d2 (r := r) (by omega)
          obtain ⟨y, hy, hyp, hy4⟩ := own_ph j1 (by omega)
          have own_y1 : own_P (r / (2 : Int32)).toInt := by rw [own_r2, hy]; rw [Int.mul_ediv_cancel_left y (by decide : (2 : Int) ≠ 0)]; exact hyp
          refine own_go (fun t_ kt_ => XS.iloadN X2.here hx rfl (hb hby d3_26) rfl kt_) ?_
          show own_Go p e below s _ _ _ (T2.setTop (mkF m 27 #[.val (.int p0), .val (.int p1), .val (.int r)] [(.int r)]))
          refine own_go (fun t_ kt_ => XS.iconst X2.here hx rfl (hb hby d3_27) kt_) ?_
          show own_Go p e below s _ _ _ (T2.setTop (mkF m 28 #[.val (.int p0), .val (.int p1), .val (.int r)] [(.int (2 : Int32)), (.int r)]))
          refine own_go (fun t_ kt_ => XS.idiv X2.here hx rfl (hb hby d3_28) rfl (by decide) kt_) ?_
          show own_Go p e below s _ _ _ (T2.setTop (mkF m 29 #[.val (.int p0), .val (.int p1), .val (.int r)] [(.int (r / (2 : Int32)))]))
          refine own_go (fun t_ kt_ => XS.istoreN X2.here hx rfl (hb hby d3_29) rfl (l' := #[.val (.int p0), .val (.int p1), .val (.int (r / (2 : Int32)))]) rfl kt_) ?_
          show own_Go p e below s _ _ _ (T2.setTop (mkF m 30 #[.val (.int p0), .val (.int p1), .val (.int (r / (2 : Int32)))] []))
          refine own_go (fun t_ kt_ => XS.goto X2.here hx rfl (pc0 := 30) (pc' := 14) rfl (hb hby d3_30) (by decide) (by decide) kt_) ?_
          show own_Go p e below s _ _ _ (T2.setTop (mkF m 14 #[.val (.int p0), .val (.int p1), .val (.int (r / (2 : Int32)))] []))
          exact ih (((r / (2 : Int32))).toInt.toNat) (by rw [own_r2]; omega) T2 _ X2 e2 N2  ((r / (2 : Int32))) (own_y1) (by rw [own_r2]; omega) (by rw [own_r2]; omega) (rfl)
      · skip
        have hi16 : ¬ 4 < r.toInt := fun q => hc16 (Int32.lt_iff_toInt_lt.mpr q)
        refine own_go (fun t_ kt_ => XS.icmpYes X2.here hx rfl (pc0 := 16) (pc' := 33) rfl (hb hby d3_16) rfl (flt hc16).2.2.2 (by decide) (by decide) kt_) ?_
        show own_Go p e below s _ _ _ (T2.setTop (mkF m 33 #[.val (.int p0), .val (.int p1), .val (.int r)] []))
        exact J33 T2 _ X2 e2 N2  (r) (by refine ⟨j1, by omega, ?_, ?_⟩ <;> omega)
  have J2 : ∀ (kk : Nat) (T3 : State) (locs3 : List Loc) (X3 : Stand p l e ({ frames := 0, cells := 0, slots := 0, locals := 0 } : Room) s m #[(.int p0), (.int p1)] below meth c T3 locs3 0 0) (e3 : T3.heap = h0) (N3 : Fr n0 locs3) (r : Int32) (j1 : own_P r.toInt) (j2 : p0.toInt ≤ r.toInt) (j3 : r.toInt = p0.toInt ∨ (p0.toInt < p1.toInt ∧ r.toInt < 2 * p1.toInt)) (j4 : kk = (1073741824 - r.toInt).toNat), own_Go p e below s (Q3 Z p0 p1 h0 n0) (({ frames := 0, cells := 0, slots := 0, locals := 0 } : Room)).cells (({ frames := 0, cells := 0, slots := 0, locals := 0 } : Room)).slots (T3.setTop (mkF m 2 #[.val (.int p0), .val (.int p1), .val (.int r)] [])) := by
    intro kk
    induction kk using Nat.strongRecOn with
    | ind kk ih =>
      intro T3 locs3 X3 e3 N3 r j1 j2 j3 j4
      refine own_go (fun t_ kt_ => XS.iloadN X3.here hx rfl (hb hby d3_2) rfl kt_) ?_
      show own_Go p e below s _ _ _ (T3.setTop (mkF m 3 #[.val (.int p0), .val (.int p1), .val (.int r)] [(.int r)]))
      refine own_go (fun t_ kt_ => XS.iloadN X3.here hx rfl (hb hby d3_3) rfl kt_) ?_
      show own_Go p e below s _ _ _ (T3.setTop (mkF m 4 #[.val (.int p0), .val (.int p1), .val (.int r)] [(.int p1), (.int r)]))
      by_cases hc4 : r < p1
      · skip
        have hi4 : r.toInt < p1.toInt := Int32.lt_iff_toInt_lt.mp hc4
        refine own_go (fun t_ kt_ => XS.icmpNo X3.here hx rfl (hb hby d3_4) rfl (tlt hc4).2.1 kt_) ?_
        show own_Go p e below s _ _ _ (T3.setTop (mkF m 7 #[.val (.int p0), .val (.int p1), .val (.int r)] []))
        have own_r0 := own_pr j1
        have own_r2 := own_x2 (r := r) (by omega) (by omega)
        have own_x1 : own_P (r * (2 : Int32)).toInt := by rw [own_r2]; exact own_p2 j1 (by omega)
        refine own_go (fun t_ kt_ => XS.iloadN X3.here hx rfl (hb hby d3_7) rfl kt_) ?_
        show own_Go p e below s _ _ _ (T3.setTop (mkF m 8 #[.val (.int p0), .val (.int p1), .val (.int r)] [(.int r)]))
        refine own_go (fun t_ kt_ => XS.iconst X3.here hx rfl (hb hby d3_8) kt_) ?_
        show own_Go p e below s _ _ _ (T3.setTop (mkF m 9 #[.val (.int p0), .val (.int p1), .val (.int r)] [(.int (2 : Int32)), (.int r)]))
        refine own_go (fun t_ kt_ => XS.imul X3.here hx rfl (hb hby d3_9) rfl kt_) ?_
        show own_Go p e below s _ _ _ (T3.setTop (mkF m 10 #[.val (.int p0), .val (.int p1), .val (.int r)] [(.int (r * (2 : Int32)))]))
        refine own_go (fun t_ kt_ => XS.istoreN X3.here hx rfl (hb hby d3_10) rfl (l' := #[.val (.int p0), .val (.int p1), .val (.int (r * (2 : Int32)))]) rfl kt_) ?_
        show own_Go p e below s _ _ _ (T3.setTop (mkF m 11 #[.val (.int p0), .val (.int p1), .val (.int (r * (2 : Int32)))] []))
        refine own_go (fun t_ kt_ => XS.goto X3.here hx rfl (pc0 := 11) (pc' := 2) rfl (hb hby d3_11) (by decide) (by decide) kt_) ?_
        show own_Go p e below s _ _ _ (T3.setTop (mkF m 2 #[.val (.int p0), .val (.int p1), .val (.int (r * (2 : Int32)))] []))
        exact ih ((1073741824 - ((r * (2 : Int32))).toInt).toNat) (by rw [own_r2]; omega) T3 _ X3 e3 N3  ((r * (2 : Int32))) (own_x1) (by rw [own_r2]; omega) (by rw [own_r2]; omega) (rfl)
      · skip
        have hi4 : ¬ r.toInt < p1.toInt := fun q => hc4 (Int32.lt_iff_toInt_lt.mpr q)
        refine own_go (fun t_ kt_ => XS.icmpYes X3.here hx rfl (pc0 := 4) (pc' := 14) rfl (hb hby d3_4) rfl (flt hc4).2.1 (by decide) (by decide) kt_) ?_
        show own_Go p e below s _ _ _ (T3.setTop (mkF m 14 #[.val (.int p0), .val (.int p1), .val (.int r)] []))
        exact J14 ((r).toInt.toNat) T3 _ X3 e3 N3  (r) (j1) (by omega) (by omega) (rfl)
  exact J2 ((1073741824 - (p0).toInt).toNat) s₁ _ X0 e0 N0  (p0) (a1) (Int.le_refl _) (Or.inl rfl) (rfl)
theorem pn_1 : plainName "com/example/evenkeel/evenkeel/AggregateArrayForPinLaw" = true := by first | (simp [plainName, overriddenIn]; done) | decide +kernel
theorem pd_0 : parseMethodDescriptor "(II)I" = some ⟨[.int, .int], some .int⟩ := by decide +kernel
theorem ef_0 (m : MethodId) (p0 : Int32) (p1 : Int32) (p2 : Int32) (p3 : Int32) : entryFrame m #[(.int p0), (.int p1), (.int p2), (.int p3)] maxLocals = mkF m 0 #[.val (.int p0), .val (.int p1), .val (.int p2), .val (.int p3), .unset, .unset, .unset] [] := by first | (simp [entryFrame, mkF, argsToLocals, Value.category, maxLocals]; done) | rfl
def Q0 (Z : State) (p0 : Int32) (p1 : Int32) (p2 : Int32) (p3 : Int32) (h0 : Heap) (n0 : Nat) (v : Option Value) (h : Heap) (L : List Loc) : Prop := v = some (.int 1) ∧ Fr n0 L
set_option maxRecDepth 65536 in
set_option maxHeartbeats 40000000 in
theorem rm0 (l : Launch) (Z : State) (a0 : Array Value) (hw : ∀ d ∈ tables_1, d.before a0 Z = true) (ws : List Jvm.Cond) (p0 : Int32) (p1 : Int32) (p2 : Int32) (p3 : Int32) (h0 : Heap) (n0 : Nat) (Z0 : n0 ≤ h0.size) :
    MetFree l x (head1 (Jvm.Cond.code x code maxLocals ret :: ws) room_1) (fun a U => a = #[(.int p0), (.int p1), (.int p2), (.int p3)] ∧ Z.Warmed39 U.vm ∧ U.heap = h0) (fun _ _ _ _ _ => True) (fun _ U o U' => ∃ v L, o = .returned v ∧ Q0 Z p0 p1 p2 p3 h0 n0 v U'.heap L ∧ FrameEnd U o U' L (room_1).cells (room_1).slots) := by
  refine MetFree.of_bodySF (plainFor_of_name pn_1) hisR ?_
  intro p e s m args below meth c s₁ Bd hml0 hP hK
  obtain ⟨rfl, hZ, hh⟩ := hP
  have hx := Bd.exec
  have hby := Bd.bytes
  have hml : c.maxLocals = 7 := hml0
  have hown : s.vm.findClass "com/example/evenkeel/evenkeel/AggregateArrayForPinLaw" = some m.cls := findClass_of_methodNamed Bd.named
  have hnm := (name_of_methodNamed Bd.named Bd.method).1
  have hlk : meth.locks = false := Bd.notSynchronized
  have X0 : Stand p l e room_1 s m #[(.int p0), (.int p1), (.int p2), (.int p3)] below meth c s₁ [] 0 0 := Stand.of_body Bd
  have e0 : s₁.heap = h0 := by rw [← hh, Bd.state]; rfl
  have N0 := Fr.nil n0
  have hret := Bd.returns
  show own_Go p e below s (Q0 Z p0 p1 p2 p3 h0 n0) _ _ (s₁.setTop (entryFrame m #[(.int p0), (.int p1), (.int p2), (.int p3)] maxLocals))
  refine own_go (fun t k => castTop (ef_0 m p0 p1 p2 p3) k) ?_
  show own_Go p e below s _ _ _ (s₁.setTop (mkF m 0 #[.val (.int p0), .val (.int p1), .val (.int p2), .val (.int p3), .unset, .unset, .unset] []))
  refine own_go (fun t_ kt_ => XS.iconst X0.here hx rfl (hb hby at_0) kt_) ?_
  show own_Go p e below s _ _ _ (s₁.setTop (mkF m 1 #[.val (.int p0), .val (.int p1), .val (.int p2), .val (.int p3), .unset, .unset, .unset] [(.int (4 : Int32))]))
  refine own_go (fun t_ kt_ => XS.iloadN X0.here hx rfl (hb hby at_1) rfl kt_) ?_
  show own_Go p e below s _ _ _ (s₁.setTop (mkF m 2 #[.val (.int p0), .val (.int p1), .val (.int p2), .val (.int p3), .unset, .unset, .unset] [(.int p0), (.int (4 : Int32))]))
  refine own_go (fun t_ kt_ => X0.ldcInt hx hown (mvT hZ (hw _ (List.mem_of_getElem? (i := 0) rfl))) (g := (mkF m 2 #[.val (.int p0), .val (.int p1), .val (.int p2), .val (.int p3), .unset, .unset, .unset] [(.int p0), (.int (4 : Int32))])) rfl (hb hby at_2) _ kt_) ?_
  show own_Go p e below s _ _ _ (s₁.setTop (mkF m 4 #[.val (.int p0), .val (.int p1), .val (.int p2), .val (.int p3), .unset, .unset, .unset] [(.int (2147483647 : Int32)), (.int p0), (.int (4 : Int32))]))
  refine own_go (fun t_ kt_ => XS.iand X0.here hx rfl (hb hby at_4) rfl kt_) ?_
  show own_Go p e below s _ _ _ (s₁.setTop (mkF m 5 #[.val (.int p0), .val (.int p1), .val (.int p2), .val (.int p3), .unset, .unset, .unset] [(.int (p0 &&& (2147483647 : Int32))), (.int (4 : Int32))]))
  refine own_go (fun t_ kt_ => XS.bipush X0.here hx rfl (hb hby at_5) kt_) ?_
  show own_Go p e below s _ _ _ (s₁.setTop (mkF m 7 #[.val (.int p0), .val (.int p1), .val (.int p2), .val (.int p3), .unset, .unset, .unset] [(.int (28 : Int32)), (.int (p0 &&& (2147483647 : Int32))), (.int (4 : Int32))]))
  refine own_go (fun t_ kt_ => iremM X0 hx rfl (hb hby at_7) rfl (by decide) kt_) ?_
  show own_Go p e below s _ _ _ (s₁.setTop (mkF m 8 #[.val (.int p0), .val (.int p1), .val (.int p2), .val (.int p3), .unset, .unset, .unset] [(.int ((p0 &&& (2147483647 : Int32)) % (28 : Int32))), (.int (4 : Int32))]))
  refine own_go (fun t_ kt_ => XS.ishl X0.here hx rfl (hb hby at_8) rfl kt_) ?_
  show own_Go p e below s _ _ _ (s₁.setTop (mkF m 9 #[.val (.int p0), .val (.int p1), .val (.int p2), .val (.int p3), .unset, .unset, .unset] [(.int ((4 : Int32) <<< (((p0 &&& (2147483647 : Int32)) % (28 : Int32)) &&& 31)))]))
  refine own_go (fun t_ kt_ => XS.istore X0.here hx rfl (hb hby at_9) rfl (l' := #[.val (.int p0), .val (.int p1), .val (.int p2), .val (.int p3), .val (.int ((4 : Int32) <<< (((p0 &&& (2147483647 : Int32)) % (28 : Int32)) &&& 31))), .unset, .unset]) rfl kt_) ?_
  show own_Go p e below s _ _ _ (s₁.setTop (mkF m 11 #[.val (.int p0), .val (.int p1), .val (.int p2), .val (.int p3), .val (.int ((4 : Int32) <<< (((p0 &&& (2147483647 : Int32)) % (28 : Int32)) &&& 31))), .unset, .unset] []))
  obtain ⟨ln, hln⟩ : ∃ z, z = ((4 : Int32) <<< (((p0 &&& (2147483647 : Int32)) % (28 : Int32)) &&& 31)) := ⟨_, rfl⟩
  rw [← hln]
  show own_Go p e below s _ _ _ (s₁.setTop (mkF m 11 #[.val (.int p0), .val (.int p1), .val (.int p2), .val (.int p3), .val (.int ln), .unset, .unset] []))
  obtain ⟨lp1, lp2, lp3⟩ : own_P ln.toInt ∧ 4 ≤ ln.toInt ∧ ln.toInt ≤ 536870912 := by rw [hln]; exact own_lenP p0
  refine own_go (fun t_ kt_ => XS.iloadN X0.here hx rfl (hb hby at_11) rfl kt_) ?_
  show own_Go p e below s _ _ _ (s₁.setTop (mkF m 12 #[.val (.int p0), .val (.int p1), .val (.int p2), .val (.int p3), .val (.int ln), .unset, .unset] [(.int p3)]))
  refine own_go (fun t_ kt_ => XS.iconst X0.here hx rfl (hb hby at_12) kt_) ?_
  show own_Go p e below s _ _ _ (s₁.setTop (mkF m 13 #[.val (.int p0), .val (.int p1), .val (.int p2), .val (.int p3), .val (.int ln), .unset, .unset] [(.int (1 : Int32)), (.int p3)]))
  refine own_go (fun t_ kt_ => XS.iand X0.here hx rfl (hb hby at_13) rfl kt_) ?_
  show own_Go p e below s _ _ _ (s₁.setTop (mkF m 14 #[.val (.int p0), .val (.int p1), .val (.int p2), .val (.int p3), .val (.int ln), .unset, .unset] [(.int (p3 &&& (1 : Int32)))]))
  have J60 : ∀ (T1 : State) (locs1 : List Loc) (X1 : Stand p l e room_1 s m #[(.int p0), (.int p1), (.int p2), (.int p3)] below meth c T1 locs1 0 0) (e1 : T1.heap = h0) (N1 : Fr n0 locs1) (sz : Int32) (s6 : Slot) (hsz : 0 ≤ sz.toInt ∧ sz.toInt ≤ 1073741824) (h6 : s6 = .unset ∨ ∃ w, s6 = .val w ∧ w.category = 1), own_Go p e below s (Q0 Z p0 p1 p2 p3 h0 n0) (room_1).cells (room_1).slots (T1.setTop (mkF m 60 #[.val (.int p0), .val (.int p1), .val (.int p2), .val (.int p3), .val (.int ln), .val (.int sz), s6] [])) := by
    intro T1 locs1 X1 e1 N1 sz s6 hsz h6
    refine own_go (fun t_ kt_ => XS.iload X1.here hx rfl (hb hby at_60) rfl kt_) ?_
    show own_Go p e below s _ _ _ (T1.setTop (mkF m 62 #[.val (.int p0), .val (.int p1), .val (.int p2), .val (.int p3), .val (.int ln), .val (.int sz), s6] [(.int ln)]))
    refine own_go (fun t_ kt_ => XS.iload X1.here hx rfl (hb hby at_62) rfl kt_) ?_
    show own_Go p e below s _ _ _ (T1.setTop (mkF m 64 #[.val (.int p0), .val (.int p1), .val (.int p2), .val (.int p3), .val (.int ln), .val (.int sz), s6] [(.int sz), (.int ln)]))
    obtain ⟨_, _, ⟨T2, L2, k2, n2⟩, -, X2, ⟨Lc2, hQ2, l2, y2, z2⟩, st2⟩ := Jvm.LawKit.callS X1 hx (y := (⟨"com/example/evenkeel/evenkeel/Aggregate", "arrayFor", "(II)I"⟩ : MethodName)) hown (mvT hZ (hw _ (List.mem_of_getElem? (i := 9) rfl))) (mvT hZ (hw _ (List.mem_of_getElem? (i := 10) rfl))) (mvT hZ (hw _ (List.mem_of_getElem? (i := 11) rfl))) (mvT hZ (hw _ (List.mem_of_getElem? (i := 12) rfl))) (by decide) (backOf (W := 0) (rm3 l Z a0 hw [] (ln) (sz) h0 n0 Z0 lp1 ⟨lp2, lp3⟩ hsz) hZ (hw _ (List.mem_of_getElem? (i := 12) rfl)) (hw _ (List.mem_of_getElem? (i := 11) rfl)) (by decide) (by decide)) (g := (mkF m 64 #[.val (.int p0), .val (.int p1), .val (.int p2), .val (.int p3), .val (.int ln), .val (.int sz), s6] [(.int sz), (.int ln)])) rfl (by rw [hml]; rfl) (argsL := [(.int ln), (.int sz)]) (rest := []) (lenOf pd_0 rfl) rfl (by show 2 * 0 + _ ≤ _; exact Nat.le_of_eq rfl) (hb hby at_64) (fun _ _ => ⟨rfl, e1, (by decide : 0 + 0 ≤ _), (by decide : 0 + 0 ≤ _)⟩)
    dsimp only [Pt.U, Pt.locs, Pt.cells, Pt.slots] at X2 l2 y2 z2 st2 hQ2
    subst l2 y2 z2
    obtain ⟨r, rfl, AF, Nq2, eh2⟩ := hQ2
    have N2 := Fr.app N1 Nq2
    refine own_go (fun t_ kt_ => st2 _ kt_) ?_
    have e2 : T2.heap = h0 := eh2
    obtain ⟨AF1, AF2, AF3, AF4⟩ := AF
    have own_r0 := own_pr AF1
    have own_r2 := own_d2 (r := r) (by omega)
    have own_r4 := own_d4 (r := r) (by omega)
    show own_Go p e below s _ _ _ (T2.setTop (mkF m 67 #[.val (.int p0), .val (.int p1), .val (.int p2), .val (.int p3), .val (.int ln), .val (.int sz), s6] [(.int r)]))
    refine own_go (fun t_ kt_ => XS.istore X2.here hx rfl (hb hby at_67) rfl (l' := #[.val (.int p0), .val (.int p1), .val (.int p2), .val (.int p3), .val (.int ln), .val (.int sz), .val (.int r)]) (XS.store1 rfl h6 rfl) kt_) ?_
    show own_Go p e below s _ _ _ (T2.setTop (mkF m 69 #[.val (.int p0), .val (.int p1), .val (.int p2), .val (.int p3), .val (.int ln), .val (.int sz), .val (.int r)] []))
    refine own_go (fun t_ kt_ => XS.iload X2.here hx rfl (hb hby at_69) rfl kt_) ?_
    show own_Go p e below s _ _ _ (T2.setTop (mkF m 71 #[.val (.int p0), .val (.int p1), .val (.int p2), .val (.int p3), .val (.int ln), .val (.int sz), .val (.int r)] [(.int r)]))
    refine own_go (fun t_ kt_ => XS.iconst X2.here hx rfl (hb hby at_71) kt_) ?_
    show own_Go p e below s _ _ _ (T2.setTop (mkF m 72 #[.val (.int p0), .val (.int p1), .val (.int p2), .val (.int p3), .val (.int ln), .val (.int sz), .val (.int r)] [(.int (4 : Int32)), (.int r)]))
    refine own_go (fun t_ kt_ => XS.icmpNo X2.here hx rfl (hb hby at_72) rfl (flt (own_nlt (show (4 : Int32).toInt ≤ r.toInt from by have := own_l4; omega))).1 kt_) ?_
    show own_Go p e below s _ _ _ (T2.setTop (mkF m 75 #[.val (.int p0), .val (.int p1), .val (.int p2), .val (.int p3), .val (.int ln), .val (.int sz), .val (.int r)] []))
    refine own_go (fun t_ kt_ => XS.iload X2.here hx rfl (hb hby at_75) rfl kt_) ?_
    show own_Go p e below s _ _ _ (T2.setTop (mkF m 77 #[.val (.int p0), .val (.int p1), .val (.int p2), .val (.int p3), .val (.int ln), .val (.int sz), .val (.int r)] [(.int r)]))
    refine own_go (fun t_ kt_ => XS.iload X2.here hx rfl (hb hby at_77) rfl kt_) ?_
    show own_Go p e below s _ _ _ (T2.setTop (mkF m 79 #[.val (.int p0), .val (.int p1), .val (.int p2), .val (.int p3), .val (.int ln), .val (.int sz), .val (.int r)] [(.int r), (.int r)]))
    refine own_go (fun t_ kt_ => XS.iconst X2.here hx rfl (hb hby at_79) kt_) ?_
    show own_Go p e below s _ _ _ (T2.setTop (mkF m 80 #[.val (.int p0), .val (.int p1), .val (.int p2), .val (.int p3), .val (.int ln), .val (.int sz), .val (.int r)] [(.int (1 : Int32)), (.int r), (.int r)]))
    refine own_go (fun t_ kt_ => XS.isub X2.here hx rfl (hb hby at_80) rfl kt_) ?_
    show own_Go p e below s _ _ _ (T2.setTop (mkF m 81 #[.val (.int p0), .val (.int p1), .val (.int p2), .val (.int p3), .val (.int ln), .val (.int sz), .val (.int r)] [(.int (r - (1 : Int32))), (.int r)]))
    refine own_go (fun t_ kt_ => XS.iand X2.here hx rfl (hb hby at_81) rfl kt_) ?_
    show own_Go p e below s _ _ _ (T2.setTop (mkF m 82 #[.val (.int p0), .val (.int p1), .val (.int p2), .val (.int p3), .val (.int ln), .val (.int sz), .val (.int r)] [(.int (r &&& (r - (1 : Int32))))]))
    refine own_go (fun t_ kt_ => XS.ifYes X2.here hx rfl (pc0 := 82) (pc' := 87) rfl (hb hby at_82) rfl ((if0 _ _).trans (teq (own_pa AF1)).1) (by decide) (by decide) kt_) ?_
    show own_Go p e below s _ _ _ (T2.setTop (mkF m 87 #[.val (.int p0), .val (.int p1), .val (.int p2), .val (.int p3), .val (.int ln), .val (.int sz), .val (.int r)] []))
    refine own_go (fun t_ kt_ => XS.iload X2.here hx rfl (hb hby at_87) rfl kt_) ?_
    show own_Go p e below s _ _ _ (T2.setTop (mkF m 89 #[.val (.int p0), .val (.int p1), .val (.int p2), .val (.int p3), .val (.int ln), .val (.int sz), .val (.int r)] [(.int sz)]))
    refine own_go (fun t_ kt_ => XS.iload X2.here hx rfl (hb hby at_89) rfl kt_) ?_
    show own_Go p e below s _ _ _ (T2.setTop (mkF m 91 #[.val (.int p0), .val (.int p1), .val (.int p2), .val (.int p3), .val (.int ln), .val (.int sz), .val (.int r)] [(.int ln), (.int sz)]))
    by_cases hc91 : ln < sz
    · skip
      have hi91 : ln.toInt < sz.toInt := Int32.lt_iff_toInt_lt.mp hc91
      refine own_go (fun t_ kt_ => XS.icmpNo X2.here hx rfl (hb hby at_91) rfl (tlt hc91).2.2.2 kt_) ?_
      show own_Go p e below s _ _ _ (T2.setTop (mkF m 94 #[.val (.int p0), .val (.int p1), .val (.int p2), .val (.int p3), .val (.int ln), .val (.int sz), .val (.int r)] []))
      refine own_go (fun t_ kt_ => XS.iload X2.here hx rfl (hb hby at_94) rfl kt_) ?_
      show own_Go p e below s _ _ _ (T2.setTop (mkF m 96 #[.val (.int p0), .val (.int p1), .val (.int p2), .val (.int p3), .val (.int ln), .val (.int sz), .val (.int r)] [(.int r)]))
      refine own_go (fun t_ kt_ => XS.iload X2.here hx rfl (hb hby at_96) rfl kt_) ?_
      show own_Go p e below s _ _ _ (T2.setTop (mkF m 98 #[.val (.int p0), .val (.int p1), .val (.int p2), .val (.int p3), .val (.int ln), .val (.int sz), .val (.int r)] [(.int sz), (.int r)]))
      refine own_go (fun t_ kt_ => XS.icmpNo X2.here hx rfl (hb hby at_98) rfl (flt (own_nlt (by omega))).1 kt_) ?_
      show own_Go p e below s _ _ _ (T2.setTop (mkF m 101 #[.val (.int p0), .val (.int p1), .val (.int p2), .val (.int p3), .val (.int ln), .val (.int sz), .val (.int r)] []))
      refine own_go (fun t_ kt_ => XS.iload X2.here hx rfl (hb hby at_101) rfl kt_) ?_
      show own_Go p e below s _ _ _ (T2.setTop (mkF m 103 #[.val (.int p0), .val (.int p1), .val (.int p2), .val (.int p3), .val (.int ln), .val (.int sz), .val (.int r)] [(.int r)]))
      refine own_go (fun t_ kt_ => XS.iconst X2.here hx rfl (hb hby at_103) kt_) ?_
      show own_Go p e below s _ _ _ (T2.setTop (mkF m 104 #[.val (.int p0), .val (.int p1), .val (.int p2), .val (.int p3), .val (.int ln), .val (.int sz), .val (.int r)] [(.int (2 : Int32)), (.int r)]))
      refine own_go (fun t_ kt_ => XS.idiv X2.here hx rfl (hb hby at_104) rfl (by decide) kt_) ?_
      show own_Go p e below s _ _ _ (T2.setTop (mkF m 105 #[.val (.int p0), .val (.int p1), .val (.int p2), .val (.int p3), .val (.int ln), .val (.int sz), .val (.int r)] [(.int (r / (2 : Int32)))]))
      refine own_go (fun t_ kt_ => XS.iload X2.here hx rfl (hb hby at_105) rfl kt_) ?_
      show own_Go p e below s _ _ _ (T2.setTop (mkF m 107 #[.val (.int p0), .val (.int p1), .val (.int p2), .val (.int p3), .val (.int ln), .val (.int sz), .val (.int r)] [(.int sz), (.int (r / (2 : Int32)))]))
      refine own_go (fun t_ kt_ => XS.icmpNo X2.here hx rfl (hb hby at_107) rfl (tlt (own_lt (by omega))).2.1 kt_) ?_
      show own_Go p e below s _ _ _ (T2.setTop (mkF m 110 #[.val (.int p0), .val (.int p1), .val (.int p2), .val (.int p3), .val (.int ln), .val (.int sz), .val (.int r)] []))
      refine own_go (fun t_ kt_ => XS.iconst X2.here hx rfl (hb hby at_110) kt_) ?_
      show own_Go p e below s _ _ _ (T2.setTop (mkF m 111 #[.val (.int p0), .val (.int p1), .val (.int p2), .val (.int p3), .val (.int ln), .val (.int sz), .val (.int r)] [(.int (1 : Int32))]))
      refine own_go (fun t_ kt_ => XS.goto X2.here hx rfl (pc0 := 111) (pc' := 115) rfl (hb hby at_111) (by decide) (by decide) kt_) ?_
      show own_Go p e below s _ _ _ (T2.setTop (mkF m 115 #[.val (.int p0), .val (.int p1), .val (.int p2), .val (.int p3), .val (.int ln), .val (.int sz), .val (.int r)] [(.int (1 : Int32))]))
      refine own_ret X2 (v := some (.int (1 : Int32))) (fun h => by rw [hret] at h; cases h) hlk ?_ (by decide) (by decide) (fun fs hr => retN X2 hx (t := .boolean) hret (by simp) (hb hby at_115) hr)
      show Q0 Z p0 p1 p2 p3 h0 n0 (some (.int (1 : Int32))) T2.heap _
      rw [e2]
      exact ⟨rfl, N2⟩
    · skip
      have hi91 : ¬ ln.toInt < sz.toInt := fun q => hc91 (Int32.lt_iff_toInt_lt.mpr q)
      refine own_go (fun t_ kt_ => XS.icmpYes X2.here hx rfl (pc0 := 91) (pc' := 116) rfl (hb hby at_91) rfl (flt hc91).2.2.2 (by decide) (by decide) kt_) ?_
      show own_Go p e below s _ _ _ (T2.setTop (mkF m 116 #[.val (.int p0), .val (.int p1), .val (.int p2), .val (.int p3), .val (.int ln), .val (.int sz), .val (.int r)] []))
      refine own_go (fun t_ kt_ => XS.iload X2.here hx rfl (hb hby at_116) rfl kt_) ?_
      show own_Go p e below s _ _ _ (T2.setTop (mkF m 118 #[.val (.int p0), .val (.int p1), .val (.int p2), .val (.int p3), .val (.int ln), .val (.int sz), .val (.int r)] [(.int r)]))
      refine own_go (fun t_ kt_ => XS.iload X2.here hx rfl (hb hby at_118) rfl kt_) ?_
      show own_Go p e below s _ _ _ (T2.setTop (mkF m 120 #[.val (.int p0), .val (.int p1), .val (.int p2), .val (.int p3), .val (.int ln), .val (.int sz), .val (.int r)] [(.int ln), (.int r)]))
      refine own_go (fun t_ kt_ => XS.icmpNo X2.here hx rfl (hb hby at_120) rfl (flt (own_nlt (by omega))).2.2.1 kt_) ?_
      show own_Go p e below s _ _ _ (T2.setTop (mkF m 123 #[.val (.int p0), .val (.int p1), .val (.int p2), .val (.int p3), .val (.int ln), .val (.int sz), .val (.int r)] []))
      refine own_go (fun t_ kt_ => XS.iload X2.here hx rfl (hb hby at_123) rfl kt_) ?_
      show own_Go p e below s _ _ _ (T2.setTop (mkF m 125 #[.val (.int p0), .val (.int p1), .val (.int p2), .val (.int p3), .val (.int ln), .val (.int sz), .val (.int r)] [(.int r)]))
      refine own_go (fun t_ kt_ => XS.iconst X2.here hx rfl (hb hby at_125) kt_) ?_
      show own_Go p e below s _ _ _ (T2.setTop (mkF m 126 #[.val (.int p0), .val (.int p1), .val (.int p2), .val (.int p3), .val (.int ln), .val (.int sz), .val (.int r)] [(.int (4 : Int32)), (.int r)]))
      by_cases hc126 : r = (4 : Int32)
      · skip
        have hi126 : r.toInt = 4 := congrArg Int32.toInt hc126
        refine own_go (fun t_ kt_ => XS.icmpYes X2.here hx rfl (pc0 := 126) (pc' := 138) rfl (hb hby at_126) rfl (teq hc126).1 (by decide) (by decide) kt_) ?_
        show own_Go p e below s _ _ _ (T2.setTop (mkF m 138 #[.val (.int p0), .val (.int p1), .val (.int p2), .val (.int p3), .val (.int ln), .val (.int sz), .val (.int r)] []))
        refine own_go (fun t_ kt_ => XS.iload X2.here hx rfl (hb hby at_138) rfl kt_) ?_
        show own_Go p e below s _ _ _ (T2.setTop (mkF m 140 #[.val (.int p0), .val (.int p1), .val (.int p2), .val (.int p3), .val (.int ln), .val (.int sz), .val (.int r)] [(.int r)]))
        refine own_go (fun t_ kt_ => XS.iload X2.here hx rfl (hb hby at_140) rfl kt_) ?_
        show own_Go p e below s _ _ _ (T2.setTop (mkF m 142 #[.val (.int p0), .val (.int p1), .val (.int p2), .val (.int p3), .val (.int ln), .val (.int sz), .val (.int r)] [(.int ln), (.int r)]))
        by_cases hc142 : r = ln
        · skip
          have hi142 : r.toInt = ln.toInt := congrArg Int32.toInt hc142
          refine own_go (fun t_ kt_ => XS.icmpYes X2.here hx rfl (pc0 := 142) (pc' := 154) rfl (hb hby at_142) rfl (teq hc142).1 (by decide) (by decide) kt_) ?_
          show own_Go p e below s _ _ _ (T2.setTop (mkF m 154 #[.val (.int p0), .val (.int p1), .val (.int p2), .val (.int p3), .val (.int ln), .val (.int sz), .val (.int r)] []))
          refine own_go (fun t_ kt_ => XS.iconst X2.here hx rfl (hb hby at_154) kt_) ?_
          show own_Go p e below s _ _ _ (T2.setTop (mkF m 155 #[.val (.int p0), .val (.int p1), .val (.int p2), .val (.int p3), .val (.int ln), .val (.int sz), .val (.int r)] [(.int (1 : Int32))]))
          refine own_go (fun t_ kt_ => XS.goto X2.here hx rfl (pc0 := 155) (pc' := 159) rfl (hb hby at_155) (by decide) (by decide) kt_) ?_
          show own_Go p e below s _ _ _ (T2.setTop (mkF m 159 #[.val (.int p0), .val (.int p1), .val (.int p2), .val (.int p3), .val (.int ln), .val (.int sz), .val (.int r)] [(.int (1 : Int32))]))
          refine own_ret X2 (v := some (.int (1 : Int32))) (fun h => by rw [hret] at h; cases h) hlk ?_ (by decide) (by decide) (fun fs hr => retN X2 hx (t := .boolean) hret (by simp) (hb hby at_159) hr)
          show Q0 Z p0 p1 p2 p3 h0 n0 (some (.int (1 : Int32))) T2.heap _
          rw [e2]
          exact ⟨rfl, N2⟩
        · skip
          have hi142 : ¬ r.toInt = ln.toInt := fun q => hc142 (Int32.toInt_inj.mp q)
          refine own_go (fun t_ kt_ => XS.icmpNo X2.here hx rfl (hb hby at_142) rfl (feq hc142).1 kt_) ?_
          show own_Go p e below s _ _ _ (T2.setTop (mkF m 145 #[.val (.int p0), .val (.int p1), .val (.int p2), .val (.int p3), .val (.int ln), .val (.int sz), .val (.int r)] []))
          refine own_go (fun t_ kt_ => XS.iload X2.here hx rfl (hb hby at_145) rfl kt_) ?_
          show own_Go p e below s _ _ _ (T2.setTop (mkF m 147 #[.val (.int p0), .val (.int p1), .val (.int p2), .val (.int p3), .val (.int ln), .val (.int sz), .val (.int r)] [(.int sz)]))
          refine own_go (fun t_ kt_ => XS.iload X2.here hx rfl (hb hby at_147) rfl kt_) ?_
          show own_Go p e below s _ _ _ (T2.setTop (mkF m 149 #[.val (.int p0), .val (.int p1), .val (.int p2), .val (.int p3), .val (.int ln), .val (.int sz), .val (.int r)] [(.int r), (.int sz)]))
          refine own_go (fun t_ kt_ => XS.iconst X2.here hx rfl (hb hby at_149) kt_) ?_
          show own_Go p e below s _ _ _ (T2.setTop (mkF m 150 #[.val (.int p0), .val (.int p1), .val (.int p2), .val (.int p3), .val (.int ln), .val (.int sz), .val (.int r)] [(.int (2 : Int32)), (.int r), (.int sz)]))
          refine own_go (fun t_ kt_ => XS.idiv X2.here hx rfl (hb hby at_150) rfl (by decide) kt_) ?_
          show own_Go p e below s _ _ _ (T2.setTop (mkF m 151 #[.val (.int p0), .val (.int p1), .val (.int p2), .val (.int p3), .val (.int ln), .val (.int sz), .val (.int r)] [(.int (r / (2 : Int32))), (.int sz)]))
          refine own_go (fun t_ kt_ => XS.icmpNo X2.here hx rfl (hb hby at_151) rfl (flt (own_nlt (by omega))).2.2.1 kt_) ?_
          show own_Go p e below s _ _ _ (T2.setTop (mkF m 154 #[.val (.int p0), .val (.int p1), .val (.int p2), .val (.int p3), .val (.int ln), .val (.int sz), .val (.int r)] []))
          refine own_go (fun t_ kt_ => XS.iconst X2.here hx rfl (hb hby at_154) kt_) ?_
          show own_Go p e below s _ _ _ (T2.setTop (mkF m 155 #[.val (.int p0), .val (.int p1), .val (.int p2), .val (.int p3), .val (.int ln), .val (.int sz), .val (.int r)] [(.int (1 : Int32))]))
          refine own_go (fun t_ kt_ => XS.goto X2.here hx rfl (pc0 := 155) (pc' := 159) rfl (hb hby at_155) (by decide) (by decide) kt_) ?_
          show own_Go p e below s _ _ _ (T2.setTop (mkF m 159 #[.val (.int p0), .val (.int p1), .val (.int p2), .val (.int p3), .val (.int ln), .val (.int sz), .val (.int r)] [(.int (1 : Int32))]))
          refine own_ret X2 (v := some (.int (1 : Int32))) (fun h => by rw [hret] at h; cases h) hlk ?_ (by decide) (by decide) (fun fs hr => retN X2 hx (t := .boolean) hret (by simp) (hb hby at_159) hr)
          show Q0 Z p0 p1 p2 p3 h0 n0 (some (.int (1 : Int32))) T2.heap _
          rw [e2]
          exact ⟨rfl, N2⟩
      · skip
        have hi126 : ¬ r.toInt = 4 := fun q => hc126 (Int32.toInt_inj.mp q)
        refine own_go (fun t_ kt_ => XS.icmpNo X2.here hx rfl (hb hby at_126) rfl (feq hc126).1 kt_) ?_
        show own_Go p e below s _ _ _ (T2.setTop (mkF m 129 #[.val (.int p0), .val (.int p1), .val (.int p2), .val (.int p3), .val (.int ln), .val (.int sz), .val (.int r)] []))
        refine own_go (fun t_ kt_ => XS.iload X2.here hx rfl (hb hby at_129) rfl kt_) ?_
        show own_Go p e below s _ _ _ (T2.setTop (mkF m 131 #[.val (.int p0), .val (.int p1), .val (.int p2), .val (.int p3), .val (.int ln), .val (.int sz), .val (.int r)] [(.int sz)]))
        refine own_go (fun t_ kt_ => XS.iload X2.here hx rfl (hb hby at_131) rfl kt_) ?_
        show own_Go p e below s _ _ _ (T2.setTop (mkF m 133 #[.val (.int p0), .val (.int p1), .val (.int p2), .val (.int p3), .val (.int ln), .val (.int sz), .val (.int r)] [(.int r), (.int sz)]))
        refine own_go (fun t_ kt_ => XS.iconst X2.here hx rfl (hb hby at_133) kt_) ?_
        show own_Go p e below s _ _ _ (T2.setTop (mkF m 134 #[.val (.int p0), .val (.int p1), .val (.int p2), .val (.int p3), .val (.int ln), .val (.int sz), .val (.int r)] [(.int (4 : Int32)), (.int r), (.int sz)]))
        refine own_go (fun t_ kt_ => XS.idiv X2.here hx rfl (hb hby at_134) rfl (by decide) kt_) ?_
        show own_Go p e below s _ _ _ (T2.setTop (mkF m 135 #[.val (.int p0), .val (.int p1), .val (.int p2), .val (.int p3), .val (.int ln), .val (.int sz), .val (.int r)] [(.int (r / (4 : Int32))), (.int sz)]))
        refine own_go (fun t_ kt_ => XS.icmpNo X2.here hx rfl (hb hby at_135) rfl (tlt (own_lt (by omega))).2.2.2 kt_) ?_
        show own_Go p e below s _ _ _ (T2.setTop (mkF m 138 #[.val (.int p0), .val (.int p1), .val (.int p2), .val (.int p3), .val (.int ln), .val (.int sz), .val (.int r)] []))
        refine own_go (fun t_ kt_ => XS.iload X2.here hx rfl (hb hby at_138) rfl kt_) ?_
        show own_Go p e below s _ _ _ (T2.setTop (mkF m 140 #[.val (.int p0), .val (.int p1), .val (.int p2), .val (.int p3), .val (.int ln), .val (.int sz), .val (.int r)] [(.int r)]))
        refine own_go (fun t_ kt_ => XS.iload X2.here hx rfl (hb hby at_140) rfl kt_) ?_
        show own_Go p e below s _ _ _ (T2.setTop (mkF m 142 #[.val (.int p0), .val (.int p1), .val (.int p2), .val (.int p3), .val (.int ln), .val (.int sz), .val (.int r)] [(.int ln), (.int r)]))
        by_cases hc142 : r = ln
        · skip
          have hi142 : r.toInt = ln.toInt := congrArg Int32.toInt hc142
          refine own_go (fun t_ kt_ => XS.icmpYes X2.here hx rfl (pc0 := 142) (pc' := 154) rfl (hb hby at_142) rfl (teq hc142).1 (by decide) (by decide) kt_) ?_
          show own_Go p e below s _ _ _ (T2.setTop (mkF m 154 #[.val (.int p0), .val (.int p1), .val (.int p2), .val (.int p3), .val (.int ln), .val (.int sz), .val (.int r)] []))
          refine own_go (fun t_ kt_ => XS.iconst X2.here hx rfl (hb hby at_154) kt_) ?_
          show own_Go p e below s _ _ _ (T2.setTop (mkF m 155 #[.val (.int p0), .val (.int p1), .val (.int p2), .val (.int p3), .val (.int ln), .val (.int sz), .val (.int r)] [(.int (1 : Int32))]))
          refine own_go (fun t_ kt_ => XS.goto X2.here hx rfl (pc0 := 155) (pc' := 159) rfl (hb hby at_155) (by decide) (by decide) kt_) ?_
          show own_Go p e below s _ _ _ (T2.setTop (mkF m 159 #[.val (.int p0), .val (.int p1), .val (.int p2), .val (.int p3), .val (.int ln), .val (.int sz), .val (.int r)] [(.int (1 : Int32))]))
          refine own_ret X2 (v := some (.int (1 : Int32))) (fun h => by rw [hret] at h; cases h) hlk ?_ (by decide) (by decide) (fun fs hr => retN X2 hx (t := .boolean) hret (by simp) (hb hby at_159) hr)
          show Q0 Z p0 p1 p2 p3 h0 n0 (some (.int (1 : Int32))) T2.heap _
          rw [e2]
          exact ⟨rfl, N2⟩
        · skip
          have hi142 : ¬ r.toInt = ln.toInt := fun q => hc142 (Int32.toInt_inj.mp q)
          refine own_go (fun t_ kt_ => XS.icmpNo X2.here hx rfl (hb hby at_142) rfl (feq hc142).1 kt_) ?_
          show own_Go p e below s _ _ _ (T2.setTop (mkF m 145 #[.val (.int p0), .val (.int p1), .val (.int p2), .val (.int p3), .val (.int ln), .val (.int sz), .val (.int r)] []))
          refine own_go (fun t_ kt_ => XS.iload X2.here hx rfl (hb hby at_145) rfl kt_) ?_
          show own_Go p e below s _ _ _ (T2.setTop (mkF m 147 #[.val (.int p0), .val (.int p1), .val (.int p2), .val (.int p3), .val (.int ln), .val (.int sz), .val (.int r)] [(.int sz)]))
          refine own_go (fun t_ kt_ => XS.iload X2.here hx rfl (hb hby at_147) rfl kt_) ?_
          show own_Go p e below s _ _ _ (T2.setTop (mkF m 149 #[.val (.int p0), .val (.int p1), .val (.int p2), .val (.int p3), .val (.int ln), .val (.int sz), .val (.int r)] [(.int r), (.int sz)]))
          refine own_go (fun t_ kt_ => XS.iconst X2.here hx rfl (hb hby at_149) kt_) ?_
          show own_Go p e below s _ _ _ (T2.setTop (mkF m 150 #[.val (.int p0), .val (.int p1), .val (.int p2), .val (.int p3), .val (.int ln), .val (.int sz), .val (.int r)] [(.int (2 : Int32)), (.int r), (.int sz)]))
          refine own_go (fun t_ kt_ => XS.idiv X2.here hx rfl (hb hby at_150) rfl (by decide) kt_) ?_
          show own_Go p e below s _ _ _ (T2.setTop (mkF m 151 #[.val (.int p0), .val (.int p1), .val (.int p2), .val (.int p3), .val (.int ln), .val (.int sz), .val (.int r)] [(.int (r / (2 : Int32))), (.int sz)]))
          refine own_go (fun t_ kt_ => XS.icmpNo X2.here hx rfl (hb hby at_151) rfl (flt (own_nlt (by omega))).2.2.1 kt_) ?_
          show own_Go p e below s _ _ _ (T2.setTop (mkF m 154 #[.val (.int p0), .val (.int p1), .val (.int p2), .val (.int p3), .val (.int ln), .val (.int sz), .val (.int r)] []))
          refine own_go (fun t_ kt_ => XS.iconst X2.here hx rfl (hb hby at_154) kt_) ?_
          show own_Go p e below s _ _ _ (T2.setTop (mkF m 155 #[.val (.int p0), .val (.int p1), .val (.int p2), .val (.int p3), .val (.int ln), .val (.int sz), .val (.int r)] [(.int (1 : Int32))]))
          refine own_go (fun t_ kt_ => XS.goto X2.here hx rfl (pc0 := 155) (pc' := 159) rfl (hb hby at_155) (by decide) (by decide) kt_) ?_
          show own_Go p e below s _ _ _ (T2.setTop (mkF m 159 #[.val (.int p0), .val (.int p1), .val (.int p2), .val (.int p3), .val (.int ln), .val (.int sz), .val (.int r)] [(.int (1 : Int32))]))
          refine own_ret X2 (v := some (.int (1 : Int32))) (fun h => by rw [hret] at h; cases h) hlk ?_ (by decide) (by decide) (fun fs hr => retN X2 hx (t := .boolean) hret (by simp) (hb hby at_159) hr)
          show Q0 Z p0 p1 p2 p3 h0 n0 (some (.int (1 : Int32))) T2.heap _
          rw [e2]
          exact ⟨rfl, N2⟩
  by_cases hc14 : (p3 &&& (1 : Int32)) = (0 : Int32)
  · skip
    have hi14 : ((p3 &&& (1 : Int32))).toInt = 0 := congrArg Int32.toInt hc14
    refine own_go (fun t_ kt_ => XS.ifNo X0.here hx rfl (hb hby at_14) rfl ((if0 _ _).trans (teq hc14).2) kt_) ?_
    show own_Go p e below s _ _ _ (s₁.setTop (mkF m 17 #[.val (.int p0), .val (.int p1), .val (.int p2), .val (.int p3), .val (.int ln), .unset, .unset] []))
    refine own_go (fun t_ kt_ => XS.iloadN X0.here hx rfl (hb hby at_17) rfl kt_) ?_
    show own_Go p e below s _ _ _ (s₁.setTop (mkF m 18 #[.val (.int p0), .val (.int p1), .val (.int p2), .val (.int p3), .val (.int ln), .unset, .unset] [(.int p1)]))
    refine own_go (fun t_ kt_ => X0.ldcInt hx hown (mvT hZ (hw _ (List.mem_of_getElem? (i := 0) rfl))) (g := (mkF m 18 #[.val (.int p0), .val (.int p1), .val (.int p2), .val (.int p3), .val (.int ln), .unset, .unset] [(.int p1)])) rfl (hb hby at_18) _ kt_) ?_
    show own_Go p e below s _ _ _ (s₁.setTop (mkF m 20 #[.val (.int p0), .val (.int p1), .val (.int p2), .val (.int p3), .val (.int ln), .unset, .unset] [(.int (2147483647 : Int32)), (.int p1)]))
    refine own_go (fun t_ kt_ => XS.iand X0.here hx rfl (hb hby at_20) rfl kt_) ?_
    show own_Go p e below s _ _ _ (s₁.setTop (mkF m 21 #[.val (.int p0), .val (.int p1), .val (.int p2), .val (.int p3), .val (.int ln), .unset, .unset] [(.int (p1 &&& (2147483647 : Int32)))]))
    refine own_go (fun t_ kt_ => X0.ldcInt hx hown (mvT hZ (hw _ (List.mem_of_getElem? (i := 13) rfl))) (g := (mkF m 21 #[.val (.int p0), .val (.int p1), .val (.int p2), .val (.int p3), .val (.int ln), .unset, .unset] [(.int (p1 &&& (2147483647 : Int32)))])) rfl (hb hby at_21) _ kt_) ?_
    show own_Go p e below s _ _ _ (s₁.setTop (mkF m 23 #[.val (.int p0), .val (.int p1), .val (.int p2), .val (.int p3), .val (.int ln), .unset, .unset] [(.int (1073741825 : Int32)), (.int (p1 &&& (2147483647 : Int32)))]))
    refine own_go (fun t_ kt_ => iremM X0 hx rfl (hb hby at_23) rfl (by decide) kt_) ?_
    show own_Go p e below s _ _ _ (s₁.setTop (mkF m 24 #[.val (.int p0), .val (.int p1), .val (.int p2), .val (.int p3), .val (.int ln), .unset, .unset] [(.int ((p1 &&& (2147483647 : Int32)) % (1073741825 : Int32)))]))
    refine own_go (fun t_ kt_ => XS.istore X0.here hx rfl (hb hby at_24) rfl (l' := #[.val (.int p0), .val (.int p1), .val (.int p2), .val (.int p3), .val (.int ln), .val (.int ((p1 &&& (2147483647 : Int32)) % (1073741825 : Int32))), .unset]) rfl kt_) ?_
    show own_Go p e below s _ _ _ (s₁.setTop (mkF m 26 #[.val (.int p0), .val (.int p1), .val (.int p2), .val (.int p3), .val (.int ln), .val (.int ((p1 &&& (2147483647 : Int32)) % (1073741825 : Int32))), .unset] []))
    refine own_go (fun t_ kt_ => XS.goto X0.here hx rfl (pc0 := 26) (pc' := 60) rfl (hb hby at_26) (by decide) (by decide) kt_) ?_
    show own_Go p e below s _ _ _ (s₁.setTop (mkF m 60 #[.val (.int p0), .val (.int p1), .val (.int p2), .val (.int p3), .val (.int ln), .val (.int ((p1 &&& (2147483647 : Int32)) % (1073741825 : Int32))), .unset] []))
    exact J60 s₁ _ X0 e0 N0  (((p1 &&& (2147483647 : Int32)) % (1073741825 : Int32))) ((.unset)) (by have q := own_s28 p1 1073741825 1073741825 (by decide) (by decide); omega) (by first | exact Or.inl rfl | exact Or.inr ⟨_, rfl, rfl⟩)
  · skip
    have hi14 : ¬ ((p3 &&& (1 : Int32))).toInt = 0 := fun q => hc14 (Int32.toInt_inj.mp q)
    refine own_go (fun t_ kt_ => XS.ifYes X0.here hx rfl (pc0 := 14) (pc' := 29) rfl (hb hby at_14) rfl ((if0 _ _).trans (feq hc14).2) (by decide) (by decide) kt_) ?_
    show own_Go p e below s _ _ _ (s₁.setTop (mkF m 29 #[.val (.int p0), .val (.int p1), .val (.int p2), .val (.int p3), .val (.int ln), .unset, .unset] []))
    refine own_go (fun t_ kt_ => XS.iloadN X0.here hx rfl (hb hby at_29) rfl kt_) ?_
    show own_Go p e below s _ _ _ (s₁.setTop (mkF m 30 #[.val (.int p0), .val (.int p1), .val (.int p2), .val (.int p3), .val (.int ln), .unset, .unset] [(.int p1)]))
    refine own_go (fun t_ kt_ => X0.ldcInt hx hown (mvT hZ (hw _ (List.mem_of_getElem? (i := 0) rfl))) (g := (mkF m 30 #[.val (.int p0), .val (.int p1), .val (.int p2), .val (.int p3), .val (.int ln), .unset, .unset] [(.int p1)])) rfl (hb hby at_30) _ kt_) ?_
    show own_Go p e below s _ _ _ (s₁.setTop (mkF m 32 #[.val (.int p0), .val (.int p1), .val (.int p2), .val (.int p3), .val (.int ln), .unset, .unset] [(.int (2147483647 : Int32)), (.int p1)]))
    refine own_go (fun t_ kt_ => XS.iand X0.here hx rfl (hb hby at_32) rfl kt_) ?_
    show own_Go p e below s _ _ _ (s₁.setTop (mkF m 33 #[.val (.int p0), .val (.int p1), .val (.int p2), .val (.int p3), .val (.int ln), .unset, .unset] [(.int (p1 &&& (2147483647 : Int32)))]))
    refine own_go (fun t_ kt_ => XS.bipush X0.here hx rfl (hb hby at_33) kt_) ?_
    show own_Go p e below s _ _ _ (s₁.setTop (mkF m 35 #[.val (.int p0), .val (.int p1), .val (.int p2), .val (.int p3), .val (.int ln), .unset, .unset] [(.int (31 : Int32)), (.int (p1 &&& (2147483647 : Int32)))]))
    refine own_go (fun t_ kt_ => iremM X0 hx rfl (hb hby at_35) rfl (by decide) kt_) ?_
    show own_Go p e below s _ _ _ (s₁.setTop (mkF m 36 #[.val (.int p0), .val (.int p1), .val (.int p2), .val (.int p3), .val (.int ln), .unset, .unset] [(.int ((p1 &&& (2147483647 : Int32)) % (31 : Int32)))]))
    refine own_go (fun t_ kt_ => XS.istore X0.here hx rfl (hb hby at_36) rfl (l' := #[.val (.int p0), .val (.int p1), .val (.int p2), .val (.int p3), .val (.int ln), .unset, .val (.int ((p1 &&& (2147483647 : Int32)) % (31 : Int32)))]) rfl kt_) ?_
    show own_Go p e below s _ _ _ (s₁.setTop (mkF m 38 #[.val (.int p0), .val (.int p1), .val (.int p2), .val (.int p3), .val (.int ln), .unset, .val (.int ((p1 &&& (2147483647 : Int32)) % (31 : Int32)))] []))
    refine own_go (fun t_ kt_ => XS.iconst X0.here hx rfl (hb hby at_38) kt_) ?_
    show own_Go p e below s _ _ _ (s₁.setTop (mkF m 39 #[.val (.int p0), .val (.int p1), .val (.int p2), .val (.int p3), .val (.int ln), .unset, .val (.int ((p1 &&& (2147483647 : Int32)) % (31 : Int32)))] [(.int (0 : Int32))]))
    refine own_go (fun t_ kt_ => XS.iconst X0.here hx rfl (hb hby at_39) kt_) ?_
    show own_Go p e below s _ _ _ (s₁.setTop (mkF m 40 #[.val (.int p0), .val (.int p1), .val (.int p2), .val (.int p3), .val (.int ln), .unset, .val (.int ((p1 &&& (2147483647 : Int32)) % (31 : Int32)))] [(.int (1 : Int32)), (.int (0 : Int32))]))
    refine own_go (fun t_ kt_ => XS.iload X0.here hx rfl (hb hby at_40) rfl kt_) ?_
    show own_Go p e below s _ _ _ (s₁.setTop (mkF m 42 #[.val (.int p0), .val (.int p1), .val (.int p2), .val (.int p3), .val (.int ln), .unset, .val (.int ((p1 &&& (2147483647 : Int32)) % (31 : Int32)))] [(.int ((p1 &&& (2147483647 : Int32)) % (31 : Int32))), (.int (1 : Int32)), (.int (0 : Int32))]))
    refine own_go (fun t_ kt_ => XS.ishl X0.here hx rfl (hb hby at_42) rfl kt_) ?_
    show own_Go p e below s _ _ _ (s₁.setTop (mkF m 43 #[.val (.int p0), .val (.int p1), .val (.int p2), .val (.int p3), .val (.int ln), .unset, .val (.int ((p1 &&& (2147483647 : Int32)) % (31 : Int32)))] [(.int ((1 : Int32) <<< (((p1 &&& (2147483647 : Int32)) % (31 : Int32)) &&& 31))), (.int (0 : Int32))]))
    refine own_go (fun t_ kt_ => XS.iloadN X0.here hx rfl (hb hby at_43) rfl kt_) ?_
    show own_Go p e below s _ _ _ (s₁.setTop (mkF m 44 #[.val (.int p0), .val (.int p1), .val (.int p2), .val (.int p3), .val (.int ln), .unset, .val (.int ((p1 &&& (2147483647 : Int32)) % (31 : Int32)))] [(.int p2), (.int ((1 : Int32) <<< (((p1 &&& (2147483647 : Int32)) % (31 : Int32)) &&& 31))), (.int (0 : Int32))]))
    refine own_go (fun t_ kt_ => XS.bipush X0.here hx rfl (hb hby at_44) kt_) ?_
    show own_Go p e below s _ _ _ (s₁.setTop (mkF m 46 #[.val (.int p0), .val (.int p1), .val (.int p2), .val (.int p3), .val (.int ln), .unset, .val (.int ((p1 &&& (2147483647 : Int32)) % (31 : Int32)))] [(.int (7 : Int32)), (.int p2), (.int ((1 : Int32) <<< (((p1 &&& (2147483647 : Int32)) % (31 : Int32)) &&& 31))), (.int (0 : Int32))]))
    refine own_go (fun t_ kt_ => XS.iand X0.here hx rfl (hb hby at_46) rfl kt_) ?_
    show own_Go p e below s _ _ _ (s₁.setTop (mkF m 47 #[.val (.int p0), .val (.int p1), .val (.int p2), .val (.int p3), .val (.int ln), .unset, .val (.int ((p1 &&& (2147483647 : Int32)) % (31 : Int32)))] [(.int (p2 &&& (7 : Int32))), (.int ((1 : Int32) <<< (((p1 &&& (2147483647 : Int32)) % (31 : Int32)) &&& 31))), (.int (0 : Int32))]))
    refine own_go (fun t_ kt_ => XS.iadd X0.here hx rfl (hb hby at_47) rfl kt_) ?_
    show own_Go p e below s _ _ _ (s₁.setTop (mkF m 48 #[.val (.int p0), .val (.int p1), .val (.int p2), .val (.int p3), .val (.int ln), .unset, .val (.int ((p1 &&& (2147483647 : Int32)) % (31 : Int32)))] [(.int (((1 : Int32) <<< (((p1 &&& (2147483647 : Int32)) % (31 : Int32)) &&& 31)) + (p2 &&& (7 : Int32)))), (.int (0 : Int32))]))
    refine own_go (fun t_ kt_ => XS.iconst X0.here hx rfl (hb hby at_48) kt_) ?_
    show own_Go p e below s _ _ _ (s₁.setTop (mkF m 49 #[.val (.int p0), .val (.int p1), .val (.int p2), .val (.int p3), .val (.int ln), .unset, .val (.int ((p1 &&& (2147483647 : Int32)) % (31 : Int32)))] [(.int (4 : Int32)), (.int (((1 : Int32) <<< (((p1 &&& (2147483647 : Int32)) % (31 : Int32)) &&& 31)) + (p2 &&& (7 : Int32)))), (.int (0 : Int32))]))
    refine own_go (fun t_ kt_ => XS.isub X0.here hx rfl (hb hby at_49) rfl kt_) ?_
    show own_Go p e below s _ _ _ (s₁.setTop (mkF m 50 #[.val (.int p0), .val (.int p1), .val (.int p2), .val (.int p3), .val (.int ln), .unset, .val (.int ((p1 &&& (2147483647 : Int32)) % (31 : Int32)))] [(.int ((((1 : Int32) <<< (((p1 &&& (2147483647 : Int32)) % (31 : Int32)) &&& 31)) + (p2 &&& (7 : Int32))) - (4 : Int32))), (.int (0 : Int32))]))
    obtain ⟨_, _, ⟨T3, L3, k3, n3⟩, -, X3, ⟨Lc3, hQ3, l3, y3, z3⟩, st3⟩ := Jvm.LawKit.callS X0 hx (y := (⟨"java/lang/Math", "max", "(II)I"⟩ : MethodName)) hown (mvT hZ (hw _ (List.mem_of_getElem? (i := 1) rfl))) (mvT hZ (hw _ (List.mem_of_getElem? (i := 2) rfl))) (mvT hZ (hw _ (List.mem_of_getElem? (i := 3) rfl))) (mvT hZ (hw _ (List.mem_of_getElem? (i := 4) rfl))) (by decide) (backOf (W := 0) (rm1 l Z a0 hw [] ((0 : Int32)) (((((1 : Int32) <<< (((p1 &&& (2147483647 : Int32)) % (31 : Int32)) &&& 31)) + (p2 &&& (7 : Int32))) - (4 : Int32))) h0 n0 Z0 ) hZ (hw _ (List.mem_of_getElem? (i := 4) rfl)) (hw _ (List.mem_of_getElem? (i := 3) rfl)) (by decide) (by decide)) (g := (mkF m 50 #[.val (.int p0), .val (.int p1), .val (.int p2), .val (.int p3), .val (.int ln), .unset, .val (.int ((p1 &&& (2147483647 : Int32)) % (31 : Int32)))] [(.int ((((1 : Int32) <<< (((p1 &&& (2147483647 : Int32)) % (31 : Int32)) &&& 31)) + (p2 &&& (7 : Int32))) - (4 : Int32))), (.int (0 : Int32))])) rfl (by rw [hml]; rfl) (argsL := [(.int (0 : Int32)), (.int ((((1 : Int32) <<< (((p1 &&& (2147483647 : Int32)) % (31 : Int32)) &&& 31)) + (p2 &&& (7 : Int32))) - (4 : Int32)))]) (rest := []) (lenOf pd_0 rfl) rfl (by show 2 * 0 + _ ≤ _; exact Nat.le_of_eq rfl) (hb hby at_50) (fun _ _ => ⟨rfl, e0, (by decide : 0 + 0 ≤ _), (by decide : 0 + 0 ≤ _)⟩)
    dsimp only [Pt.U, Pt.locs, Pt.cells, Pt.slots] at X3 l3 y3 z3 st3 hQ3
    subst l3 y3 z3
    obtain ⟨rfl, Nq3, eh3⟩ := hQ3
    have N3 := Fr.app N0 Nq3
    refine own_go (fun t_ kt_ => st3 _ kt_) ?_
    have e3 : T3.heap = h0 := eh3
    show own_Go p e below s _ _ _ (T3.setTop (mkF m 53 #[.val (.int p0), .val (.int p1), .val (.int p2), .val (.int p3), .val (.int ln), .unset, .val (.int ((p1 &&& (2147483647 : Int32)) % (31 : Int32)))] [(.int (own_max (0 : Int32) ((((1 : Int32) <<< (((p1 &&& (2147483647 : Int32)) % (31 : Int32)) &&& 31)) + (p2 &&& (7 : Int32))) - (4 : Int32))))]))
    refine own_go (fun t_ kt_ => X3.ldcInt hx hown (mvT hZ (hw _ (List.mem_of_getElem? (i := 5) rfl))) (g := (mkF m 53 #[.val (.int p0), .val (.int p1), .val (.int p2), .val (.int p3), .val (.int ln), .unset, .val (.int ((p1 &&& (2147483647 : Int32)) % (31 : Int32)))] [(.int (own_max (0 : Int32) ((((1 : Int32) <<< (((p1 &&& (2147483647 : Int32)) % (31 : Int32)) &&& 31)) + (p2 &&& (7 : Int32))) - (4 : Int32))))])) rfl (hb hby at_53) _ kt_) ?_
    show own_Go p e below s _ _ _ (T3.setTop (mkF m 55 #[.val (.int p0), .val (.int p1), .val (.int p2), .val (.int p3), .val (.int ln), .unset, .val (.int ((p1 &&& (2147483647 : Int32)) % (31 : Int32)))] [(.int (1073741824 : Int32)), (.int (own_max (0 : Int32) ((((1 : Int32) <<< (((p1 &&& (2147483647 : Int32)) % (31 : Int32)) &&& 31)) + (p2 &&& (7 : Int32))) - (4 : Int32))))]))
    obtain ⟨_, _, ⟨T4, L4, k4, n4⟩, -, X4, ⟨Lc4, hQ4, l4, y4, z4⟩, st4⟩ := Jvm.LawKit.callS X3 hx (y := (⟨"java/lang/Math", "min", "(II)I"⟩ : MethodName)) hown (mvT hZ (hw _ (List.mem_of_getElem? (i := 6) rfl))) (mvT hZ (hw _ (List.mem_of_getElem? (i := 7) rfl))) (mvT hZ (hw _ (List.mem_of_getElem? (i := 3) rfl))) (mvT hZ (hw _ (List.mem_of_getElem? (i := 8) rfl))) (by decide) (backOf (W := 0) (rm2 l Z a0 hw [] ((own_max (0 : Int32) ((((1 : Int32) <<< (((p1 &&& (2147483647 : Int32)) % (31 : Int32)) &&& 31)) + (p2 &&& (7 : Int32))) - (4 : Int32)))) ((1073741824 : Int32)) h0 n0 Z0 ) hZ (hw _ (List.mem_of_getElem? (i := 8) rfl)) (hw _ (List.mem_of_getElem? (i := 3) rfl)) (by decide) (by decide)) (g := (mkF m 55 #[.val (.int p0), .val (.int p1), .val (.int p2), .val (.int p3), .val (.int ln), .unset, .val (.int ((p1 &&& (2147483647 : Int32)) % (31 : Int32)))] [(.int (1073741824 : Int32)), (.int (own_max (0 : Int32) ((((1 : Int32) <<< (((p1 &&& (2147483647 : Int32)) % (31 : Int32)) &&& 31)) + (p2 &&& (7 : Int32))) - (4 : Int32))))])) rfl (by rw [hml]; rfl) (argsL := [(.int (own_max (0 : Int32) ((((1 : Int32) <<< (((p1 &&& (2147483647 : Int32)) % (31 : Int32)) &&& 31)) + (p2 &&& (7 : Int32))) - (4 : Int32)))), (.int (1073741824 : Int32))]) (rest := []) (lenOf pd_0 rfl) rfl (by show 2 * 0 + _ ≤ _; exact Nat.le_of_eq rfl) (hb hby at_55) (fun _ _ => ⟨rfl, e3, (by decide : 0 + 0 ≤ _), (by decide : 0 + 0 ≤ _)⟩)
    dsimp only [Pt.U, Pt.locs, Pt.cells, Pt.slots] at X4 l4 y4 z4 st4 hQ4
    subst l4 y4 z4
    obtain ⟨rfl, Nq4, eh4⟩ := hQ4
    have N4 := Fr.app N3 Nq4
    refine own_go (fun t_ kt_ => st4 _ kt_) ?_
    have e4 : T4.heap = h0 := eh4
    show own_Go p e below s _ _ _ (T4.setTop (mkF m 58 #[.val (.int p0), .val (.int p1), .val (.int p2), .val (.int p3), .val (.int ln), .unset, .val (.int ((p1 &&& (2147483647 : Int32)) % (31 : Int32)))] [(.int (own_min (own_max (0 : Int32) ((((1 : Int32) <<< (((p1 &&& (2147483647 : Int32)) % (31 : Int32)) &&& 31)) + (p2 &&& (7 : Int32))) - (4 : Int32))) (1073741824 : Int32)))]))
    refine own_go (fun t_ kt_ => XS.istore X4.here hx rfl (hb hby at_58) rfl (l' := #[.val (.int p0), .val (.int p1), .val (.int p2), .val (.int p3), .val (.int ln), .val (.int (own_min (own_max (0 : Int32) ((((1 : Int32) <<< (((p1 &&& (2147483647 : Int32)) % (31 : Int32)) &&& 31)) + (p2 &&& (7 : Int32))) - (4 : Int32))) (1073741824 : Int32))), .val (.int ((p1 &&& (2147483647 : Int32)) % (31 : Int32)))]) rfl kt_) ?_
    show own_Go p e below s _ _ _ (T4.setTop (mkF m 60 #[.val (.int p0), .val (.int p1), .val (.int p2), .val (.int p3), .val (.int ln), .val (.int (own_min (own_max (0 : Int32) ((((1 : Int32) <<< (((p1 &&& (2147483647 : Int32)) % (31 : Int32)) &&& 31)) + (p2 &&& (7 : Int32))) - (4 : Int32))) (1073741824 : Int32))), .val (.int ((p1 &&& (2147483647 : Int32)) % (31 : Int32)))] []))
    exact J60 T4 _ X4 e4 N4  ((own_min (own_max (0 : Int32) ((((1 : Int32) <<< (((p1 &&& (2147483647 : Int32)) % (31 : Int32)) &&& 31)) + (p2 &&& (7 : Int32))) - (4 : Int32))) (1073741824 : Int32))) ((.val (.int ((p1 &&& (2147483647 : Int32)) % (31 : Int32))))) (own_mm _) (by first | exact Or.inl rfl | exact Or.inr ⟨_, rfl, rfl⟩)
set_option maxRecDepth 65536 in
set_option maxHeartbeats 40000000 in
theorem comes_1 {Post : Tables → Env → Array Value → State → Outcome → State → Prop} (hpost : ∀ tb e args s v u, (limb_1_1.after args s (.returned v) u = true ∧ limb_1_2.after args s (.returned v) u = true ∧ True) → FrameEnd s (.returned v) u (Jvm.fieldLocs frame_1_writes args s ++ Jvm.arrayLocs frame_1_arrays args s ++ Jvm.staticLocs frame_1_statics s) 0 0 → Post tb e args s (.returned v) u) :
    ArmFor flags0 classFile x code maxLocals ret World_1 tables_1 room_1 Calls_1 rest_1 Pre_1 Post := by
  intro l hfl _ _ p e ha hc hk s m args below hf hA hF happ hP
  obtain ⟨hcalls, hrest, hpre⟩ := hP
  obtain ⟨-, -, -, hnamed, -, -, -, hat⟩ := (Spec.applies_iff hf).mp happ
  obtain ⟨hg, hn⟩ := and_e (Cond.before_iff.mp (show (Jvm.Cond.and given_1 narrow_1).before args s = true from hpre))
  obtain ⟨g1, g2⟩ := and_e hg
  obtain ⟨g3, g4⟩ := and_e g2
  obtain ⟨g5, g6⟩ := and_e g4
  obtain ⟨g7, g8⟩ := and_e g6
  obtain ⟨w0, w1, w2, w3, rfl⟩ : ∃ w0 w1 w2 w3 : Value, args = #[w0, w1, w2, w3] := by
    have hs : args.size = 4 := by simpa [Cond.value, given_1] using g1
    obtain ⟨L⟩ := args
    match L, hs with
    | [w0, w1, w2, w3], _ => exact ⟨w0, w1, w2, w3, rfl⟩
  have hw := fun d (hd : d ∈ tables_1) => atoms_spec (ws := Jvm.Cond.code x code maxLocals ret :: tables_1) hat d (List.mem_cons_of_mem _ hd)
  have hfit : Fit s := fun {y c} hc i hi => by
    obtain ⟨ha, rfl⟩ := Array.getElem?_eq_some_iff.mp hc
    have q := List.all_eq_true.mp ((Array.all_eq_true_iff_forall_mem.mp hF) _ (Array.getElem_mem ha)) i (List.mem_range.mpr hi)
    simpa [Array.getElem?_eq_getElem hi] using q
  obtain ⟨i0, ei0⟩ := is_v g3
  obtain rfl : w0 = (.int i0) := Option.some.inj ei0
  obtain ⟨i1, ei1⟩ := is_v g5
  obtain rfl : w1 = (.int i1) := Option.some.inj ei1
  obtain ⟨i2, ei2⟩ := is_v g7
  obtain rfl : w2 = (.int i2) := Option.some.inj ei2
  obtain ⟨i3, ei3⟩ := is_v g8
  obtain rfl : w3 = (.int i3) := Option.some.inj ei3
  obtain ⟨n, o, h1, h2, h3, _, L, rfl, ⟨rfl, N⟩, hq⟩ := rm0 l s _ hw tables_1 i0 i1 i2 i3  s.heap s.heap.size (Nat.le_refl _)  p e ha hc hk s m _ below hf ((Spec.applies_iff_loose hf).mp happ).1 ⟨rfl, State.Warmed39.refl s, rfl⟩ trivial
  refine ⟨n, _, h1, h2, h3, hpost _ _ _ _ _ _ ⟨Cond.after_iff.mpr rfl, Cond.after_iff.mpr (eq_i res_at (Term.int_eval (1)) rfl), trivial⟩ ⟨hq.1, hq.2.1, (hq.2.2.sift fun y hy => Or.inr (N y hy)).mono (by decide) (by decide)⟩⟩
theorem main_1_1 : Claimed_1_1 := comes_1 fun _ _ _ _ _ _ h hF => ⟨h.1, hF⟩
theorem main_1_2 : Claimed_1_2 := comes_1 fun _ _ _ _ _ _ h hF => ⟨h.2.1, hF⟩
end Jvm.Pilot.@@N@@
namespace Jvm.Pilot.@@N@@
open Jvm Jvm.ClassFile Sem Op Lib Jvm.Free Jvm.Stand Jvm.Pilot.@@N@@.Jvm.D
/-! MADE BY PROGRAM (witnessworld.py) out of the Statement's table words and the real class files: 10 classes; the members and pool entries that the words name. The judged class is class 1, her method 1. -/
namespace start1
open Jvm.ClassFile
def u (s : String) : CpInfo := .utf8 (stringToUtf16 s)
/-- a pool by its gaps: so many unusable entries, then the entry; so many at the end -/
def gap : Nat → List CpInfo → List CpInfo
  | 0, r => r
  | n + 1, r => .unusable :: gap n r
def poolList (es : List (Nat × CpInfo)) (last : Nat) : List CpInfo := es.foldr (fun e r => gap e.1 (e.2 :: r)) (gap last [])
def pool (es : List (Nat × CpInfo)) (last : Nat) : Array CpInfo := ⟨poolList es last⟩
def fileOf (pool : Array CpInfo) (this : Nat) (attrs : Array Attribute := #[]) (ms : Array MethodInfo := #[]) (fl : Nat := 33) (sup : Nat := 0) (ifs : Array Nat := #[]) (fds : Array FieldInfo := #[]) : ClassFile where
  minorVersion := 0
  majorVersion := 65
  constantPool := pool
  accessFlags := fl
  thisClass := this
  superClass := sup
  interfaces := ifs
  fields := fds
  methods := ms
  attributes := attrs
def plain (name : String) (sup : Option ClassId) : Class where
  name := name
  kind := .ordinary
  loader := none
  accessFlags := 33
  super := sup
  interfaces := #[]
  cf := none
  fields := #[]
  methods := #[]
  instanceTypes := #[]
  staticTypes := #[]
  resolved := #[]
  callSites := []
  init := .initialized
  statics := none
  mirror := none

def pool0 : Array CpInfo := pool [(5, u "<init>"), (0, u "()V"), (1, .class_ 10), (1, u "java/lang/Object")] 113

def k0m0 : Method := { name := "<init>", desc := "()V", sig := { parameters := [], returnType := none }, accessFlags := 1, code := none }
/-- java/lang/Object -/
def k0 : Class := { plain "java/lang/Object" none with
  accessFlags := 33
  interfaces := #[]
  cf := some (fileOf pool0 8 #[] #[{ accessFlags := 1, nameIndex := 5, descriptorIndex := 6, attributes := #[] }] 33 0 #[] #[])
  fields := #[]
  methods := #[k0m0]
  instanceTypes := #[]
  staticTypes := #[]
  resolved := Array.replicate 124 none
  statics := none }

def pool1 : Array CpInfo := pool [(2, .class_ 4), (1, u "java/lang/Object"), (0, u "<init>"), (0, u "()V"), (0, .integer 2147483647), (0, .integer 1073741825), (0, .methodref 10 11), (0, .class_ 12), (0, .nameAndType 13 14), (0, u "java/lang/Math"), (0, u "max"), (0, u "(II)I"), (0, .integer 1073741824), (0, .methodref 10 17), (0, .nameAndType 18 14), (0, u "min"), (0, .methodref 20 21), (0, .class_ 22), (0, .nameAndType 23 14), (0, u "com/example/evenkeel/evenkeel/Aggregate"), (0, u "arrayFor"), (0, .class_ 25), (0, u "com/example/evenkeel/evenkeel/AggregateArrayForPinLaw"), (2, u "law"), (0, u "(IIII)Z")] 3

def k1m0 : Method := { name := "<init>", desc := "()V", sig := { parameters := [], returnType := none }, accessFlags := 2, code := none }
def k1c1 : Code := { maxStack := 4, maxLocals := 7, code := code, exceptionTable := #[], attributes := #[] }
def k1m1 : Method := { name := "law", desc := "(IIII)Z", sig := { parameters := [.int, .int, .int, .int], returnType := some .boolean }, accessFlags := 9, code := some k1c1 }
/-- com/example/evenkeel/evenkeel/AggregateArrayForPinLaw -/
def k1 : Class := { plain "com/example/evenkeel/evenkeel/AggregateArrayForPinLaw" (some 0) with
  accessFlags := 49
  interfaces := #[]
  cf := some (fileOf pool1 24 #[] #[{ accessFlags := 2, nameIndex := 5, descriptorIndex := 6, attributes := #[] }, { accessFlags := 9, nameIndex := 28, descriptorIndex := 29, attributes := #[] }] 49 2 #[] #[])
  fields := #[]
  methods := #[k1m0, k1m1]
  instanceTypes := #[]
  staticTypes := #[]
  resolved := Array.replicate 33 none
  statics := none }

def pool2 : Array CpInfo := pool [(1, .class_ 2), (0, u "java/lang/Math"), (1, .class_ 6), (1, u "java/lang/Object"), (0, u "<init>"), (0, u "()V"), (89, .class_ 100), (1, u "java/lang/Math$RandomNumberGeneratorHolder"), (71, u "negativeZeroFloatBits"), (0, u "J"), (2, u "negativeZeroDoubleBits"), (21, u "max"), (2, u "min"), (43, u "$assertionsDisabled"), (0, u "Z"), (88, u "(II)I"), (2, u "twoToTheDoubleScaleDown"), (0, u "D"), (4, u "twoToTheDoubleScaleUp"), (9, u "E"), (3, u "PI"), (2, u "TAU"), (2, u "DEGREES_TO_RADIANS"), (0, u "RADIANS_TO_DEGREES")] 94

def k2m0 : Method := { name := "<init>", desc := "()V", sig := { parameters := [], returnType := none }, accessFlags := 2, code := none }
def k2c1 : Code := { maxStack := 2, maxLocals := 2, code := jdk_29_method_65_code, exceptionTable := #[], attributes := #[] }
def k2m1 : Method := { name := "max", desc := "(II)I", sig := { parameters := [.int, .int], returnType := some .int }, accessFlags := 9, code := some k2c1 }
def k2c2 : Code := { maxStack := 2, maxLocals := 2, code := jdk_29_method_69_code, exceptionTable := #[], attributes := #[] }
def k2m2 : Method := { name := "min", desc := "(II)I", sig := { parameters := [.int, .int], returnType := some .int }, accessFlags := 9, code := some k2c2 }
/-- java/lang/Math -/
def k2 : Class := { plain "java/lang/Math" (some 0) with
  accessFlags := 49
  interfaces := #[]
  cf := some (fileOf pool2 1 #[.nestMembers #[98]] #[{ accessFlags := 2, nameIndex := 7, descriptorIndex := 8, attributes := #[] }, { accessFlags := 9, nameIndex := 198, descriptorIndex := 335, attributes := #[] }, { accessFlags := 9, nameIndex := 201, descriptorIndex := 335, attributes := #[] }] 49 4 #[] #[{ accessFlags := 25, nameIndex := 354, descriptorIndex := 339, attributes := #[] }, { accessFlags := 25, nameIndex := 358, descriptorIndex := 339, attributes := #[] }, { accessFlags := 25, nameIndex := 361, descriptorIndex := 339, attributes := #[] }, { accessFlags := 26, nameIndex := 364, descriptorIndex := 339, attributes := #[] }, { accessFlags := 26, nameIndex := 365, descriptorIndex := 339, attributes := #[] }, { accessFlags := 26, nameIndex := 172, descriptorIndex := 173, attributes := #[] }, { accessFlags := 26, nameIndex := 176, descriptorIndex := 173, attributes := #[] }, { accessFlags := 8, nameIndex := 344, descriptorIndex := 339, attributes := #[] }, { accessFlags := 8, nameIndex := 338, descriptorIndex := 339, attributes := #[] }, { accessFlags := 4120, nameIndex := 245, descriptorIndex := 246, attributes := #[] }])
  fields := #[{ name := "E", type := .double, accessFlags := 25, slot := 0, constantValue := 0 }, { name := "PI", type := .double, accessFlags := 25, slot := 1, constantValue := 0 }, { name := "TAU", type := .double, accessFlags := 25, slot := 2, constantValue := 0 }, { name := "DEGREES_TO_RADIANS", type := .double, accessFlags := 26, slot := 3, constantValue := 0 }, { name := "RADIANS_TO_DEGREES", type := .double, accessFlags := 26, slot := 4, constantValue := 0 }, { name := "negativeZeroFloatBits", type := .long, accessFlags := 26, slot := 5, constantValue := 0 }, { name := "negativeZeroDoubleBits", type := .long, accessFlags := 26, slot := 6, constantValue := 0 }, { name := "twoToTheDoubleScaleUp", type := .double, accessFlags := 8, slot := 7, constantValue := 0 }, { name := "twoToTheDoubleScaleDown", type := .double, accessFlags := 8, slot := 8, constantValue := 0 }, { name := "$assertionsDisabled", type := .boolean, accessFlags := 4120, slot := 9, constantValue := 0 }]
  methods := #[k2m0, k2m1, k2m2]
  instanceTypes := #[]
  staticTypes := #[.double, .double, .double, .double, .double, .long, .long, .double, .double, .boolean]
  resolved := Array.replicate 460 none
  statics := none }

def pool3 : Array CpInfo := pool [(4, .class_ 6), (1, u "java/lang/Object"), (0, u "<init>"), (0, u "()V"), (1, .class_ 12), (1, u "com/example/evenkeel/evenkeel/Aggregate"), (57, u "J"), (27, u "MAX_BYTES"), (1, u "FIRST_ARRAY"), (0, u "I"), (11, u "arrayFor"), (0, u "(II)I")] 32

def k3m0 : Method := { name := "<init>", desc := "()V", sig := { parameters := [], returnType := none }, accessFlags := 0, code := none }
def k3c1 : Code := { maxStack := 3, maxLocals := 3, code := prog_2_method_8_code, exceptionTable := #[], attributes := #[] }
def k3m1 : Method := { name := "arrayFor", desc := "(II)I", sig := { parameters := [.int, .int], returnType := some .int }, accessFlags := 8, code := some k3c1 }
/-- com/example/evenkeel/evenkeel/Aggregate -/
def k3 : Class := { plain "com/example/evenkeel/evenkeel/Aggregate" (some 0) with
  accessFlags := 1056
  interfaces := #[]
  cf := some (fileOf pool3 10 #[] #[{ accessFlags := 0, nameIndex := 7, descriptorIndex := 8, attributes := #[] }, { accessFlags := 8, nameIndex := 113, descriptorIndex := 114, attributes := #[] }] 1056 4 #[] #[{ accessFlags := 24, nameIndex := 98, descriptorIndex := 70, attributes := #[] }, { accessFlags := 24, nameIndex := 100, descriptorIndex := 101, attributes := #[] }])
  fields := #[{ name := "MAX_BYTES", type := .long, accessFlags := 24, slot := 0, constantValue := 0 }, { name := "FIRST_ARRAY", type := .int, accessFlags := 24, slot := 1, constantValue := 0 }]
  methods := #[k3m0, k3m1]
  instanceTypes := #[]
  staticTypes := #[.long, .int]
  resolved := Array.replicate 147 none
  statics := none }

def pool4 : Array CpInfo := pool [(1, u "java/lang/Cloneable"), (0, .class_ 1), (0, u "java/lang/Object"), (0, .class_ 3)] 3

/-- java/lang/Cloneable -/
def k4 : Class := { plain "java/lang/Cloneable" (some 0) with
  accessFlags := 1537
  interfaces := #[]
  cf := some (fileOf pool4 2 #[] #[] 1537 4 #[] #[])
  fields := #[]
  methods := #[]
  instanceTypes := #[]
  staticTypes := #[]
  resolved := Array.replicate 8 none
  statics := none }

def pool5 : Array CpInfo := pool [(1, u "java/io/Serializable"), (0, .class_ 1), (0, u "java/lang/Object"), (0, .class_ 3)] 3

/-- java/io/Serializable -/
def k5 : Class := { plain "java/io/Serializable" (some 0) with
  accessFlags := 1537
  interfaces := #[]
  cf := some (fileOf pool5 2 #[] #[] 1537 4 #[] #[])
  fields := #[]
  methods := #[]
  instanceTypes := #[]
  staticTypes := #[]
  resolved := Array.replicate 8 none
  statics := none }

/-- the primitive byte -/
def k6 : Class := { plain "byte" none with kind := .primitive 'B', accessFlags := 0x411 }
/-- [B -/
def k7 : Class := { plain "[B" (some 0) with kind := .array 6 .byte, interfaces := #[4, 5], accessFlags := 1041 }

/-- the primitive int -/
def k8 : Class := { plain "int" none with kind := .primitive 'I', accessFlags := 0x411 }
/-- [I -/
def k9 : Class := { plain "[I" (some 0) with kind := .array 8 .int, interfaces := #[4, 5], accessFlags := 1041 }

def heap : Heap := #[]
def classes : Array Class := #[k0, k1, k2, k3, k4, k5, k6, k7, k8, k9]
def interned : List (Array UInt16 × Addr) := []
def slotsUsed : Nat := 0
def theMethod : MethodId := ⟨1, 1⟩
def args0 : Array Value := #[.int 5, .int 3, .int 2, .int 1]
def aboutOver (below : List Frame) : State where
  vm := { classes := classes, interned := interned.toArray }
  heap := heap
  slotsUsed := slotsUsed
  threads := #[{ frames := .invoking theMethod args0 :: below }]
def below0 : List Frame := [.native { method := ⟨0, 0⟩, args := #[] }]
def about1 : State := aboutOver below0
def p0 : Program := .bare "" "" ""
def e0 : Env := launch0.env 0 0 0
theorem w_frames : about1.frames = Frame.invoking theMethod args0 :: below0 := rfl
set_option maxRecDepth 65536 in
theorem w_args : argsFit about1.vm theMethod args0 = true := by decide +kernel
set_option maxRecDepth 65536 in
theorem w_heap : heapFits about1 = true := by decide +kernel
set_option maxRecDepth 65536 in
theorem w_runnable : about1.curStatus? = some .runnable := by decide +kernel
set_option maxRecDepth 65536 in
theorem w_alone : about1.alone = true := by decide +kernel
set_option maxRecDepth 65536 in
theorem w_named : about1.methodNamed? x = some theMethod := by decide +kernel
set_option maxRecDepth 65536 in
theorem w_hears : about1.hears theMethod below0 = true := by decide +kernel
set_option maxRecDepth 65536 in
theorem w_ripe : about1.ripe theMethod args0 below0 = true := by decide +kernel
theorem w_running : about1.status = .running := rfl
set_option maxRecDepth 65536 in
theorem w_room : about1.hasRoom e0.platform room_1 = true :=
  launch0.hasRoom_least _ room_1 (by decide +kernel) (by decide +kernel) (by decide +kernel) (by decide +kernel) (by decide +kernel) (by decide +kernel)
theorem allAtoms_all (ts : List Jvm.Cond) (a : Array Jvm.Value) (st : Jvm.State) : (allAtoms ts).before a st = ts.all (fun c => c.before a st) := by
  induction ts with
  | nil => rfl
  | cons c t ih =>
    show (Jvm.Cond.and c (allAtoms t)).before a st = _
    rw [Jvm.Cond.before_and, ih, List.all_cons]
def words1 : List Jvm.Cond := Jvm.Cond.code x code maxLocals ret :: tables_1
/-- a 'code' word, met by the world's own term for the bytes: nothing is compared byte by byte -/
theorem code_word {y : MethodName} {bytes : ByteArray} {mx : Nat} {rt : Option FieldType} {a : Array Value} {s : State} {m : MethodId} {meth : Method} {c : Code} (h1 : s.methodNamed? y = some m) (h2 : s.vm.method? m = some meth) (h3 : meth.code = some c) (h4 : c.code = bytes)
    (h5 : (c.maxLocals == mx && c.exceptionTable.isEmpty && decide (c.maxStack ≤ mostOperands) && decide (meth.sig.returnType = rt) && !meth.locks && decide (parseMethodDescriptor y.desc = some meth.sig)) = true) : (Jvm.Cond.code y bytes mx rt).before a s = true := by
  simp only [Bool.and_eq_true, beq_iff_eq, Bool.not_eq_true', decide_eq_true_eq] at h5
  obtain ⟨⟨⟨⟨⟨g1, g2⟩, g3⟩, g4⟩, g5⟩, g6⟩ := h5
  simp [Cond.before, Cond.holds, Cond.value, h1, h2, h3, h4, g1, g2, g3, g4, g5, g6]
def isCode : Jvm.Cond → Bool
  | .code _ _ _ _ => true
  | _ => false
theorem all_split {L : List Jvm.Cond} {P : Jvm.Cond → Bool} (h1 : L.all (fun c => isCode c || P c) = true) (h2 : ∀ c ∈ L.filter isCode, P c = true) : L.all P = true := by
  refine List.all_eq_true.mpr fun c hc => ?_
  have h := List.all_eq_true.mp h1 c hc
  rcases Bool.eq_false_or_eq_true (isCode c) with hi | hi
  · exact h2 c (List.mem_filter.mpr ⟨hc, hi⟩)
  · simpa [hi] using h
set_option maxRecDepth 65536 in
theorem w_c0 : (Jvm.Cond.code x code maxLocals ret).before args0 about1 = true := code_word (m := ⟨1, 1⟩) (meth := k1m1) (c := k1c1) (by decide +kernel) rfl rfl rfl (by decide +kernel)
set_option maxRecDepth 65536 in
theorem w_c1 : (Jvm.Cond.code ({ cls := "java/lang/Math", name := "max", desc := "(II)I" } : Jvm.MethodName) jdk_29_method_65_code (2 : Nat) (Option.some Jvm.ClassFile.FieldType.int)).before args0 about1 = true := code_word (m := ⟨2, 1⟩) (meth := k2m1) (c := k2c1) (by decide +kernel) rfl rfl rfl (by decide +kernel)
set_option maxRecDepth 65536 in
theorem w_c2 : (Jvm.Cond.code ({ cls := "java/lang/Math", name := "min", desc := "(II)I" } : Jvm.MethodName) jdk_29_method_69_code (2 : Nat) (Option.some Jvm.ClassFile.FieldType.int)).before args0 about1 = true := code_word (m := ⟨2, 2⟩) (meth := k2m2) (c := k2c2) (by decide +kernel) rfl rfl rfl (by decide +kernel)
set_option maxRecDepth 65536 in
theorem w_c3 : (Jvm.Cond.code ({ cls := "com/example/evenkeel/evenkeel/Aggregate", name := "arrayFor", desc := "(II)I" } : Jvm.MethodName) prog_2_method_8_code (3 : Nat) (Option.some Jvm.ClassFile.FieldType.int)).before args0 about1 = true := code_word (m := ⟨3, 1⟩) (meth := k3m1) (c := k3c1) (by decide +kernel) rfl rfl rfl (by decide +kernel)
def codes1 : List Jvm.Cond := [Jvm.Cond.code x code maxLocals ret, Jvm.Cond.code ({ cls := "java/lang/Math", name := "max", desc := "(II)I" } : Jvm.MethodName) jdk_29_method_65_code (2 : Nat) (Option.some Jvm.ClassFile.FieldType.int), Jvm.Cond.code ({ cls := "java/lang/Math", name := "min", desc := "(II)I" } : Jvm.MethodName) jdk_29_method_69_code (2 : Nat) (Option.some Jvm.ClassFile.FieldType.int), Jvm.Cond.code ({ cls := "com/example/evenkeel/evenkeel/Aggregate", name := "arrayFor", desc := "(II)I" } : Jvm.MethodName) prog_2_method_8_code (3 : Nat) (Option.some Jvm.ClassFile.FieldType.int)]
set_option maxRecDepth 65536 in
theorem codes_eq : words1.filter isCode = codes1 := rfl
theorem w_codes : ∀ c ∈ words1.filter isCode, c.before args0 about1 = true := by
  rw [codes_eq]
  intro c hc
  simp only [codes1, List.mem_cons, List.not_mem_nil, or_false] at hc
  rcases hc with rfl | rfl | rfl | rfl
  · exact w_c0
  · exact w_c1
  · exact w_c2
  · exact w_c3
set_option maxRecDepth 65536 in
theorem w_t1 : words1.all (fun c => isCode c || c.before args0 about1) = true := by decide +kernel
theorem w_tables : (allAtoms (Jvm.Cond.code x code maxLocals ret :: tables_1)).before args0 about1 = true := by
  rw [allAtoms_all]
  show words1.all (fun c => c.before args0 about1) = true
  refine all_split ?_ w_codes
  rw [w_t1]
set_option maxRecDepth 65536 in
theorem w_case : (Jvm.Cond.and given_1 narrow_1).before args0 about1 = true := by decide +kernel
theorem w_applies : (headSpec (Jvm.Cond.code x code maxLocals ret :: tables_1) room_1).applies x e0.platform about1 = true :=
  (Spec.applies_iff w_frames).mpr ⟨w_running, w_runnable, w_alone, w_named, w_hears, w_ripe, w_room, w_tables⟩
theorem atStart : AtStart classFile x code maxLocals ret World_1 tables_1 room_1 Calls_1 rest_1 Pre_1 launch0 p0 e0 about1 theMethod args0 below0 :=
  ⟨lists_1, trivial, launch0.admits_env _ _ _, launch0.least_env, fairChoices_fair.cas, fairChoices_fair.clock, w_frames, w_args, w_heap, w_applies, trivial, trivial, w_case⟩
end start1
theorem witness_1 : WitnessClaimed_1 := ⟨start1.p0, start1.e0, start1.about1, start1.theMethod, start1.args0, start1.below0, start1.atStart⟩
end Jvm.Pilot.@@N@@
