import JvmDerived
import JvmDerived.Pilot.@@N@@Statement
import JvmDerived.Pilot.@@N@@Code
set_option linter.unusedVariables false
set_option linter.unusedSimpArgs false
namespace Jvm.RoadKit
open Sem ClassFile Op Lib Jvm.Stand Jvm.Free Jvm.LawKit
section New
variable {p : Program} {l : Launch} {e : Env} {R : Room} {s : State} {m : MethodId} {args : Array Value} {below : List Frame} {meth : Method} {c : Code} {T : State} {locs : List Loc} {cells slots : Nat}
theorem retI (X : Stand p l e R s m args below meth c T locs cells slots) (hx : p.tables.exec = Jvm.exec) {pc : Nat} {Ls : Array Slot} {z : Int32} {rest : List Value} (hret : meth.sig.returnType = some .int) (hd : decode c.code pc = .ok (.ireturn, 1)) {fs : List Frame}
    (hl : ∀ (f : JFrame) (acts : List Action), f.method = m → f.locked = none → f.entered = [] → (doReturn e (T.setTop f) acts (some (.int z))).1 = T.setFrames fs) : Steps p.tables e below (T.setTop (mkF m pc Ls (.int z :: rest))) (T.setFrames fs) := by
  have hm' : T.vm.method? m = some meth := X.method'
  have hn : narrow .int (.int z) = .int z := rfl
  show Steps p.tables e below (T.setTop { method := m, pc := pc, locals := Ls, stack := _ :: rest, locked := none }) _
  jvm_step X.here [X.here.top, hx, hd, hm', hret, hn]
  first | (intro acts; rw [hl _ acts rfl rfl rfl]) | rw [hl _ _ rfl rfl rfl]
  exact Steps.refl _
theorem own_lrem {g : JFrame} {target : State} (X : Stand p l e R s m args below meth c T locs cells slots) (hx : p.tables.exec = Jvm.exec) (hg : g.method = m) {x y : Int64} {rest : List Value} (hd : decode c.code g.pc = .ok (.lrem, 1)) (hs : g.stack = .long y :: .long x :: rest) (hy : y ≠ 0)
    (hr : Steps p.tables e below (T.setTop { g with pc := g.pc + 1, stack := .long (x % y) :: rest }) target) : Steps p.tables e below (T.setTop g) target :=
  XS.lrem X.here hx hg hd hs hy (by first | exact hr | (rw [lrem_mod]; exact hr))
end New
end Jvm.RoadKit
namespace Jvm.Pilot.@@N@@
open Jvm Jvm.ClassFile Sem Op Lib Jvm.Free Jvm.Stand Jvm.LawKit Jvm.RoadKit Bundle Jvm.Pilot.@@N@@.Jvm.D
/-- from the state A the body returns with QQ -/
def own_Go (p : Program) (e : Env) (below : List Frame) (s : State) (QQ : Option Value → Heap → List Loc → Prop) (k n : Nat) (A : State) : Prop :=
  ∃ U o, Steps p.tables e below A U ∧ U.status = .running ∧ Ended U below o ∧ ∃ v L, o = .returned v ∧ QQ v U.heap L ∧ FrameEnd s o U L k n
theorem own_go {p : Program} {e : Env} {below : List Frame} {s : State} {QQ : Option Value → Heap → List Loc → Prop} {k n : Nat} {A B : State} (h : ∀ t, Steps p.tables e below B t → Steps p.tables e below A t) (g : own_Go p e below s QQ k n B) : own_Go p e below s QQ k n A := by
  obtain ⟨U, o, h1, r⟩ := g
  exact ⟨U, o, h U h1, r⟩
theorem own_ret {p : Program} {l : Launch} {e : Env} {R : Room} {s : State} {m : MethodId} {args : Array Value} {below : List Frame} {meth : Method} {c : Code} {T : State} {locs : List Loc} {cells slots : Nat} {QQ : Option Value → Heap → List Loc → Prop} {k n : Nat} {A : State}
    (X : Stand p l e R s m args below meth c T locs cells slots) {v : Option Value} (hv : meth.sig.returnType = none → v = none) (hlk : meth.locks = false) (hQ : QQ v T.heap locs) (hk : cells ≤ k) (hn : slots ≤ n)
    (st : ∀ fs, (∀ (f : JFrame) (acts : List Action), f.method = m → f.locked = none → f.entered = [] → (doReturn e (T.setTop f) acts v).1 = T.setFrames fs) → Steps p.tables e below A (T.setFrames fs)) : own_Go p e below s QQ k n A := by
  obtain ⟨fs, hr, hrun, hended, hW, hsame⟩ := X.leave hv hlk
  exact ⟨_, _, st fs hr, hrun, hended, _, _, rfl, hQ, ⟨_, rfl⟩, hW, hsame.mono hk hn⟩
def own_GoW (p : Program) (e : Env) (below : List Frame) (s : State) (QQ : Option Value → Heap → List Loc → Prop) (k n : Nat) (A : State) : Prop :=
  ∃ U o, Steps p.tables e below A U ∧ U.status = .running ∧ Ended U below o ∧ ∃ v L, o = .returned v ∧ QQ v U.heap L ∧ ReturnedEndW s o U L k n
theorem own_goW {p : Program} {e : Env} {below : List Frame} {s : State} {QQ : Option Value → Heap → List Loc → Prop} {k n : Nat} {A B : State} (h : ∀ t, Steps p.tables e below B t → Steps p.tables e below A t) (g : own_GoW p e below s QQ k n B) : own_GoW p e below s QQ k n A := by
  obtain ⟨U, o, h1, r⟩ := g
  exact ⟨U, o, h U h1, r⟩
theorem own_retW {p : Program} {l : Launch} {e : Env} {R : Room} {s : State} {vm₁ : Vm} {m : MethodId} {args : Array Value} {below : List Frame} {meth : Method} {c : Code} {T : State} {locs : List Loc} {cells slots : Nat} {QQ : Option Value → Heap → List Loc → Prop} {k n : Nat} {A : State}
    (X : Stand p l e R (s.setVm vm₁) m args below meth c T locs cells slots) {n1 : Nat} (hS : s.Since vm₁ n1) (hn1 : n1 ≤ T.heap.size) {v : Option Value} (hv : meth.sig.returnType = none → v = none) (hlk : meth.locks = false) (hQ : QQ v T.heap locs) (hk : cells ≤ k) (hn : slots ≤ n)
    (st : ∀ fs, (∀ (f : JFrame) (acts : List Action), f.method = m → f.locked = none → f.entered = [] → (doReturn e (T.setTop f) acts v).1 = T.setFrames fs) → Steps p.tables e below A (T.setFrames fs)) : own_GoW p e below s QQ k n A := by
  obtain ⟨fs, hr, hrun, hended, hq⟩ := X.leaveW hS hn1 hv hlk
  exact ⟨_, _, st fs hr, hrun, hended, _, _, rfl, hQ, hq.1, hq.2.1, hq.2.2.1, hq.2.2.2.mono hk hn⟩
/-- an array by what its places hold -/
def own_Ary (Z : State) (h : Heap) (a : Addr) (ty : FieldType) (n : Nat) (f : Nat → Value) : Prop := ∃ c : Cell, Arr Z h a c ty ∧ c.slots.size = n ∧ ∀ j, j < n → c.slots[j]? = some (f j)
def own_set (f : Nat → Value) (i : Nat) (v : Value) : Nat → Value := fun j => if j = i then v else f j
section
variable {Z : State} {h h' : Heap} {a b : Addr} {ty : FieldType} {n : Nat} {f : Nat → Value}
theorem own_Ary.lt (F : own_Ary Z h a ty n f) : a < h.size := by obtain ⟨c, A, -⟩ := F; exact A.lt
theorem own_Ary.ext (F : own_Ary Z h a ty n f) (E : Ext h h') : own_Ary Z h' a ty n f := by obtain ⟨c, A, r⟩ := F; exact ⟨c, A.ext E, r⟩
theorem own_Ary.other {sl : Nat} {v : Value} (F : own_Ary Z h b ty n f) (W : Wr h h' a sl v) (q : b ≠ a) : own_Ary Z h' b ty n f := by obtain ⟨c, A, r⟩ := F; exact ⟨c, A.other W q, r⟩
theorem own_Ary.keep {ws : List Addr} (F : own_Ary Z h a ty n f) (K : Keep h h' ws) (q : a ∉ ws) : own_Ary Z h' a ty n f := by obtain ⟨c, A, r⟩ := F; exact ⟨c, ⟨K.2.1 a c A.1 q, A.2⟩, r⟩
theorem own_Ary.new {k : ClassId} {z : Int32} (A : Arr Z h a (newA k ty z) ty) (hz : z.toNatClampNeg = n) : own_Ary Z h a ty n (fun _ => defaultValue ty) :=
  ⟨_, A, by rw [sz_new]; exact hz, fun j hj => by simp [newA, hz, hj]⟩
theorem own_Ary.set {c : Cell} {i : Nat} {v : Value} (A : Arr Z h a c ty) (S : c.slots.size = n) (G : ∀ j, j < n → c.slots[j]? = some (f j)) (W : Wr h h' a i v) : own_Ary Z h' a ty n (own_set f i v) := by
  refine ⟨_, A.same W, by rw [sz_set]; exact S, fun j hj => ?_⟩
  simp only [Cell.setSlot, Array.getElem?_setIfInBounds, own_set]
  by_cases q : j = i
  · subst q; simp [S, hj]
  · have q' : ¬ i = j := fun z => q z.symm
    simp [q, q', G j hj]
theorem own_Ary.congr {g : Nat → Value} (F : own_Ary Z h a ty n f) (q : ∀ j, j < n → f j = g j) : own_Ary Z h a ty n g := by
  obtain ⟨c, A, S, G⟩ := F; exact ⟨c, A, S, fun j hj => by rw [G j hj, q j hj]⟩
theorem own_sta_keep {C m d : String} {v : Value} (F : Sta Z h C m d v) (K : Keep h h' []) : Sta Z h' C m d v := by
  obtain ⟨cf, i, k, g, st, cell, h1, h2, h3, h4, h5, r⟩ := F
  exact ⟨cf, i, k, g, st, cell, h1, h2, h3, h4, K.2.1 _ _ h5 nin0, r⟩
theorem own_cl {j : Int32} {i : Nat} (q : j.toInt = (i : Int)) : j.toNatClampNeg = i := by
  show j.toInt.toNat = i
  rw [q]; rfl
theorem own_in {c : Cell} {j : Int32} {i : Nat} (S : c.slots.size = n) (q : j.toInt = (i : Int)) (hi : i < n) : ¬ (j < 0 ∨ c.slots.size ≤ j.toNatClampNeg) := by
  rw [own_cl q, S]
  have h0 : (0 : Int32).toInt = 0 := by decide
  intro z
  rcases z with z | z
  · have := Int32.lt_iff_toInt_lt.mp z; omega
  · omega
end
def own_hex (n : Int32) : Int32 := (if n < (10 : Int32) then (48 : Int32) + n else ((97 : Int32) + n) - (10 : Int32)).toInt8.toInt32
def own_nib (v s : Int32) : Int32 := ((v.toUInt32 >>> (s &&& 31).toUInt32).toInt32) &&& (15 : Int32)
def own_at (x n : Int32) : Int32 := if x = own_hex n then 1 else 0
def own_s (i : Nat) : Int32 := Int32.ofNat (28 - 4 * i)
def own_hv (j : Nat) : Int32 := if j < 48 then -1 else if j < 58 then Int32.ofNat (j - 48) else if j < 97 then -1 else if j < 103 then Int32.ofNat (j - 87) else -1
def own_P (u : Nat → Int32) (k : Nat) (ck : Int32) : Prop := u k = (44 : Int32) ∧ ∀ i, i < 8 → u (k + 1 + i) = own_hex (own_nib ck (own_s i))
theorem own_nb8 (x : Int32) : nar .byte (x.toInt8.toInt32) = x.toInt8.toInt32 := by
  show (x.toInt8.toInt32).toInt8.toInt32 = x.toInt8.toInt32
  rw [Int8.toInt8_toInt32]
theorem own_rb (x : Int32) : -128 ≤ (nar .byte x).toInt ∧ (nar .byte x).toInt ≤ 127 := by
  have := c_i2b x
  show -128 ≤ (x.toInt8.toInt32).toInt ∧ (x.toInt8.toInt32).toInt ≤ 127
  omega
def own_by (f : Nat → Value) : Prop := ∀ j, ∃ x : Int32, f j = .int x ∧ -128 ≤ x.toInt ∧ x.toInt ≤ 127
theorem own_by0 : own_by (fun _ => (.int (0 : Int32))) := fun _ => ⟨_, rfl, by decide, by decide⟩
theorem own_by1 {f : Nat → Value} {i : Nat} {x : Int32} (h : own_by f) : own_by (own_set f i (.int (nar .byte x))) := fun j => by
  unfold own_set
  by_cases q : j = i
  · exact ⟨_, if_pos q, own_rb x⟩
  · obtain ⟨u, hu⟩ := h j; exact ⟨u, by rw [if_neg q]; exact hu.1, hu.2⟩
def own_vi : Value → Int32
  | .int x => x
  | _ => 0
theorem own_byu {f : Nat → Value} (h : own_by f) : ∃ u : Nat → Int32, (∀ j, f j = .int (u j)) ∧ ∀ j, -128 ≤ (u j).toInt ∧ (u j).toInt ≤ 127 := by
  refine ⟨fun j => own_vi (f j), fun j => ?_, fun j => ?_⟩
  · obtain ⟨x, hx, -⟩ := h j; exact hx.trans (congrArg Value.int (congrArg own_vi hx).symm)
  · obtain ⟨x, hx, hr⟩ := h j; show -128 ≤ (own_vi (f j)).toInt ∧ (own_vi (f j)).toInt ≤ 127; rw [hx]; exact hr
theorem own_plus {x : Int32} {s : Nat} {i : Int32} {k : Nat} (h : x.toInt = (s : Int)) (h' : i.toInt = (k : Int)) (q : s + k ≤ 100) : (x + i).toInt = ((s + k : Nat) : Int) := by
  have h1 := c_iadd x i
  have h3 := rng32 (x + i)
  omega
theorem own_and3 (x : Int32) : ∃ n : Nat, (x &&& (3 : Int32)).toInt = (n : Int) ∧ n ≤ 3 := by
  have h1 := c_mask x 3 2 (by decide) (by decide)
  exact ⟨(x &&& (3 : Int32)).toInt.toNat, by omega, by omega⟩
theorem own_pos (x : Int32) : ∃ n : Nat, ((x &&& (2147483647 : Int32)) % (9 : Int32)).toInt = (n : Int) ∧ n ≤ 8 := by
  have h1 := c_and x 2147483647 (by decide)
  have h2 := (c_irem (x &&& (2147483647 : Int32)) 9 9 (by decide)).1 h1.1
  exact ⟨((x &&& (2147483647 : Int32)) % (9 : Int32)).toInt.toNat, by omega, by omega⟩
theorem own_up {P : Nat → Prop} {k : Nat} (h : ∀ j, j < k → P j) (q : P k) : ∀ j, j < k + 1 → P j := fun j hj => by
  by_cases e : j = k
  · subst e; exact q
  · exact h j (by omega)
theorem own_at0 {x n : Int32} (h : own_at x n = 0) : ¬ x = own_hex n := fun q => by unfold own_at at h; rw [if_pos q] at h; exact absurd h (by decide)
theorem own_at1 {x n : Int32} (h : ¬ own_at x n = 0) : x = own_hex n := Classical.byContradiction fun q => h (by unfold own_at; rw [if_neg q])
theorem own_all8 {P : Nat → Prop} (h0 : P 0) (h1 : P 1) (h2 : P 2) (h3 : P 3) (h4 : P 4) (h5 : P 5) (h6 : P 6) (h7 : P 7) : ∀ i, i < 8 → P i := fun i hi => by
  rcases (by omega : i = 0 ∨ i = 1 ∨ i = 2 ∨ i = 3 ∨ i = 4 ∨ i = 5 ∨ i = 6 ∨ i = 7) with rfl | rfl | rfl | rfl | rfl | rfl | rfl | rfl <;> assumption
theorem own_sh {i : Int32} {k : Nat} (h : i.toInt = (k : Int)) (q : k < 8) : (4 : Int32) * ((7 : Int32) - i) = own_s k := by
  have all : ∀ k ∈ List.range 8, (4 : Int32) * ((7 : Int32) - Int32.ofInt ((k : Nat) : Int)) = own_s k := by decide +kernel
  have e : i = Int32.ofInt ((k : Nat) : Int) := by rw [← h, Int32.ofInt_toInt]
  rw [e]
  exact all k (List.mem_range.mpr q)
theorem own_msk (x : Int32) : (x &&& (255 : Int32)).toInt = (((x.toInt % 256).toNat : Nat) : Int) ∧ (x.toInt % 256).toNat < 256 := by
  have h1 := c_mask x 255 8 (by decide) (by decide)
  omega
theorem own_hall : (List.range 256).all (fun z => (List.range 16).all (fun m => decide (own_hv (((((z : Nat) : Int) - 128) % 256).toNat) = Int32.ofInt ((m : Nat) : Int)) == decide (Int32.ofInt (((z : Nat) : Int) - 128) = own_hex (Int32.ofInt ((m : Nat) : Int))))) = true := by decide +kernel
theorem own_hx {x n : Int32} (hx : -128 ≤ x.toInt ∧ x.toInt ≤ 127) (hn : 0 ≤ n.toInt ∧ n.toInt ≤ 15) : own_hv ((x.toInt % 256).toNat) = n ↔ x = own_hex n := by
  have h1 := List.all_eq_true.mp own_hall (x.toInt + 128).toNat (List.mem_range.mpr (by omega))
  have h2 := List.all_eq_true.mp h1 n.toInt.toNat (List.mem_range.mpr (by omega))
  rw [show (((x.toInt + 128).toNat : Nat) : Int) - 128 = x.toInt from by omega, show ((n.toInt.toNat : Nat) : Int) = n.toInt from by omega, Int32.ofInt_toInt, Int32.ofInt_toInt] at h2
  exact decide_eq_decide.mp (beq_iff_eq.mp h2)
theorem own_nibr (v s : Int32) : 0 ≤ (own_nib v s).toInt ∧ (own_nib v s).toInt ≤ 15 := by
  have h1 := c_mask ((v.toUInt32 >>> (s &&& 31).toUInt32).toInt32) 15 4 (by decide) (by decide)
  unfold own_nib
  omega
theorem own_all_or {args : Array Value} {Z : State} {idx : List Nat} {a b : Jvm.Cond} (h : (Jvm.Cond.or a b).value args Z none Z idx = some true) : a.value args Z none Z idx = some true ∨ b.value args Z none Z idx = some true := by
  simp only [Cond.value] at h
  revert h
  cases a.value args Z none Z idx with
  | none => simp
  | some x => cases x <;> simp
theorem own_eqR {Z : State} {args : Array Value} {X F : Term} {idx : List Nat} {a : Addr} (hF : F.eval args Z none idx Z = some (.ref a)) (h : (Jvm.Cond.eq X F).value args Z none Z idx = some true) : X.eval args Z none idx Z = some (.ref a) := by
  obtain ⟨x, y, e1, e2, k1, k2⟩ := cmp_v (Or.inl h)
  cases hF.symm.trans e2
  have hx : x.isRef = true := k2.2
  exact e1.trans (congrArg some (gotT (eq_R e1 e2 hx rfl) h))
theorem own_size {Z : State} {args : Array Value} {t : Term} {a : Addr} {c : Cell} {ty : FieldType} {z : Int32} {n : Nat} (es : t.eval args Z none [] Z = some (.ref a)) (A : Arr Z Z.heap a c ty) (h : (Jvm.Cond.eq (.length t) (.int z)).value args Z none Z [] = some true) (hz : z.toInt = (n : Int)) : c.slots.size = n := by
  have q := eqv_i (Term.int_eval z) h
  have hA := A.fin (Vm.Alike.refl _)
  simp only [Term.eval, es, hA, Option.bind_eq_bind, Option.bind_some] at q
  split at q
  · rename_i hl
    have q' : c.slots.size.toInt32 = z := by simpa using q
    have q2 : (c.slots.size.toInt32).toInt = (c.slots.size : Int) := by
      show (Int32.ofNat c.slots.size).toInt = _
      exact Int32.toInt_ofNat_of_lt hl
    rw [q', hz] at q2
    omega
  · cases q
theorem own_elem {Z : State} {args : Array Value} {t : Term} {a : Addr} {c : Cell} {ty : FieldType} {j : Int32} {i : Nat} {x : Value} (es : t.eval args Z none [] Z = some (.ref a)) (A : Arr Z Z.heap a c ty) (hj : j.toInt = (i : Int)) (h : (Term.elem t (.int j)).eval args Z none [] Z = some x) : c.slots[i]? = some x := by
  have h0 : (0 : Int32).toInt = 0 := by decide
  have hn : ¬ j < 0 := fun q => by have := Int32.lt_iff_toInt_lt.mp q; omega
  rw [elem_f es (Term.int_eval j) (A.fin (Vm.Alike.refl _)) hn, own_cl hj] at h
  exact h
theorem own_orv {args : Array Value} {Z : State} {idx : List Nat} {a b : Jvm.Cond} {P : Prop} [Decidable P] (ha : a.value args Z none Z idx = some (decide P)) (hP : ¬ P) (h : (Jvm.Cond.or a b).value args Z none Z idx = some true) : b.value args Z none Z idx = some true := by
  have hf : a.value args Z none Z idx = some false := by rw [ha, decide_eq_false hP]
  simp only [Cond.value, hf] at h
  revert h
  cases b.value args Z none Z idx with
  | none => simp
  | some x => cases x <;> simp
theorem own_tab {args : Array Value} {Z : State} {t : Term} {a : Addr} {c : Cell} {j : Nat} (es : ∀ idx, t.eval args Z none idx Z = some (.ref a)) (A : Arr Z Z.heap a c .byte) (S : c.slots.size = 256) (hj : j < 256)
    (h1 : (Jvm.Cond.or (.le (.int 48) (.index 0)) (.eq (.elem t (.index 0)) (.int (-1)))).value args Z none Z [j] = some true)
    (h2 : (Jvm.Cond.or (.lt (.index 0) (.int 48)) (.or (.le (.int 58) (.index 0)) (.eq (.elem t (.index 0)) (.sub (.index 0) (.int 48))))).value args Z none Z [j] = some true)
    (h3 : (Jvm.Cond.or (.lt (.index 0) (.int 58)) (.or (.le (.int 97) (.index 0)) (.eq (.elem t (.index 0)) (.int (-1))))).value args Z none Z [j] = some true)
    (h4 : (Jvm.Cond.or (.lt (.index 0) (.int 97)) (.or (.le (.int 103) (.index 0)) (.eq (.elem t (.index 0)) (.sub (.index 0) (.int 87))))).value args Z none Z [j] = some true)
    (h5 : (Jvm.Cond.or (.lt (.index 0) (.int 103)) (.eq (.elem t (.index 0)) (.int (-1)))).value args Z none Z [j] = some true) : c.slots[j]? = some (.int (own_hv j)) := by
  have e1 : (Int32.ofNat j).toInt = (j : Int) := Int32.toInt_ofNat_of_lt (by omega)
  have e2 : (Int32.ofNat j).toNatClampNeg = j := own_cl e1
  have h0 : (0 : Int32).toInt = 0 := by decide
  have nn : ¬ (Int32.ofNat j) < 0 := fun q => by have := Int32.lt_iff_toInt_lt.mp q; omega
  have e3 := idx_at (args := args) (first := Z) (s := Z) (o := none) nn
  rw [e2] at e3
  have e4 := elem_f (es [j]) e3 (A.fin (Vm.Alike.refl _)) nn
  rw [e2] at e4
  have key : ∀ x : Int32, (Term.elem t (.index 0)).eval args Z none [j] Z = some (.int x) → x = own_hv j → c.slots[j]? = some (.int (own_hv j)) := fun x hx hy => by rw [← hy, ← e4]; exact hx
  have l48 : (48 : Int32).toInt = 48 := by decide
  have l58 : (58 : Int32).toInt = 58 := by decide
  have l97 : (97 : Int32).toInt = 97 := by decide
  have l103 : (103 : Int32).toInt = 103 := by decide
  have le : ∀ z : Int32, (Jvm.Cond.le (.int z) (.index 0)).value args Z none Z [j] = some (decide (z ≤ Int32.ofNat j)) := fun z => Cond.le_ints (Term.int_eval z) e3
  have lt : ∀ z : Int32, (Jvm.Cond.lt (.index 0) (.int z)).value args Z none Z [j] = some (decide (Int32.ofNat j < z)) := fun z => Cond.lt_ints e3 (Term.int_eval z)
  have sb : ∀ z : Int32, (Term.sub (.index 0) (.int z)).eval args Z none [j] Z = some (.int (Int32.ofNat j - z)) := fun z => by simp [Term.eval, e3]
  have nle : ∀ (z : Int32) (n : Nat), z.toInt = (n : Int) → j < n → ¬ z ≤ Int32.ofNat j := fun z n hz hn q => by have := Int32.le_iff_toInt_le.mp q; omega
  have nlt : ∀ (z : Int32) (n : Nat), z.toInt = (n : Int) → n ≤ j → ¬ Int32.ofNat j < z := fun z n hz hn q => by have := Int32.lt_iff_toInt_lt.mp q; omega
  have sv : ∀ (k : Nat), k ≤ j → Int32.ofNat j - Int32.ofNat k = Int32.ofNat (j - k) := fun k hk => by
    apply Int32.toInt_inj.mp
    have q1 := c_isub (Int32.ofNat j) (Int32.ofNat k)
    have q2 : (Int32.ofNat k).toInt = (k : Int) := Int32.toInt_ofNat_of_lt (by omega)
    have q3 : (Int32.ofNat (j - k)).toInt = ((j - k : Nat) : Int) := Int32.toInt_ofNat_of_lt (by omega)
    have q4 := rng32 (Int32.ofNat j - Int32.ofNat k)
    omega
  unfold own_hv at key ⊢
  by_cases c1 : j < 48
  · rw [if_pos c1] at key ⊢
    exact key _ (eqv_i (Term.int_eval _) (own_orv (le 48) (nle 48 48 l48 c1) h1)) rfl
  · rw [if_neg c1] at key ⊢
    by_cases c2 : j < 58
    · rw [if_pos c2] at key ⊢
      exact key _ (eqv_i (sb 48) (own_orv (le 58) (nle 58 58 l58 c2) (own_orv (lt 48) (nlt 48 48 l48 (by omega)) h2))) (sv 48 (by omega))
    · rw [if_neg c2] at key ⊢
      by_cases c3 : j < 97
      · rw [if_pos c3] at key ⊢
        exact key _ (eqv_i (Term.int_eval _) (own_orv (le 97) (nle 97 97 l97 c3) (own_orv (lt 58) (nlt 58 58 l58 (by omega)) h3))) rfl
      · rw [if_neg c3] at key ⊢
        by_cases c4 : j < 103
        · rw [if_pos c4] at key ⊢
          exact key _ (eqv_i (sb 87) (own_orv (le 103) (nle 103 103 l103 c4) (own_orv (lt 97) (nlt 97 97 l97 (by omega)) h4))) (sv 87 (by omega))
        · rw [if_neg c4] at key ⊢
          exact key _ (eqv_i (Term.int_eval _) (own_orv (lt 103) (nlt 103 103 l103 (by omega)) h5)) rfl
theorem pn_0 : plainName "com/example/ledgerstrike/ledgerstrike/journal/JournalFormatSealedWithPinLaw" = true := by first | (simp [plainName, overriddenIn]; done) | decide +kernel
theorem d1_0 : decode method_2_code 0 = .ok (.iload_n 0, 1) := by decide +kernel
theorem d1_1 : decode method_2_code 1 = .ok (.bipush 10, 2) := by decide +kernel
theorem d1_3 : decode method_2_code 3 = .ok (.if_icmp .ge 10, 3) := by decide +kernel
theorem d1_6 : decode method_2_code 6 = .ok (.bipush 48, 2) := by decide +kernel
theorem d1_8 : decode method_2_code 8 = .ok (.iload_n 0, 1) := by decide +kernel
theorem d1_9 : decode method_2_code 9 = .ok (.iadd, 1) := by decide +kernel
theorem d1_10 : decode method_2_code 10 = .ok (.goto 10, 3) := by decide +kernel
theorem d1_20 : decode method_2_code 20 = .ok (.i2b, 1) := by decide +kernel
theorem d1_21 : decode method_2_code 21 = .ok (.ireturn, 1) := by decide +kernel
theorem d1_13 : decode method_2_code 13 = .ok (.bipush 97, 2) := by decide +kernel
theorem d1_15 : decode method_2_code 15 = .ok (.iload_n 0, 1) := by decide +kernel
theorem d1_16 : decode method_2_code 16 = .ok (.iadd, 1) := by decide +kernel
theorem d1_17 : decode method_2_code 17 = .ok (.bipush 10, 2) := by decide +kernel
theorem d1_19 : decode method_2_code 19 = .ok (.isub, 1) := by decide +kernel
theorem ef_1 (m : MethodId) (p0 : Int32) : entryFrame m #[(.int p0)] 1 = mkF m 0 #[.val (.int p0)] [] := by first | (simp [entryFrame, mkF, argsToLocals, Value.category]; done) | rfl
def Q1 (Z : State) (p0 : Int32) (h0 : Heap) (n0 : Nat) (v : Option Value) (h : Heap) (L : List Loc) : Prop := v = some (.int (own_hex p0)) ∧ Fr n0 L ∧ h = h0
set_option maxRecDepth 65536 in
set_option maxHeartbeats 40000000 in
theorem rm1 (l : Launch) (Z : State) (a0 : Array Value) (hw : ∀ d ∈ tables_1, d.before a0 Z = true) (ws : List Jvm.Cond) (p0 : Int32) (h0 : Heap) (n0 : Nat) (Z0 : n0 ≤ h0.size) :
    MetFree l (⟨"com/example/ledgerstrike/ledgerstrike/journal/JournalFormatSealedWithPinLaw", "hex", "(I)B"⟩ : MethodName) (head1 (Jvm.Cond.code (⟨"com/example/ledgerstrike/ledgerstrike/journal/JournalFormatSealedWithPinLaw", "hex", "(I)B"⟩ : MethodName) method_2_code 1 (some .byte) :: ws) ({ frames := 0, cells := 0, slots := 0, locals := 0 } : Room)) (fun a U => a = #[(.int p0)] ∧ Z.Warmed39 U.vm ∧ U.heap = h0) (fun _ _ _ _ _ => True) (fun _ U o U' => ∃ v L, o = .returned v ∧ Q1 Z p0 h0 n0 v U'.heap L ∧ FrameEnd U o U' L (({ frames := 0, cells := 0, slots := 0, locals := 0 } : Room)).cells (({ frames := 0, cells := 0, slots := 0, locals := 0 } : Room)).slots) := by
  refine MetFree.of_bodySF (plainFor_of_name pn_0) hisR ?_
  intro p e s m args below meth c s₁ Bd hml0 hP hK
  obtain ⟨rfl, hZ, hh⟩ := hP
  have hx := Bd.exec
  have hby := Bd.bytes
  have hml : c.maxLocals = 1 := hml0
  have hown : s.vm.findClass "com/example/ledgerstrike/ledgerstrike/journal/JournalFormatSealedWithPinLaw" = some m.cls := findClass_of_methodNamed Bd.named
  have hnm := (name_of_methodNamed Bd.named Bd.method).1
  have hlk : meth.locks = false := Bd.notSynchronized
  have X0 : Stand p l e ({ frames := 0, cells := 0, slots := 0, locals := 0 } : Room) s m #[(.int p0)] below meth c s₁ [] 0 0 := Stand.of_body Bd
  have e0 : s₁.heap = h0 := by rw [← hh, Bd.state]; rfl
  have N0 := Fr.nil n0
  have hret := Bd.returns
  show own_Go p e below s (Q1 Z p0 h0 n0) _ _ (s₁.setTop (entryFrame m #[(.int p0)] 1))
  refine own_go (fun t k => castTop (ef_1 m p0) k) ?_
  show own_Go p e below s _ _ _ (s₁.setTop (mkF m 0 #[.val (.int p0)] []))
  refine own_go (fun t_ kt_ => XS.iloadN X0.here hx rfl (hb hby d1_0) rfl kt_) ?_
  show own_Go p e below s _ _ _ (s₁.setTop (mkF m 1 #[.val (.int p0)] [(.int p0)]))
  refine own_go (fun t_ kt_ => XS.bipush X0.here hx rfl (hb hby d1_1) kt_) ?_
  show own_Go p e below s _ _ _ (s₁.setTop (mkF m 3 #[.val (.int p0)] [(.int (10 : Int32)), (.int p0)]))
  by_cases hc3 : p0 < (10 : Int32)
  · skip
    have hi3 : p0.toInt < 10 := Int32.lt_iff_toInt_lt.mp hc3
    refine own_go (fun t_ kt_ => XS.icmpNo X0.here hx rfl (hb hby d1_3) rfl (tlt hc3).2.1 kt_) ?_
    show own_Go p e below s _ _ _ (s₁.setTop (mkF m 6 #[.val (.int p0)] []))
    refine own_go (fun t_ kt_ => XS.bipush X0.here hx rfl (hb hby d1_6) kt_) ?_
    show own_Go p e below s _ _ _ (s₁.setTop (mkF m 8 #[.val (.int p0)] [(.int (48 : Int32))]))
    refine own_go (fun t_ kt_ => XS.iloadN X0.here hx rfl (hb hby d1_8) rfl kt_) ?_
    show own_Go p e below s _ _ _ (s₁.setTop (mkF m 9 #[.val (.int p0)] [(.int p0), (.int (48 : Int32))]))
    refine own_go (fun t_ kt_ => XS.iadd X0.here hx rfl (hb hby d1_9) rfl kt_) ?_
    show own_Go p e below s _ _ _ (s₁.setTop (mkF m 10 #[.val (.int p0)] [(.int ((48 : Int32) + p0))]))
    refine own_go (fun t_ kt_ => XS.goto X0.here hx rfl (pc0 := 10) (pc' := 20) rfl (hb hby d1_10) (by decide) (by decide) kt_) ?_
    show own_Go p e below s _ _ _ (s₁.setTop (mkF m 20 #[.val (.int p0)] [(.int ((48 : Int32) + p0))]))
    refine own_go (fun t_ kt_ => XS.i2b X0.here hx rfl (hb hby d1_20) rfl kt_) ?_
    show own_Go p e below s _ _ _ (s₁.setTop (mkF m 21 #[.val (.int p0)] [(.int (((48 : Int32) + p0).toInt8.toInt32))]))
    refine own_ret X0 (v := some (.int (nar .byte (((48 : Int32) + p0).toInt8.toInt32)))) (fun h => by rw [hret] at h; cases h) hlk ?_ (by decide) (by decide) (fun fs hr => retN X0 hx (t := .byte) hret (by simp) (hb hby d1_21) hr)
    show Q1 Z p0 h0 n0 (some (.int (nar .byte (((48 : Int32) + p0).toInt8.toInt32)))) s₁.heap _
    rw [e0]
    exact ⟨congrArg (fun z => some (Value.int z)) ((own_nb8 _).trans (by unfold own_hex; first | rw [if_pos hc3] | rw [if_neg hc3])), N0, rfl⟩
  · skip
    have hi3 : ¬ p0.toInt < 10 := fun q => hc3 (Int32.lt_iff_toInt_lt.mpr q)
    refine own_go (fun t_ kt_ => XS.icmpYes X0.here hx rfl (pc0 := 3) (pc' := 13) rfl (hb hby d1_3) rfl (flt hc3).2.1 (by decide) (by decide) kt_) ?_
    show own_Go p e below s _ _ _ (s₁.setTop (mkF m 13 #[.val (.int p0)] []))
    refine own_go (fun t_ kt_ => XS.bipush X0.here hx rfl (hb hby d1_13) kt_) ?_
    show own_Go p e below s _ _ _ (s₁.setTop (mkF m 15 #[.val (.int p0)] [(.int (97 : Int32))]))
    refine own_go (fun t_ kt_ => XS.iloadN X0.here hx rfl (hb hby d1_15) rfl kt_) ?_
    show own_Go p e below s _ _ _ (s₁.setTop (mkF m 16 #[.val (.int p0)] [(.int p0), (.int (97 : Int32))]))
    refine own_go (fun t_ kt_ => XS.iadd X0.here hx rfl (hb hby d1_16) rfl kt_) ?_
    show own_Go p e below s _ _ _ (s₁.setTop (mkF m 17 #[.val (.int p0)] [(.int ((97 : Int32) + p0))]))
    refine own_go (fun t_ kt_ => XS.bipush X0.here hx rfl (hb hby d1_17) kt_) ?_
    show own_Go p e below s _ _ _ (s₁.setTop (mkF m 19 #[.val (.int p0)] [(.int (10 : Int32)), (.int ((97 : Int32) + p0))]))
    refine own_go (fun t_ kt_ => XS.isub X0.here hx rfl (hb hby d1_19) rfl kt_) ?_
    show own_Go p e below s _ _ _ (s₁.setTop (mkF m 20 #[.val (.int p0)] [(.int (((97 : Int32) + p0) - (10 : Int32)))]))
    refine own_go (fun t_ kt_ => XS.i2b X0.here hx rfl (hb hby d1_20) rfl kt_) ?_
    show own_Go p e below s _ _ _ (s₁.setTop (mkF m 21 #[.val (.int p0)] [(.int ((((97 : Int32) + p0) - (10 : Int32)).toInt8.toInt32))]))
    refine own_ret X0 (v := some (.int (nar .byte ((((97 : Int32) + p0) - (10 : Int32)).toInt8.toInt32)))) (fun h => by rw [hret] at h; cases h) hlk ?_ (by decide) (by decide) (fun fs hr => retN X0 hx (t := .byte) hret (by simp) (hb hby d1_21) hr)
    show Q1 Z p0 h0 n0 (some (.int (nar .byte ((((97 : Int32) + p0) - (10 : Int32)).toInt8.toInt32)))) s₁.heap _
    rw [e0]
    exact ⟨congrArg (fun z => some (Value.int z)) ((own_nb8 _).trans (by unfold own_hex; first | rw [if_pos hc3] | rw [if_neg hc3])), N0, rfl⟩
theorem d2_0 : decode method_3_code 0 = .ok (.aload_n 0, 1) := by decide +kernel
theorem d2_1 : decode method_3_code 1 = .ok (.iload_n 1, 1) := by decide +kernel
theorem d2_2 : decode method_3_code 2 = .ok (.baload, 1) := by decide +kernel
theorem d2_3 : decode method_3_code 3 = .ok (.iload_n 2, 1) := by decide +kernel
theorem d2_4 : decode method_3_code 4 = .ok (.iload_n 3, 1) := by decide +kernel
theorem d2_5 : decode method_3_code 5 = .ok (.iushr, 1) := by decide +kernel
theorem d2_6 : decode method_3_code 6 = .ok (.bipush 15, 2) := by decide +kernel
theorem d2_8 : decode method_3_code 8 = .ok (.iand, 1) := by decide +kernel
theorem d2_9 : decode method_3_code 9 = .ok (.invokestatic 7, 3) := by decide +kernel
theorem pd_0 : parseMethodDescriptor "(I)B" = some ⟨[.int], some .byte⟩ := by decide +kernel
theorem d2_12 : decode method_3_code 12 = .ok (.if_icmp .ne 7, 3) := by decide +kernel
theorem d2_15 : decode method_3_code 15 = .ok (.iconst 1, 1) := by decide +kernel
theorem d2_16 : decode method_3_code 16 = .ok (.goto 4, 3) := by decide +kernel
theorem d2_20 : decode method_3_code 20 = .ok (.ireturn, 1) := by decide +kernel
theorem d2_19 : decode method_3_code 19 = .ok (.iconst 0, 1) := by decide +kernel
theorem ef_2 (m : MethodId) (r0 : Addr) (p1 : Int32) (p2 : Int32) (p3 : Int32) : entryFrame m #[(.ref r0), (.int p1), (.int p2), (.int p3)] 4 = mkF m 0 #[.val (.ref r0), .val (.int p1), .val (.int p2), .val (.int p3)] [] := by first | (simp [entryFrame, mkF, argsToLocals, Value.category]; done) | rfl
def Q2 (Z : State) (r0 : Addr) (p1 : Int32) (p2 : Int32) (p3 : Int32) (u : Nat → Int32) (i : Nat) (h0 : Heap) (n0 : Nat) (v : Option Value) (h : Heap) (L : List Loc) : Prop := v = some (.int (own_at (u i) (own_nib p2 p3))) ∧ Fr n0 L ∧ h = h0
set_option maxRecDepth 65536 in
set_option maxHeartbeats 40000000 in
theorem rm2 (l : Launch) (Z : State) (a0 : Array Value) (hw : ∀ d ∈ tables_1, d.before a0 Z = true) (ws : List Jvm.Cond) (r0 : Addr) (p1 : Int32) (p2 : Int32) (p3 : Int32) (u : Nat → Int32) (i : Nat) (h0 : Heap) (n0 : Nat) (Z0 : n0 ≤ h0.size) (A0 : own_Ary Z h0 r0 .byte 12 (fun j => .int (u j))) (c1 : p1.toInt = (i : Int)) (c2 : i < 12) :
    MetFree l (⟨"com/example/ledgerstrike/ledgerstrike/journal/JournalFormatSealedWithPinLaw", "at", "([BIII)Z"⟩ : MethodName) (head1 (Jvm.Cond.code (⟨"com/example/ledgerstrike/ledgerstrike/journal/JournalFormatSealedWithPinLaw", "at", "([BIII)Z"⟩ : MethodName) method_3_code 4 (some .boolean) :: ws) ({ frames := 1, cells := 0, slots := 0, locals := 13 } : Room)) (fun a U => a = #[(.ref r0), (.int p1), (.int p2), (.int p3)] ∧ Z.Warmed39 U.vm ∧ U.heap = h0) (fun _ _ _ _ _ => True) (fun _ U o U' => ∃ v L, o = .returned v ∧ Q2 Z r0 p1 p2 p3 u i h0 n0 v U'.heap L ∧ FrameEnd U o U' L (({ frames := 1, cells := 0, slots := 0, locals := 13 } : Room)).cells (({ frames := 1, cells := 0, slots := 0, locals := 13 } : Room)).slots) := by
  refine MetFree.of_bodySF (plainFor_of_name pn_0) hisR ?_
  intro p e s m args below meth c s₁ Bd hml0 hP hK
  obtain ⟨rfl, hZ, hh⟩ := hP
  have hx := Bd.exec
  have hby := Bd.bytes
  have hml : c.maxLocals = 4 := hml0
  have hown : s.vm.findClass "com/example/ledgerstrike/ledgerstrike/journal/JournalFormatSealedWithPinLaw" = some m.cls := findClass_of_methodNamed Bd.named
  have hnm := (name_of_methodNamed Bd.named Bd.method).1
  have hlk : meth.locks = false := Bd.notSynchronized
  have X0 : Stand p l e ({ frames := 1, cells := 0, slots := 0, locals := 13 } : Room) s m #[(.ref r0), (.int p1), (.int p2), (.int p3)] below meth c s₁ [] 0 0 := Stand.of_body Bd
  have e0 : s₁.heap = h0 := by rw [← hh, Bd.state]; rfl
  have N0 := Fr.nil n0
  have hret := Bd.returns
  show own_Go p e below s (Q2 Z r0 p1 p2 p3 u i h0 n0) _ _ (s₁.setTop (entryFrame m #[(.ref r0), (.int p1), (.int p2), (.int p3)] 4))
  refine own_go (fun t k => castTop (ef_2 m r0 p1 p2 p3) k) ?_
  show own_Go p e below s _ _ _ (s₁.setTop (mkF m 0 #[.val (.ref r0), .val (.int p1), .val (.int p2), .val (.int p3)] []))
  refine own_go (fun t_ kt_ => XS.aloadN X0.here hx rfl (hb hby d2_0) rfl rfl kt_) ?_
  show own_Go p e below s _ _ _ (s₁.setTop (mkF m 1 #[.val (.ref r0), .val (.int p1), .val (.int p2), .val (.int p3)] [(.ref r0)]))
  refine own_go (fun t_ kt_ => XS.iloadN X0.here hx rfl (hb hby d2_1) rfl kt_) ?_
  show own_Go p e below s _ _ _ (s₁.setTop (mkF m 2 #[.val (.ref r0), .val (.int p1), .val (.int p2), .val (.int p3)] [(.int p1), (.ref r0)]))
  obtain ⟨ce1, Ar1, S1, G1⟩ := id A0
  have q1 : ce1.slots[(p1).toNatClampNeg]? = some (.int (u i)) := by rw [own_cl (j := p1) (i := i) c1]; exact (G1 _ c2).trans (congrArg some (rfl))
  refine own_go (fun t_ kt_ => X0.baloadBytes hx (j := p1) (v := (.int (u i))) (by rw [e0]; exact Ar1.1) (State.isArrayOf_alike hZ.alike Ar1.2.1) Ar1.2.2 (own_in (i := i) S1 c1 c2) q1 (g := (mkF m 2 #[.val (.ref r0), .val (.int p1), .val (.int p2), .val (.int p3)] [(.int p1), (.ref r0)])) rfl rfl (hb hby d2_2) _ kt_) ?_
  show own_Go p e below s _ _ _ (s₁.setTop (mkF m 3 #[.val (.ref r0), .val (.int p1), .val (.int p2), .val (.int p3)] [(.int (u i))]))
  refine own_go (fun t_ kt_ => XS.iloadN X0.here hx rfl (hb hby d2_3) rfl kt_) ?_
  show own_Go p e below s _ _ _ (s₁.setTop (mkF m 4 #[.val (.ref r0), .val (.int p1), .val (.int p2), .val (.int p3)] [(.int p2), (.int (u i))]))
  refine own_go (fun t_ kt_ => XS.iloadN X0.here hx rfl (hb hby d2_4) rfl kt_) ?_
  show own_Go p e below s _ _ _ (s₁.setTop (mkF m 5 #[.val (.ref r0), .val (.int p1), .val (.int p2), .val (.int p3)] [(.int p3), (.int p2), (.int (u i))]))
  refine own_go (fun t_ kt_ => XS.iushr X0.here hx rfl (hb hby d2_5) rfl kt_) ?_
  show own_Go p e below s _ _ _ (s₁.setTop (mkF m 6 #[.val (.ref r0), .val (.int p1), .val (.int p2), .val (.int p3)] [(.int ((p2.toUInt32 >>> (p3 &&& 31).toUInt32).toInt32)), (.int (u i))]))
  refine own_go (fun t_ kt_ => XS.bipush X0.here hx rfl (hb hby d2_6) kt_) ?_
  show own_Go p e below s _ _ _ (s₁.setTop (mkF m 8 #[.val (.ref r0), .val (.int p1), .val (.int p2), .val (.int p3)] [(.int (15 : Int32)), (.int ((p2.toUInt32 >>> (p3 &&& 31).toUInt32).toInt32)), (.int (u i))]))
  refine own_go (fun t_ kt_ => XS.iand X0.here hx rfl (hb hby d2_8) rfl kt_) ?_
  show own_Go p e below s _ _ _ (s₁.setTop (mkF m 9 #[.val (.ref r0), .val (.int p1), .val (.int p2), .val (.int p3)] [(.int (((p2.toUInt32 >>> (p3 &&& 31).toUInt32).toInt32) &&& (15 : Int32))), (.int (u i))]))
  obtain ⟨_, _, ⟨T2, L2, k2, n2⟩, -, X2, ⟨Lc2, hQ2, l2, y2, z2⟩, st2⟩ := Jvm.LawKit.callS X0 hx (y := (⟨"com/example/ledgerstrike/ledgerstrike/journal/JournalFormatSealedWithPinLaw", "hex", "(I)B"⟩ : MethodName)) hown (mvT hZ (hw _ (List.mem_of_getElem? (i := 1) rfl))) (mvT hZ (hw _ (List.mem_of_getElem? (i := 2) rfl))) (mvT hZ (hw _ (List.mem_of_getElem? (i := 3) rfl))) (mvT hZ (hw _ (List.mem_of_getElem? (i := 4) rfl))) (by decide) (backOf (W := 1) (rm1 l Z a0 hw [] ((((p2.toUInt32 >>> (p3 &&& 31).toUInt32).toInt32) &&& (15 : Int32))) h0 n0 Z0 ) hZ (hw _ (List.mem_of_getElem? (i := 4) rfl)) (hw _ (List.mem_of_getElem? (i := 3) rfl)) (by decide) (by decide)) (g := (mkF m 9 #[.val (.ref r0), .val (.int p1), .val (.int p2), .val (.int p3)] [(.int (((p2.toUInt32 >>> (p3 &&& 31).toUInt32).toInt32) &&& (15 : Int32))), (.int (u i))])) rfl (by rw [hml]; rfl) (argsL := [(.int (((p2.toUInt32 >>> (p3 &&& 31).toUInt32).toInt32) &&& (15 : Int32)))]) (rest := [(.int (u i))]) (lenOf pd_0 rfl) rfl (by show 2 * 0 + _ ≤ _; exact Nat.le_of_eq rfl) (hb hby d2_9) (fun _ _ => ⟨rfl, e0, (by decide : 0 + 0 ≤ _), (by decide : 0 + 0 ≤ _)⟩)
  dsimp only [Pt.U, Pt.locs, Pt.cells, Pt.slots] at X2 l2 y2 z2 st2 hQ2
  subst l2 y2 z2
  obtain ⟨rfl, Nq2, eh2⟩ := hQ2
  have N2 := Fr.app N0 Nq2
  refine own_go (fun t_ kt_ => st2 _ kt_) ?_
  obtain ⟨lo2, X2g, N2g⟩ : ∃ lo, Stand p l e ({ frames := 1, cells := 0, slots := 0, locals := 13 } : Room) s m #[(.ref r0), (.int p1), (.int p2), (.int p3)] below meth c T2 lo 0 0 ∧ Fr n0 lo := ⟨_, X2, N2⟩
  have e2 : T2.heap = h0 := eh2
  show own_Go p e below s _ _ _ (T2.setTop (mkF m 12 #[.val (.ref r0), .val (.int p1), .val (.int p2), .val (.int p3)] [(.int (own_hex (((p2.toUInt32 >>> (p3 &&& 31).toUInt32).toInt32) &&& (15 : Int32)))), (.int (u i))]))
  by_cases hc12 : (u i) = (own_hex (((p2.toUInt32 >>> (p3 &&& 31).toUInt32).toInt32) &&& (15 : Int32)))
  · skip
    have hi12 : ((u i)).toInt = ((own_hex (((p2.toUInt32 >>> (p3 &&& 31).toUInt32).toInt32) &&& (15 : Int32)))).toInt := congrArg Int32.toInt hc12
    refine own_go (fun t_ kt_ => XS.icmpNo X2g.here hx rfl (hb hby d2_12) rfl (teq hc12).2 kt_) ?_
    show own_Go p e below s _ _ _ (T2.setTop (mkF m 15 #[.val (.ref r0), .val (.int p1), .val (.int p2), .val (.int p3)] []))
    refine own_go (fun t_ kt_ => XS.iconst X2g.here hx rfl (hb hby d2_15) kt_) ?_
    show own_Go p e below s _ _ _ (T2.setTop (mkF m 16 #[.val (.ref r0), .val (.int p1), .val (.int p2), .val (.int p3)] [(.int (1 : Int32))]))
    refine own_go (fun t_ kt_ => XS.goto X2g.here hx rfl (pc0 := 16) (pc' := 20) rfl (hb hby d2_16) (by decide) (by decide) kt_) ?_
    show own_Go p e below s _ _ _ (T2.setTop (mkF m 20 #[.val (.ref r0), .val (.int p1), .val (.int p2), .val (.int p3)] [(.int (1 : Int32))]))
    refine own_ret X2g (v := some (.int (1 : Int32))) (fun h => by rw [hret] at h; cases h) hlk ?_ (by decide) (by decide) (fun fs hr => retN X2g hx (t := .boolean) hret (by simp) (hb hby d2_20) hr)
    show Q2 Z r0 p1 p2 p3 u i h0 n0 (some (.int (1 : Int32))) T2.heap _
    rw [e2]
    exact ⟨congrArg (fun z => some (Value.int z)) (by unfold own_at; first | exact (if_pos hc12).symm | exact (if_neg hc12).symm), N2g, rfl⟩
  · skip
    have hi12 : ¬ ((u i)).toInt = ((own_hex (((p2.toUInt32 >>> (p3 &&& 31).toUInt32).toInt32) &&& (15 : Int32)))).toInt := fun q => hc12 (Int32.toInt_inj.mp q)
    refine own_go (fun t_ kt_ => XS.icmpYes X2g.here hx rfl (pc0 := 12) (pc' := 19) rfl (hb hby d2_12) rfl (feq hc12).2 (by decide) (by decide) kt_) ?_
    show own_Go p e below s _ _ _ (T2.setTop (mkF m 19 #[.val (.ref r0), .val (.int p1), .val (.int p2), .val (.int p3)] []))
    refine own_go (fun t_ kt_ => XS.iconst X2g.here hx rfl (hb hby d2_19) kt_) ?_
    show own_Go p e below s _ _ _ (T2.setTop (mkF m 20 #[.val (.ref r0), .val (.int p1), .val (.int p2), .val (.int p3)] [(.int (0 : Int32))]))
    refine own_ret X2g (v := some (.int (0 : Int32))) (fun h => by rw [hret] at h; cases h) hlk ?_ (by decide) (by decide) (fun fs hr => retN X2g hx (t := .boolean) hret (by simp) (hb hby d2_20) hr)
    show Q2 Z r0 p1 p2 p3 u i h0 n0 (some (.int (0 : Int32))) T2.heap _
    rw [e2]
    exact ⟨congrArg (fun z => some (Value.int z)) (by unfold own_at; first | exact (if_pos hc12).symm | exact (if_neg hc12).symm), N2g, rfl⟩
theorem pn_1 : plainName "com/example/ledgerstrike/ledgerstrike/journal/JournalFormat" = true := by first | (simp [plainName, overriddenIn]; done) | decide +kernel
theorem d3_75 : decode prog_24_method_11_code 75 = .ok (.iload_n 3, 1) := by decide +kernel
theorem d3_76 : decode prog_24_method_11_code 76 = .ok (.ireturn, 1) := by decide +kernel
theorem d3_17 : decode prog_24_method_11_code 17 = .ok (.iload_n 3, 1) := by decide +kernel
theorem d3_18 : decode prog_24_method_11_code 18 = .ok (.ifCond .eq 57, 3) := by decide +kernel
theorem d3_21 : decode prog_24_method_11_code 21 = .ok (.iload 4, 2) := by decide +kernel
theorem d3_23 : decode prog_24_method_11_code 23 = .ok (.bipush 8, 2) := by decide +kernel
theorem d3_25 : decode prog_24_method_11_code 25 = .ok (.if_icmp .ge 50, 3) := by decide +kernel
theorem d3_28 : decode prog_24_method_11_code 28 = .ok (.iload_n 0, 1) := by decide +kernel
theorem d3_29 : decode prog_24_method_11_code 29 = .ok (.iconst 4, 1) := by decide +kernel
theorem d3_30 : decode prog_24_method_11_code 30 = .ok (.bipush 7, 2) := by decide +kernel
theorem d3_32 : decode prog_24_method_11_code 32 = .ok (.iload 4, 2) := by decide +kernel
theorem d3_34 : decode prog_24_method_11_code 34 = .ok (.isub, 1) := by decide +kernel
theorem d3_35 : decode prog_24_method_11_code 35 = .ok (.imul, 1) := by decide +kernel
theorem d3_36 : decode prog_24_method_11_code 36 = .ok (.iushr, 1) := by decide +kernel
theorem d3_37 : decode prog_24_method_11_code 37 = .ok (.bipush 15, 2) := by decide +kernel
theorem d3_39 : decode prog_24_method_11_code 39 = .ok (.iand, 1) := by decide +kernel
theorem d3_40 : decode prog_24_method_11_code 40 = .ok (.istore 5, 2) := by decide +kernel
theorem d3_42 : decode prog_24_method_11_code 42 = .ok (.getstatic 101, 3) := by decide +kernel
theorem d3_45 : decode prog_24_method_11_code 45 = .ok (.aload_n 1, 1) := by decide +kernel
theorem d3_46 : decode prog_24_method_11_code 46 = .ok (.iload_n 2, 1) := by decide +kernel
theorem d3_47 : decode prog_24_method_11_code 47 = .ok (.iconst 1, 1) := by decide +kernel
theorem d3_48 : decode prog_24_method_11_code 48 = .ok (.iadd, 1) := by decide +kernel
theorem d3_49 : decode prog_24_method_11_code 49 = .ok (.iload 4, 2) := by decide +kernel
theorem d3_51 : decode prog_24_method_11_code 51 = .ok (.iadd, 1) := by decide +kernel
theorem d3_52 : decode prog_24_method_11_code 52 = .ok (.baload, 1) := by decide +kernel
theorem d3_53 : decode prog_24_method_11_code 53 = .ok (.sipush 255, 3) := by decide +kernel
theorem d3_56 : decode prog_24_method_11_code 56 = .ok (.iand, 1) := by decide +kernel
theorem d3_57 : decode prog_24_method_11_code 57 = .ok (.baload, 1) := by decide +kernel
theorem d3_58 : decode prog_24_method_11_code 58 = .ok (.iload 5, 2) := by decide +kernel
theorem d3_60 : decode prog_24_method_11_code 60 = .ok (.if_icmp .ne 7, 3) := by decide +kernel
theorem d3_63 : decode prog_24_method_11_code 63 = .ok (.iconst 1, 1) := by decide +kernel
theorem d3_64 : decode prog_24_method_11_code 64 = .ok (.goto 4, 3) := by decide +kernel
theorem d3_68 : decode prog_24_method_11_code 68 = .ok (.istore_n 3, 1) := by decide +kernel
theorem d3_69 : decode prog_24_method_11_code 69 = .ok (.iinc 4 1, 3) := by decide +kernel
theorem d3_72 : decode prog_24_method_11_code 72 = .ok (.goto (-55), 3) := by decide +kernel
theorem d3_67 : decode prog_24_method_11_code 67 = .ok (.iconst 0, 1) := by decide +kernel
theorem d3_0 : decode prog_24_method_11_code 0 = .ok (.aload_n 1, 1) := by decide +kernel
theorem d3_1 : decode prog_24_method_11_code 1 = .ok (.iload_n 2, 1) := by decide +kernel
theorem d3_2 : decode prog_24_method_11_code 2 = .ok (.baload, 1) := by decide +kernel
theorem d3_3 : decode prog_24_method_11_code 3 = .ok (.bipush 44, 2) := by decide +kernel
theorem d3_5 : decode prog_24_method_11_code 5 = .ok (.if_icmp .ne 7, 3) := by decide +kernel
theorem d3_8 : decode prog_24_method_11_code 8 = .ok (.iconst 1, 1) := by decide +kernel
theorem d3_9 : decode prog_24_method_11_code 9 = .ok (.goto 4, 3) := by decide +kernel
theorem d3_13 : decode prog_24_method_11_code 13 = .ok (.istore_n 3, 1) := by decide +kernel
theorem d3_14 : decode prog_24_method_11_code 14 = .ok (.iconst 0, 1) := by decide +kernel
theorem d3_15 : decode prog_24_method_11_code 15 = .ok (.istore 4, 2) := by decide +kernel
theorem d3_12 : decode prog_24_method_11_code 12 = .ok (.iconst 0, 1) := by decide +kernel
theorem ef_3 (m : MethodId) (p0 : Int32) (r1 : Addr) (p2 : Int32) : entryFrame m #[(.int p0), (.ref r1), (.int p2)] 6 = mkF m 0 #[.val (.int p0), .val (.ref r1), .val (.int p2), .unset, .unset, .unset] [] := by first | (simp [entryFrame, mkF, argsToLocals, Value.category]; done) | rfl
def Q3 (Z : State) (p0 : Int32) (r1 : Addr) (p2 : Int32) (u : Nat → Int32) (kq : Nat) (hxa : Addr) (h0 : Heap) (n0 : Nat) (v : Option Value) (h : Heap) (L : List Loc) : Prop := ∃ z : Int32, v = some (.int z) ∧ ((z = 1 ∧ (own_P u kq p0)) ∨ (z = 0 ∧ ¬ (own_P u kq p0))) ∧ Fr n0 L ∧ h = h0
set_option maxRecDepth 65536 in
set_option maxHeartbeats 40000000 in
theorem rm3 (l : Launch) (Z : State) (a0 : Array Value) (hw : ∀ d ∈ tables_1, d.before a0 Z = true) (ws : List Jvm.Cond) (p0 : Int32) (r1 : Addr) (p2 : Int32) (u : Nat → Int32) (kq : Nat) (hxa : Addr) (h0 : Heap) (n0 : Nat) (Z0 : n0 ≤ h0.size) (A1 : own_Ary Z h0 r1 .byte 12 (fun j => .int (u j))) (hub : ∀ j, -128 ≤ (u j).toInt ∧ (u j).toInt ≤ 127) (c1 : p2.toInt = (kq : Int)) (c2 : kq ≤ 3) (SH : Sta Z h0 "com/example/ledgerstrike/ledgerstrike/journal/JournalFormat" "HEX_VALUES" "[B" (.ref hxa)) (AH : own_Ary Z h0 hxa .byte 256 (fun j => .int (own_hv j))) :
    MetFree l (⟨"com/example/ledgerstrike/ledgerstrike/journal/JournalFormat", "sealedWith", "(I[BI)Z"⟩ : MethodName) (head1 (Jvm.Cond.code (⟨"com/example/ledgerstrike/ledgerstrike/journal/JournalFormat", "sealedWith", "(I[BI)Z"⟩ : MethodName) prog_24_method_11_code 6 (some .boolean) :: ws) ({ frames := 0, cells := 0, slots := 0, locals := 0 } : Room)) (fun a U => a = #[(.int p0), (.ref r1), (.int p2)] ∧ Z.Warmed39 U.vm ∧ U.heap = h0) (fun _ _ _ _ _ => True) (fun _ U o U' => ∃ v L, o = .returned v ∧ Q3 Z p0 r1 p2 u kq hxa h0 n0 v U'.heap L ∧ FrameEnd U o U' L (({ frames := 0, cells := 0, slots := 0, locals := 0 } : Room)).cells (({ frames := 0, cells := 0, slots := 0, locals := 0 } : Room)).slots) := by
  refine MetFree.of_bodySF (plainFor_of_name pn_1) hisR ?_
  intro p e s m args below meth c s₁ Bd hml0 hP hK
  obtain ⟨rfl, hZ, hh⟩ := hP
  have hx := Bd.exec
  have hby := Bd.bytes
  have hml : c.maxLocals = 6 := hml0
  have hown : s.vm.findClass "com/example/ledgerstrike/ledgerstrike/journal/JournalFormat" = some m.cls := findClass_of_methodNamed Bd.named
  have hnm := (name_of_methodNamed Bd.named Bd.method).1
  have hlk : meth.locks = false := Bd.notSynchronized
  have X0 : Stand p l e ({ frames := 0, cells := 0, slots := 0, locals := 0 } : Room) s m #[(.int p0), (.ref r1), (.int p2)] below meth c s₁ [] 0 0 := Stand.of_body Bd
  have e0 : s₁.heap = h0 := by rw [← hh, Bd.state]; rfl
  have N0 := Fr.nil n0
  have hret := Bd.returns
  show own_Go p e below s (Q3 Z p0 r1 p2 u kq hxa h0 n0) _ _ (s₁.setTop (entryFrame m #[(.int p0), (.ref r1), (.int p2)] 6))
  refine own_go (fun t k => castTop (ef_3 m p0 r1 p2) k) ?_
  show own_Go p e below s _ _ _ (s₁.setTop (mkF m 0 #[.val (.int p0), .val (.ref r1), .val (.int p2), .unset, .unset, .unset] []))
  have J75 : ∀ (T1 : State) (locs1 : List Loc) (X1 : Stand p l e ({ frames := 0, cells := 0, slots := 0, locals := 0 } : Room) s m #[(.int p0), (.ref r1), (.int p2)] below meth c T1 locs1 0 0) (e1 : T1.heap = h0) (N1 : Fr n0 locs1) (z : Int32) (i : Int32) (s5 : Slot) (hz : (z = 1 ∧ (own_P u kq p0)) ∨ (z = 0 ∧ ¬ (own_P u kq p0))), own_Go p e below s (Q3 Z p0 r1 p2 u kq hxa h0 n0) (({ frames := 0, cells := 0, slots := 0, locals := 0 } : Room)).cells (({ frames := 0, cells := 0, slots := 0, locals := 0 } : Room)).slots (T1.setTop (mkF m 75 #[.val (.int p0), .val (.ref r1), .val (.int p2), .val (.int z), .val (.int i), s5] [])) := by
    intro T1 locs1 X1 e1 N1 z i s5 hz
    refine own_go (fun t_ kt_ => XS.iloadN X1.here hx rfl (hb hby d3_75) rfl kt_) ?_
    show own_Go p e below s _ _ _ (T1.setTop (mkF m 76 #[.val (.int p0), .val (.ref r1), .val (.int p2), .val (.int z), .val (.int i), s5] [(.int z)]))
    refine own_ret X1 (v := some (.int (nar .boolean z))) (fun h => by rw [hret] at h; cases h) hlk ?_ (by decide) (by decide) (fun fs hr => retN X1 hx (t := .boolean) hret (by simp) (hb hby d3_76) hr)
    show Q3 Z p0 r1 p2 u kq hxa h0 n0 (some (.int (nar .boolean z))) T1.heap _
    rw [e1]
    exact ⟨_, rfl, by rcases hz with ⟨rfl, h⟩ | ⟨rfl, h⟩; exact Or.inl ⟨by decide, h⟩; exact Or.inr ⟨by decide, h⟩, N1, rfl⟩
  have J17 : ∀ (kk : Nat) (T2 : State) (locs2 : List Loc) (X2 : Stand p l e ({ frames := 0, cells := 0, slots := 0, locals := 0 } : Room) s m #[(.int p0), (.ref r1), (.int p2)] below meth c T2 locs2 0 0) (e2 : T2.heap = h0) (N2 : Fr n0 locs2) (z : Int32) (i : Int32) (k : Nat) (s5 : Slot) (hi : i.toInt = (k : Int)) (hk : k ≤ 8) (hz : (z = 1 ∧ u kq = (44 : Int32) ∧ ∀ j, j < k → u (kq + 1 + j) = own_hex (own_nib p0 (own_s j))) ∨ (z = 0 ∧ ¬ (own_P u kq p0))) (hm : kk = 8 - k) (hs5 : s5 = .unset ∨ ∃ w, s5 = .val w ∧ w.category = 1), own_Go p e below s (Q3 Z p0 r1 p2 u kq hxa h0 n0) (({ frames := 0, cells := 0, slots := 0, locals := 0 } : Room)).cells (({ frames := 0, cells := 0, slots := 0, locals := 0 } : Room)).slots (T2.setTop (mkF m 17 #[.val (.int p0), .val (.ref r1), .val (.int p2), .val (.int z), .val (.int i), s5] [])) := by
    intro kk
    induction kk using Nat.strongRecOn with
    | ind kk ih =>
      intro T2 locs2 X2 e2 N2 z i k s5 hi hk hz hm hs5
      refine own_go (fun t_ kt_ => XS.iloadN X2.here hx rfl (hb hby d3_17) rfl kt_) ?_
      show own_Go p e below s _ _ _ (T2.setTop (mkF m 18 #[.val (.int p0), .val (.ref r1), .val (.int p2), .val (.int z), .val (.int i), s5] [(.int z)]))
      by_cases hc18 : z = (0 : Int32)
      · skip
        have hi18 : z.toInt = 0 := congrArg Int32.toInt hc18
        refine own_go (fun t_ kt_ => XS.ifYes X2.here hx rfl (pc0 := 18) (pc' := 75) rfl (hb hby d3_18) rfl ((if0 _ _).trans (teq hc18).1) (by decide) (by decide) kt_) ?_
        show own_Go p e below s _ _ _ (T2.setTop (mkF m 75 #[.val (.int p0), .val (.ref r1), .val (.int p2), .val (.int z), .val (.int i), s5] []))
        exact J75 T2 _ X2 e2 N2 (z) (i) (s5)  (by first | exact Or.inl ⟨hz1, hz2, fun j hj => hz3 j (by omega)⟩ | (rcases hz with ⟨h1, -, -⟩ | h2; (exact absurd (h1.symm.trans hc18) (by decide)); exact Or.inr h2))
      · skip
        have hi18 : ¬ z.toInt = 0 := fun q => hc18 (Int32.toInt_inj.mp q)
        refine own_go (fun t_ kt_ => XS.ifNo X2.here hx rfl (hb hby d3_18) rfl ((if0 _ _).trans (feq hc18).1) kt_) ?_
        show own_Go p e below s _ _ _ (T2.setTop (mkF m 21 #[.val (.int p0), .val (.ref r1), .val (.int p2), .val (.int z), .val (.int i), s5] []))
        obtain ⟨hz1, hz2, hz3⟩ : z = 1 ∧ u kq = (44 : Int32) ∧ ∀ j, j < k → u (kq + 1 + j) = own_hex (own_nib p0 (own_s j)) := by
          rcases hz with h | ⟨h1, -⟩
          · exact h
          · exact absurd h1 hc18
        refine own_go (fun t_ kt_ => XS.iload X2.here hx rfl (hb hby d3_21) rfl kt_) ?_
        show own_Go p e below s _ _ _ (T2.setTop (mkF m 23 #[.val (.int p0), .val (.ref r1), .val (.int p2), .val (.int z), .val (.int i), s5] [(.int i)]))
        refine own_go (fun t_ kt_ => XS.bipush X2.here hx rfl (hb hby d3_23) kt_) ?_
        show own_Go p e below s _ _ _ (T2.setTop (mkF m 25 #[.val (.int p0), .val (.ref r1), .val (.int p2), .val (.int z), .val (.int i), s5] [(.int (8 : Int32)), (.int i)]))
        by_cases hc25 : i < (8 : Int32)
        · skip
          have hi25 : i.toInt < 8 := Int32.lt_iff_toInt_lt.mp hc25
          refine own_go (fun t_ kt_ => XS.icmpNo X2.here hx rfl (hb hby d3_25) rfl (tlt hc25).2.1 kt_) ?_
          show own_Go p e below s _ _ _ (T2.setTop (mkF m 28 #[.val (.int p0), .val (.ref r1), .val (.int p2), .val (.int z), .val (.int i), s5] []))
          have hk8 : k < 8 := by omega
          have hsh := own_sh hi hk8
          have hix := own_plus (own_plus c1 (show (1 : Int32).toInt = ((1 : Nat) : Int) from by decide) (by omega)) hi (by omega)
          refine own_go (fun t_ kt_ => XS.iloadN X2.here hx rfl (hb hby d3_28) rfl kt_) ?_
          show own_Go p e below s _ _ _ (T2.setTop (mkF m 29 #[.val (.int p0), .val (.ref r1), .val (.int p2), .val (.int z), .val (.int i), s5] [(.int p0)]))
          refine own_go (fun t_ kt_ => XS.iconst X2.here hx rfl (hb hby d3_29) kt_) ?_
          show own_Go p e below s _ _ _ (T2.setTop (mkF m 30 #[.val (.int p0), .val (.ref r1), .val (.int p2), .val (.int z), .val (.int i), s5] [(.int (4 : Int32)), (.int p0)]))
          refine own_go (fun t_ kt_ => XS.bipush X2.here hx rfl (hb hby d3_30) kt_) ?_
          show own_Go p e below s _ _ _ (T2.setTop (mkF m 32 #[.val (.int p0), .val (.ref r1), .val (.int p2), .val (.int z), .val (.int i), s5] [(.int (7 : Int32)), (.int (4 : Int32)), (.int p0)]))
          refine own_go (fun t_ kt_ => XS.iload X2.here hx rfl (hb hby d3_32) rfl kt_) ?_
          show own_Go p e below s _ _ _ (T2.setTop (mkF m 34 #[.val (.int p0), .val (.ref r1), .val (.int p2), .val (.int z), .val (.int i), s5] [(.int i), (.int (7 : Int32)), (.int (4 : Int32)), (.int p0)]))
          refine own_go (fun t_ kt_ => XS.isub X2.here hx rfl (hb hby d3_34) rfl kt_) ?_
          show own_Go p e below s _ _ _ (T2.setTop (mkF m 35 #[.val (.int p0), .val (.ref r1), .val (.int p2), .val (.int z), .val (.int i), s5] [(.int ((7 : Int32) - i)), (.int (4 : Int32)), (.int p0)]))
          refine own_go (fun t_ kt_ => XS.imul X2.here hx rfl (hb hby d3_35) rfl kt_) ?_
          show own_Go p e below s _ _ _ (T2.setTop (mkF m 36 #[.val (.int p0), .val (.ref r1), .val (.int p2), .val (.int z), .val (.int i), s5] [(.int ((4 : Int32) * ((7 : Int32) - i))), (.int p0)]))
          refine own_go (fun t_ kt_ => XS.iushr X2.here hx rfl (hb hby d3_36) rfl kt_) ?_
          show own_Go p e below s _ _ _ (T2.setTop (mkF m 37 #[.val (.int p0), .val (.ref r1), .val (.int p2), .val (.int z), .val (.int i), s5] [(.int ((p0.toUInt32 >>> (((4 : Int32) * ((7 : Int32) - i)) &&& 31).toUInt32).toInt32))]))
          refine own_go (fun t_ kt_ => XS.bipush X2.here hx rfl (hb hby d3_37) kt_) ?_
          show own_Go p e below s _ _ _ (T2.setTop (mkF m 39 #[.val (.int p0), .val (.ref r1), .val (.int p2), .val (.int z), .val (.int i), s5] [(.int (15 : Int32)), (.int ((p0.toUInt32 >>> (((4 : Int32) * ((7 : Int32) - i)) &&& 31).toUInt32).toInt32))]))
          refine own_go (fun t_ kt_ => XS.iand X2.here hx rfl (hb hby d3_39) rfl kt_) ?_
          show own_Go p e below s _ _ _ (T2.setTop (mkF m 40 #[.val (.int p0), .val (.ref r1), .val (.int p2), .val (.int z), .val (.int i), s5] [(.int (((p0.toUInt32 >>> (((4 : Int32) * ((7 : Int32) - i)) &&& 31).toUInt32).toInt32) &&& (15 : Int32)))]))
          refine own_go (fun t_ kt_ => XS.istore X2.here hx rfl (hb hby d3_40) rfl (l' := #[.val (.int p0), .val (.ref r1), .val (.int p2), .val (.int z), .val (.int i), .val (.int (((p0.toUInt32 >>> (((4 : Int32) * ((7 : Int32) - i)) &&& 31).toUInt32).toInt32) &&& (15 : Int32)))]) (XS.store1 rfl hs5 rfl) kt_) ?_
          show own_Go p e below s _ _ _ (T2.setTop (mkF m 42 #[.val (.int p0), .val (.ref r1), .val (.int p2), .val (.int z), .val (.int i), .val (.int (((p0.toUInt32 >>> (((4 : Int32) * ((7 : Int32) - i)) &&& 31).toUInt32).toInt32) &&& (15 : Int32)))] []))
          obtain ⟨nb, hnb⟩ : ∃ z, z = (((p0.toUInt32 >>> (((4 : Int32) * ((7 : Int32) - i)) &&& 31).toUInt32).toInt32) &&& (15 : Int32)) := ⟨_, rfl⟩
          rw [← hnb]
          have hnb' : nb = own_nib p0 (own_s k) := by rw [hnb, hsh]; rfl
          show own_Go p e below s _ _ _ (T2.setTop (mkF m 42 #[.val (.int p0), .val (.ref r1), .val (.int p2), .val (.int z), .val (.int i), .val (.int nb)] []))
          have hq60 : own_hv (((u (kq + 1 + k)).toInt % 256).toNat) = nb ↔ u (kq + 1 + k) = own_hex (own_nib p0 (own_s k)) := by rw [hnb']; exact own_hx (hub _) (own_nibr _ _)
          obtain ⟨T3, X3, e3, st3⟩ := getS2 X2 hx hZ hown (host := "") (Or.inl (hw _ (List.mem_of_getElem? (i := 13) rfl))) Via.refl e2 SH (g := (mkF m 42 #[.val (.int p0), .val (.ref r1), .val (.int p2), .val (.int z), .val (.int i), .val (.int nb)] [])) rfl (hb hby d3_42)
          refine own_go (fun t_ kt_ => st3 _ kt_) ?_
          show own_Go p e below s _ _ _ (T3.setTop (mkF m 45 #[.val (.int p0), .val (.ref r1), .val (.int p2), .val (.int z), .val (.int i), .val (.int nb)] [(.ref hxa)]))
          refine own_go (fun t_ kt_ => XS.aloadN X3.here hx rfl (hb hby d3_45) rfl rfl kt_) ?_
          show own_Go p e below s _ _ _ (T3.setTop (mkF m 46 #[.val (.int p0), .val (.ref r1), .val (.int p2), .val (.int z), .val (.int i), .val (.int nb)] [(.ref r1), (.ref hxa)]))
          refine own_go (fun t_ kt_ => XS.iloadN X3.here hx rfl (hb hby d3_46) rfl kt_) ?_
          show own_Go p e below s _ _ _ (T3.setTop (mkF m 47 #[.val (.int p0), .val (.ref r1), .val (.int p2), .val (.int z), .val (.int i), .val (.int nb)] [(.int p2), (.ref r1), (.ref hxa)]))
          refine own_go (fun t_ kt_ => XS.iconst X3.here hx rfl (hb hby d3_47) kt_) ?_
          show own_Go p e below s _ _ _ (T3.setTop (mkF m 48 #[.val (.int p0), .val (.ref r1), .val (.int p2), .val (.int z), .val (.int i), .val (.int nb)] [(.int (1 : Int32)), (.int p2), (.ref r1), (.ref hxa)]))
          refine own_go (fun t_ kt_ => XS.iadd X3.here hx rfl (hb hby d3_48) rfl kt_) ?_
          show own_Go p e below s _ _ _ (T3.setTop (mkF m 49 #[.val (.int p0), .val (.ref r1), .val (.int p2), .val (.int z), .val (.int i), .val (.int nb)] [(.int (p2 + (1 : Int32))), (.ref r1), (.ref hxa)]))
          refine own_go (fun t_ kt_ => XS.iload X3.here hx rfl (hb hby d3_49) rfl kt_) ?_
          show own_Go p e below s _ _ _ (T3.setTop (mkF m 51 #[.val (.int p0), .val (.ref r1), .val (.int p2), .val (.int z), .val (.int i), .val (.int nb)] [(.int i), (.int (p2 + (1 : Int32))), (.ref r1), (.ref hxa)]))
          refine own_go (fun t_ kt_ => XS.iadd X3.here hx rfl (hb hby d3_51) rfl kt_) ?_
          show own_Go p e below s _ _ _ (T3.setTop (mkF m 52 #[.val (.int p0), .val (.ref r1), .val (.int p2), .val (.int z), .val (.int i), .val (.int nb)] [(.int ((p2 + (1 : Int32)) + i)), (.ref r1), (.ref hxa)]))
          obtain ⟨ce4, Ar4, S4, G4⟩ := id A1
          have q4 : ce4.slots[(((p2 + (1 : Int32)) + i)).toNatClampNeg]? = some (.int (u (kq + 1 + k))) := by rw [own_cl (j := ((p2 + (1 : Int32)) + i)) (i := (kq + 1 + k)) hix]; exact (G4 _ (by omega)).trans (congrArg some (rfl))
          refine own_go (fun t_ kt_ => X3.baloadBytes hx (j := ((p2 + (1 : Int32)) + i)) (v := (.int (u (kq + 1 + k)))) (by rw [e3]; exact Ar4.1) (State.isArrayOf_alike hZ.alike Ar4.2.1) Ar4.2.2 (own_in (i := (kq + 1 + k)) S4 hix (by omega)) q4 (g := (mkF m 52 #[.val (.int p0), .val (.ref r1), .val (.int p2), .val (.int z), .val (.int i), .val (.int nb)] [(.int ((p2 + (1 : Int32)) + i)), (.ref r1), (.ref hxa)])) rfl rfl (hb hby d3_52) _ kt_) ?_
          show own_Go p e below s _ _ _ (T3.setTop (mkF m 53 #[.val (.int p0), .val (.ref r1), .val (.int p2), .val (.int z), .val (.int i), .val (.int nb)] [(.int (u (kq + 1 + k))), (.ref hxa)]))
          refine own_go (fun t_ kt_ => XS.sipush X3.here hx rfl (hb hby d3_53) kt_) ?_
          show own_Go p e below s _ _ _ (T3.setTop (mkF m 56 #[.val (.int p0), .val (.ref r1), .val (.int p2), .val (.int z), .val (.int i), .val (.int nb)] [(.int (255 : Int32)), (.int (u (kq + 1 + k))), (.ref hxa)]))
          refine own_go (fun t_ kt_ => XS.iand X3.here hx rfl (hb hby d3_56) rfl kt_) ?_
          show own_Go p e below s _ _ _ (T3.setTop (mkF m 57 #[.val (.int p0), .val (.ref r1), .val (.int p2), .val (.int z), .val (.int i), .val (.int nb)] [(.int ((u (kq + 1 + k)) &&& (255 : Int32))), (.ref hxa)]))
          obtain ⟨ce5, Ar5, S5, G5⟩ := id AH
          have q5 : ce5.slots[(((u (kq + 1 + k)) &&& (255 : Int32))).toNatClampNeg]? = some (.int (own_hv (((u (kq + 1 + k)).toInt % 256).toNat))) := by rw [own_cl (j := ((u (kq + 1 + k)) &&& (255 : Int32))) (i := (((u (kq + 1 + k)).toInt % 256).toNat)) (own_msk _).1]; exact (G5 _ (own_msk _).2).trans (congrArg some (rfl))
          refine own_go (fun t_ kt_ => X3.baloadBytes hx (j := ((u (kq + 1 + k)) &&& (255 : Int32))) (v := (.int (own_hv (((u (kq + 1 + k)).toInt % 256).toNat)))) (by rw [e3]; exact Ar5.1) (State.isArrayOf_alike hZ.alike Ar5.2.1) Ar5.2.2 (own_in (i := (((u (kq + 1 + k)).toInt % 256).toNat)) S5 (own_msk _).1 (own_msk _).2) q5 (g := (mkF m 57 #[.val (.int p0), .val (.ref r1), .val (.int p2), .val (.int z), .val (.int i), .val (.int nb)] [(.int ((u (kq + 1 + k)) &&& (255 : Int32))), (.ref hxa)])) rfl rfl (hb hby d3_57) _ kt_) ?_
          show own_Go p e below s _ _ _ (T3.setTop (mkF m 58 #[.val (.int p0), .val (.ref r1), .val (.int p2), .val (.int z), .val (.int i), .val (.int nb)] [(.int (own_hv (((u (kq + 1 + k)).toInt % 256).toNat)))]))
          refine own_go (fun t_ kt_ => XS.iload X3.here hx rfl (hb hby d3_58) rfl kt_) ?_
          show own_Go p e below s _ _ _ (T3.setTop (mkF m 60 #[.val (.int p0), .val (.ref r1), .val (.int p2), .val (.int z), .val (.int i), .val (.int nb)] [(.int nb), (.int (own_hv (((u (kq + 1 + k)).toInt % 256).toNat)))]))
          by_cases hc60 : (own_hv (((u (kq + 1 + k)).toInt % 256).toNat)) = nb
          · skip
            have hi60 : ((own_hv (((u (kq + 1 + k)).toInt % 256).toNat))).toInt = nb.toInt := congrArg Int32.toInt hc60
            refine own_go (fun t_ kt_ => XS.icmpNo X3.here hx rfl (hb hby d3_60) rfl (teq hc60).2 kt_) ?_
            show own_Go p e below s _ _ _ (T3.setTop (mkF m 63 #[.val (.int p0), .val (.ref r1), .val (.int p2), .val (.int z), .val (.int i), .val (.int nb)] []))
            refine own_go (fun t_ kt_ => XS.iconst X3.here hx rfl (hb hby d3_63) kt_) ?_
            show own_Go p e below s _ _ _ (T3.setTop (mkF m 64 #[.val (.int p0), .val (.ref r1), .val (.int p2), .val (.int z), .val (.int i), .val (.int nb)] [(.int (1 : Int32))]))
            refine own_go (fun t_ kt_ => XS.goto X3.here hx rfl (pc0 := 64) (pc' := 68) rfl (hb hby d3_64) (by decide) (by decide) kt_) ?_
            show own_Go p e below s _ _ _ (T3.setTop (mkF m 68 #[.val (.int p0), .val (.ref r1), .val (.int p2), .val (.int z), .val (.int i), .val (.int nb)] [(.int (1 : Int32))]))
            refine own_go (fun t_ kt_ => XS.istoreN X3.here hx rfl (hb hby d3_68) rfl (l' := #[.val (.int p0), .val (.ref r1), .val (.int p2), .val (.int (1 : Int32)), .val (.int i), .val (.int nb)]) rfl kt_) ?_
            show own_Go p e below s _ _ _ (T3.setTop (mkF m 69 #[.val (.int p0), .val (.ref r1), .val (.int p2), .val (.int (1 : Int32)), .val (.int i), .val (.int nb)] []))
            refine own_go (fun t_ kt_ => XS.iinc X3.here hx rfl (hb hby d3_69) rfl (l' := #[.val (.int p0), .val (.ref r1), .val (.int p2), .val (.int (1 : Int32)), .val (.int (i + (1 : Int32))), .val (.int nb)]) rfl kt_) ?_
            show own_Go p e below s _ _ _ (T3.setTop (mkF m 72 #[.val (.int p0), .val (.ref r1), .val (.int p2), .val (.int (1 : Int32)), .val (.int (i + (1 : Int32))), .val (.int nb)] []))
            refine own_go (fun t_ kt_ => XS.goto X3.here hx rfl (pc0 := 72) (pc' := 17) rfl (hb hby d3_72) (by decide) (by decide) kt_) ?_
            show own_Go p e below s _ _ _ (T3.setTop (mkF m 17 #[.val (.int p0), .val (.ref r1), .val (.int p2), .val (.int (1 : Int32)), .val (.int (i + (1 : Int32))), .val (.int nb)] []))
            exact ih (8 - (k + 1)) (by omega) T3 _ X3 e3 N2 ((1 : Int32)) ((i + (1 : Int32))) ((k + 1)) ((.val (.int nb)))  (by rw [own_plus hi (show (1 : Int32).toInt = ((1 : Nat) : Int) from by decide) (by omega)]) (by omega) (by first | exact Or.inl ⟨rfl, hz2, own_up (P := fun j => u (kq + 1 + j) = own_hex (own_nib p0 (own_s j))) hz3 (hq60.mp hc60)⟩ | exact Or.inr ⟨rfl, fun q => hc60 (hq60.mpr (q.2 k hk8))⟩) (rfl) (by first | exact Or.inl rfl | exact Or.inr ⟨_, rfl, rfl⟩)
          · skip
            have hi60 : ¬ ((own_hv (((u (kq + 1 + k)).toInt % 256).toNat))).toInt = nb.toInt := fun q => hc60 (Int32.toInt_inj.mp q)
            refine own_go (fun t_ kt_ => XS.icmpYes X3.here hx rfl (pc0 := 60) (pc' := 67) rfl (hb hby d3_60) rfl (feq hc60).2 (by decide) (by decide) kt_) ?_
            show own_Go p e below s _ _ _ (T3.setTop (mkF m 67 #[.val (.int p0), .val (.ref r1), .val (.int p2), .val (.int z), .val (.int i), .val (.int nb)] []))
            refine own_go (fun t_ kt_ => XS.iconst X3.here hx rfl (hb hby d3_67) kt_) ?_
            show own_Go p e below s _ _ _ (T3.setTop (mkF m 68 #[.val (.int p0), .val (.ref r1), .val (.int p2), .val (.int z), .val (.int i), .val (.int nb)] [(.int (0 : Int32))]))
            refine own_go (fun t_ kt_ => XS.istoreN X3.here hx rfl (hb hby d3_68) rfl (l' := #[.val (.int p0), .val (.ref r1), .val (.int p2), .val (.int (0 : Int32)), .val (.int i), .val (.int nb)]) rfl kt_) ?_
            show own_Go p e below s _ _ _ (T3.setTop (mkF m 69 #[.val (.int p0), .val (.ref r1), .val (.int p2), .val (.int (0 : Int32)), .val (.int i), .val (.int nb)] []))
            refine own_go (fun t_ kt_ => XS.iinc X3.here hx rfl (hb hby d3_69) rfl (l' := #[.val (.int p0), .val (.ref r1), .val (.int p2), .val (.int (0 : Int32)), .val (.int (i + (1 : Int32))), .val (.int nb)]) rfl kt_) ?_
            show own_Go p e below s _ _ _ (T3.setTop (mkF m 72 #[.val (.int p0), .val (.ref r1), .val (.int p2), .val (.int (0 : Int32)), .val (.int (i + (1 : Int32))), .val (.int nb)] []))
            refine own_go (fun t_ kt_ => XS.goto X3.here hx rfl (pc0 := 72) (pc' := 17) rfl (hb hby d3_72) (by decide) (by decide) kt_) ?_
            show own_Go p e below s _ _ _ (T3.setTop (mkF m 17 #[.val (.int p0), .val (.ref r1), .val (.int p2), .val (.int (0 : Int32)), .val (.int (i + (1 : Int32))), .val (.int nb)] []))
            exact ih (8 - (k + 1)) (by omega) T3 _ X3 e3 N2 ((0 : Int32)) ((i + (1 : Int32))) ((k + 1)) ((.val (.int nb)))  (by rw [own_plus hi (show (1 : Int32).toInt = ((1 : Nat) : Int) from by decide) (by omega)]) (by omega) (by first | exact Or.inl ⟨rfl, hz2, own_up (P := fun j => u (kq + 1 + j) = own_hex (own_nib p0 (own_s j))) hz3 (hq60.mp hc60)⟩ | exact Or.inr ⟨rfl, fun q => hc60 (hq60.mpr (q.2 k hk8))⟩) (rfl) (by first | exact Or.inl rfl | exact Or.inr ⟨_, rfl, rfl⟩)
        · skip
          have hi25 : ¬ i.toInt < 8 := fun q => hc25 (Int32.lt_iff_toInt_lt.mpr q)
          refine own_go (fun t_ kt_ => XS.icmpYes X2.here hx rfl (pc0 := 25) (pc' := 75) rfl (hb hby d3_25) rfl (flt hc25).2.1 (by decide) (by decide) kt_) ?_
          show own_Go p e below s _ _ _ (T2.setTop (mkF m 75 #[.val (.int p0), .val (.ref r1), .val (.int p2), .val (.int z), .val (.int i), s5] []))
          exact J75 T2 _ X2 e2 N2 (z) (i) (s5)  (by first | exact Or.inl ⟨hz1, hz2, fun j hj => hz3 j (by omega)⟩ | (rcases hz with ⟨h1, -, -⟩ | h2; (exact absurd (h1.symm.trans hc18) (by decide)); exact Or.inr h2))
  refine own_go (fun t_ kt_ => XS.aloadN X0.here hx rfl (hb hby d3_0) rfl rfl kt_) ?_
  show own_Go p e below s _ _ _ (s₁.setTop (mkF m 1 #[.val (.int p0), .val (.ref r1), .val (.int p2), .unset, .unset, .unset] [(.ref r1)]))
  refine own_go (fun t_ kt_ => XS.iloadN X0.here hx rfl (hb hby d3_1) rfl kt_) ?_
  show own_Go p e below s _ _ _ (s₁.setTop (mkF m 2 #[.val (.int p0), .val (.ref r1), .val (.int p2), .unset, .unset, .unset] [(.int p2), (.ref r1)]))
  obtain ⟨ce6, Ar6, S6, G6⟩ := id A1
  have q6 : ce6.slots[(p2).toNatClampNeg]? = some (.int (u kq)) := by rw [own_cl (j := p2) (i := kq) c1]; exact (G6 _ (by omega)).trans (congrArg some (rfl))
  refine own_go (fun t_ kt_ => X0.baloadBytes hx (j := p2) (v := (.int (u kq))) (by rw [e0]; exact Ar6.1) (State.isArrayOf_alike hZ.alike Ar6.2.1) Ar6.2.2 (own_in (i := kq) S6 c1 (by omega)) q6 (g := (mkF m 2 #[.val (.int p0), .val (.ref r1), .val (.int p2), .unset, .unset, .unset] [(.int p2), (.ref r1)])) rfl rfl (hb hby d3_2) _ kt_) ?_
  show own_Go p e below s _ _ _ (s₁.setTop (mkF m 3 #[.val (.int p0), .val (.ref r1), .val (.int p2), .unset, .unset, .unset] [(.int (u kq))]))
  refine own_go (fun t_ kt_ => XS.bipush X0.here hx rfl (hb hby d3_3) kt_) ?_
  show own_Go p e below s _ _ _ (s₁.setTop (mkF m 5 #[.val (.int p0), .val (.ref r1), .val (.int p2), .unset, .unset, .unset] [(.int (44 : Int32)), (.int (u kq))]))
  by_cases hc5 : (u kq) = (44 : Int32)
  · skip
    have hi5 : ((u kq)).toInt = 44 := congrArg Int32.toInt hc5
    refine own_go (fun t_ kt_ => XS.icmpNo X0.here hx rfl (hb hby d3_5) rfl (teq hc5).2 kt_) ?_
    show own_Go p e below s _ _ _ (s₁.setTop (mkF m 8 #[.val (.int p0), .val (.ref r1), .val (.int p2), .unset, .unset, .unset] []))
    refine own_go (fun t_ kt_ => XS.iconst X0.here hx rfl (hb hby d3_8) kt_) ?_
    show own_Go p e below s _ _ _ (s₁.setTop (mkF m 9 #[.val (.int p0), .val (.ref r1), .val (.int p2), .unset, .unset, .unset] [(.int (1 : Int32))]))
    refine own_go (fun t_ kt_ => XS.goto X0.here hx rfl (pc0 := 9) (pc' := 13) rfl (hb hby d3_9) (by decide) (by decide) kt_) ?_
    show own_Go p e below s _ _ _ (s₁.setTop (mkF m 13 #[.val (.int p0), .val (.ref r1), .val (.int p2), .unset, .unset, .unset] [(.int (1 : Int32))]))
    refine own_go (fun t_ kt_ => XS.istoreN X0.here hx rfl (hb hby d3_13) rfl (l' := #[.val (.int p0), .val (.ref r1), .val (.int p2), .val (.int (1 : Int32)), .unset, .unset]) rfl kt_) ?_
    show own_Go p e below s _ _ _ (s₁.setTop (mkF m 14 #[.val (.int p0), .val (.ref r1), .val (.int p2), .val (.int (1 : Int32)), .unset, .unset] []))
    refine own_go (fun t_ kt_ => XS.iconst X0.here hx rfl (hb hby d3_14) kt_) ?_
    show own_Go p e below s _ _ _ (s₁.setTop (mkF m 15 #[.val (.int p0), .val (.ref r1), .val (.int p2), .val (.int (1 : Int32)), .unset, .unset] [(.int (0 : Int32))]))
    refine own_go (fun t_ kt_ => XS.istore X0.here hx rfl (hb hby d3_15) rfl (l' := #[.val (.int p0), .val (.ref r1), .val (.int p2), .val (.int (1 : Int32)), .val (.int (0 : Int32)), .unset]) rfl kt_) ?_
    show own_Go p e below s _ _ _ (s₁.setTop (mkF m 17 #[.val (.int p0), .val (.ref r1), .val (.int p2), .val (.int (1 : Int32)), .val (.int (0 : Int32)), .unset] []))
    exact J17 (8 - 0) s₁ _ X0 e0 N0 ((1 : Int32)) ((0 : Int32)) (0) ((.unset))  (by decide) (by omega) (by first | exact Or.inl ⟨rfl, hc5, fun j hj => absurd hj (Nat.not_lt_zero j)⟩ | exact Or.inr ⟨rfl, fun q => hc5 q.1⟩) (rfl) (by first | exact Or.inl rfl | exact Or.inr ⟨_, rfl, rfl⟩)
  · skip
    have hi5 : ¬ ((u kq)).toInt = 44 := fun q => hc5 (Int32.toInt_inj.mp q)
    refine own_go (fun t_ kt_ => XS.icmpYes X0.here hx rfl (pc0 := 5) (pc' := 12) rfl (hb hby d3_5) rfl (feq hc5).2 (by decide) (by decide) kt_) ?_
    show own_Go p e below s _ _ _ (s₁.setTop (mkF m 12 #[.val (.int p0), .val (.ref r1), .val (.int p2), .unset, .unset, .unset] []))
    refine own_go (fun t_ kt_ => XS.iconst X0.here hx rfl (hb hby d3_12) kt_) ?_
    show own_Go p e below s _ _ _ (s₁.setTop (mkF m 13 #[.val (.int p0), .val (.ref r1), .val (.int p2), .unset, .unset, .unset] [(.int (0 : Int32))]))
    refine own_go (fun t_ kt_ => XS.istoreN X0.here hx rfl (hb hby d3_13) rfl (l' := #[.val (.int p0), .val (.ref r1), .val (.int p2), .val (.int (0 : Int32)), .unset, .unset]) rfl kt_) ?_
    show own_Go p e below s _ _ _ (s₁.setTop (mkF m 14 #[.val (.int p0), .val (.ref r1), .val (.int p2), .val (.int (0 : Int32)), .unset, .unset] []))
    refine own_go (fun t_ kt_ => XS.iconst X0.here hx rfl (hb hby d3_14) kt_) ?_
    show own_Go p e below s _ _ _ (s₁.setTop (mkF m 15 #[.val (.int p0), .val (.ref r1), .val (.int p2), .val (.int (0 : Int32)), .unset, .unset] [(.int (0 : Int32))]))
    refine own_go (fun t_ kt_ => XS.istore X0.here hx rfl (hb hby d3_15) rfl (l' := #[.val (.int p0), .val (.ref r1), .val (.int p2), .val (.int (0 : Int32)), .val (.int (0 : Int32)), .unset]) rfl kt_) ?_
    show own_Go p e below s _ _ _ (s₁.setTop (mkF m 17 #[.val (.int p0), .val (.ref r1), .val (.int p2), .val (.int (0 : Int32)), .val (.int (0 : Int32)), .unset] []))
    exact J17 (8 - 0) s₁ _ X0 e0 N0 ((0 : Int32)) ((0 : Int32)) (0) ((.unset))  (by decide) (by omega) (by first | exact Or.inl ⟨rfl, hc5, fun j hj => absurd hj (Nat.not_lt_zero j)⟩ | exact Or.inr ⟨rfl, fun q => hc5 q.1⟩) (rfl) (by first | exact Or.inl rfl | exact Or.inr ⟨_, rfl, rfl⟩)
theorem pd_1 : parseMethodDescriptor "(I[BI)Z" = some ⟨[.int, (.array .byte), .int], some .boolean⟩ := by decide +kernel
theorem pd_2 : parseMethodDescriptor "([BIII)Z" = some ⟨[(.array .byte), .int, .int, .int], some .boolean⟩ := by decide +kernel
theorem ef_0 (m : MethodId) (p0 : Int32) (p1 : Int32) (p2 : Int32) (p3 : Int32) (p4 : Int32) : entryFrame m #[(.int p0), (.int p1), (.int p2), (.int p3), (.int p4)] maxLocals = mkF m 0 #[.val (.int p0), .val (.int p1), .val (.int p2), .val (.int p3), .val (.int p4), .unset, .unset, .unset, .unset, .unset] [] := by first | (simp [entryFrame, mkF, argsToLocals, Value.category, maxLocals]; done) | rfl
def Q0 (Z : State) (p0 : Int32) (p1 : Int32) (p2 : Int32) (p3 : Int32) (p4 : Int32) (hxa : Addr) (h0 : Heap) (n0 : Nat) (v : Option Value) (h : Heap) (L : List Loc) : Prop := v = some (.int 1) ∧ Fr n0 L
set_option maxRecDepth 65536 in
set_option maxHeartbeats 40000000 in
theorem rm0 (l : Launch) (Z : State) (a0 : Array Value) (hw : ∀ d ∈ tables_1, d.before a0 Z = true) (ws : List Jvm.Cond) (p0 : Int32) (p1 : Int32) (p2 : Int32) (p3 : Int32) (p4 : Int32) (hxa : Addr) (h0 : Heap) (n0 : Nat) (Z0 : n0 ≤ h0.size) (SH : Sta Z h0 "com/example/ledgerstrike/ledgerstrike/journal/JournalFormat" "HEX_VALUES" "[B" (.ref hxa)) (AH : own_Ary Z h0 hxa .byte 256 (fun j => .int (own_hv j))) :
    MetFree l x (head1 (Jvm.Cond.code x code maxLocals ret :: ws) room_1) (fun a U => a = #[(.int p0), (.int p1), (.int p2), (.int p3), (.int p4)] ∧ Z.Warmed39 U.vm ∧ U.heap = h0) (fun _ _ _ _ _ => True) (fun _ U o U' => ∃ v L, o = .returned v ∧ Q0 Z p0 p1 p2 p3 p4 hxa h0 n0 v U'.heap L ∧ FrameEnd U o U' L (room_1).cells (room_1).slots) := by
  refine MetFree.of_bodySF (plainFor_of_name pn_0) hisR ?_
  intro p e s m args below meth c s₁ Bd hml0 hP hK
  obtain ⟨rfl, hZ, hh⟩ := hP
  have hx := Bd.exec
  have hby := Bd.bytes
  have hml : c.maxLocals = 10 := hml0
  have hown : s.vm.findClass "com/example/ledgerstrike/ledgerstrike/journal/JournalFormatSealedWithPinLaw" = some m.cls := findClass_of_methodNamed Bd.named
  have hnm := (name_of_methodNamed Bd.named Bd.method).1
  have hlk : meth.locks = false := Bd.notSynchronized
  have X0 : Stand p l e room_1 s m #[(.int p0), (.int p1), (.int p2), (.int p3), (.int p4)] below meth c s₁ [] 0 0 := Stand.of_body Bd
  have e0 : s₁.heap = h0 := by rw [← hh, Bd.state]; rfl
  have N0 := Fr.nil n0
  have hret := Bd.returns
  show own_Go p e below s (Q0 Z p0 p1 p2 p3 p4 hxa h0 n0) _ _ (s₁.setTop (entryFrame m #[(.int p0), (.int p1), (.int p2), (.int p3), (.int p4)] maxLocals))
  refine own_go (fun t k => castTop (ef_0 m p0 p1 p2 p3 p4) k) ?_
  show own_Go p e below s _ _ _ (s₁.setTop (mkF m 0 #[.val (.int p0), .val (.int p1), .val (.int p2), .val (.int p3), .val (.int p4), .unset, .unset, .unset, .unset, .unset] []))
  refine own_go (fun t_ kt_ => XS.iloadN X0.here hx rfl (hb hby at_0) rfl kt_) ?_
  show own_Go p e below s _ _ _ (s₁.setTop (mkF m 1 #[.val (.int p0), .val (.int p1), .val (.int p2), .val (.int p3), .val (.int p4), .unset, .unset, .unset, .unset, .unset] [(.int p2)]))
  refine own_go (fun t_ kt_ => XS.iconst X0.here hx rfl (hb hby at_1) kt_) ?_
  show own_Go p e below s _ _ _ (s₁.setTop (mkF m 2 #[.val (.int p0), .val (.int p1), .val (.int p2), .val (.int p3), .val (.int p4), .unset, .unset, .unset, .unset, .unset] [(.int (2 : Int32)), (.int p2)]))
  refine own_go (fun t_ kt_ => XS.iushr X0.here hx rfl (hb hby at_2) rfl kt_) ?_
  show own_Go p e below s _ _ _ (s₁.setTop (mkF m 3 #[.val (.int p0), .val (.int p1), .val (.int p2), .val (.int p3), .val (.int p4), .unset, .unset, .unset, .unset, .unset] [(.int ((p2.toUInt32 >>> ((2 : Int32) &&& 31).toUInt32).toInt32))]))
  refine own_go (fun t_ kt_ => XS.iconst X0.here hx rfl (hb hby at_3) kt_) ?_
  show own_Go p e below s _ _ _ (s₁.setTop (mkF m 4 #[.val (.int p0), .val (.int p1), .val (.int p2), .val (.int p3), .val (.int p4), .unset, .unset, .unset, .unset, .unset] [(.int (3 : Int32)), (.int ((p2.toUInt32 >>> ((2 : Int32) &&& 31).toUInt32).toInt32))]))
  refine own_go (fun t_ kt_ => XS.iand X0.here hx rfl (hb hby at_4) rfl kt_) ?_
  show own_Go p e below s _ _ _ (s₁.setTop (mkF m 5 #[.val (.int p0), .val (.int p1), .val (.int p2), .val (.int p3), .val (.int p4), .unset, .unset, .unset, .unset, .unset] [(.int (((p2.toUInt32 >>> ((2 : Int32) &&& 31).toUInt32).toInt32) &&& (3 : Int32)))]))
  refine own_go (fun t_ kt_ => XS.istore X0.here hx rfl (hb hby at_5) rfl (l' := #[.val (.int p0), .val (.int p1), .val (.int p2), .val (.int p3), .val (.int p4), .val (.int (((p2.toUInt32 >>> ((2 : Int32) &&& 31).toUInt32).toInt32) &&& (3 : Int32))), .unset, .unset, .unset, .unset]) rfl kt_) ?_
  show own_Go p e below s _ _ _ (s₁.setTop (mkF m 7 #[.val (.int p0), .val (.int p1), .val (.int p2), .val (.int p3), .val (.int p4), .val (.int (((p2.toUInt32 >>> ((2 : Int32) &&& 31).toUInt32).toInt32) &&& (3 : Int32))), .unset, .unset, .unset, .unset] []))
  obtain ⟨kv, hkv⟩ : ∃ z, z = (((p2.toUInt32 >>> ((2 : Int32) &&& 31).toUInt32).toInt32) &&& (3 : Int32)) := ⟨_, rfl⟩
  rw [← hkv]
  show own_Go p e below s _ _ _ (s₁.setTop (mkF m 7 #[.val (.int p0), .val (.int p1), .val (.int p2), .val (.int p3), .val (.int p4), .val (.int kv), .unset, .unset, .unset, .unset] []))
  obtain ⟨kq, hkq, hk3⟩ : ∃ n : Nat, kv.toInt = (n : Int) ∧ n ≤ 3 := by rw [hkv]; exact own_and3 _
  refine own_go (fun t_ kt_ => XS.iloadN X0.here hx rfl (hb hby at_7) rfl kt_) ?_
  show own_Go p e below s _ _ _ (s₁.setTop (mkF m 8 #[.val (.int p0), .val (.int p1), .val (.int p2), .val (.int p3), .val (.int p4), .val (.int kv), .unset, .unset, .unset, .unset] [(.int p2)]))
  refine own_go (fun t_ kt_ => XS.iconst X0.here hx rfl (hb hby at_8) kt_) ?_
  show own_Go p e below s _ _ _ (s₁.setTop (mkF m 9 #[.val (.int p0), .val (.int p1), .val (.int p2), .val (.int p3), .val (.int p4), .val (.int kv), .unset, .unset, .unset, .unset] [(.int (1 : Int32)), (.int p2)]))
  refine own_go (fun t_ kt_ => XS.iand X0.here hx rfl (hb hby at_9) rfl kt_) ?_
  show own_Go p e below s _ _ _ (s₁.setTop (mkF m 10 #[.val (.int p0), .val (.int p1), .val (.int p2), .val (.int p3), .val (.int p4), .val (.int kv), .unset, .unset, .unset, .unset] [(.int (p2 &&& (1 : Int32)))]))
  have J18 : ∀ (T1 : State) (locs1 : List Loc) (X1 : Stand p l e room_1 s m #[(.int p0), (.int p1), (.int p2), (.int p3), (.int p4)] below meth c T1 locs1 0 0) (e1 : T1.heap = h0) (N1 : Fr n0 locs1) (wr : Int32), own_Go p e below s (Q0 Z p0 p1 p2 p3 p4 hxa h0 n0) (room_1).cells (room_1).slots (T1.setTop (mkF m 18 #[.val (.int p0), .val (.int p1), .val (.int p2), .val (.int p3), .val (.int p4), .val (.int kv), .unset, .unset, .unset, .unset] [(.int wr)])) := by
    intro T1 locs1 X1 e1 N1 wr
    refine own_go (fun t_ kt_ => XS.istore X1.here hx rfl (hb hby at_18) rfl (l' := #[.val (.int p0), .val (.int p1), .val (.int p2), .val (.int p3), .val (.int p4), .val (.int kv), .val (.int wr), .unset, .unset, .unset]) rfl kt_) ?_
    show own_Go p e below s _ _ _ (T1.setTop (mkF m 20 #[.val (.int p0), .val (.int p1), .val (.int p2), .val (.int p3), .val (.int p4), .val (.int kv), .val (.int wr), .unset, .unset, .unset] []))
    refine own_go (fun t_ kt_ => XS.iload X1.here hx rfl (hb hby at_20) rfl kt_) ?_
    show own_Go p e below s _ _ _ (T1.setTop (mkF m 22 #[.val (.int p0), .val (.int p1), .val (.int p2), .val (.int p3), .val (.int p4), .val (.int kv), .val (.int wr), .unset, .unset, .unset] [(.int p4)]))
    refine own_go (fun t_ kt_ => XS.bipush X1.here hx rfl (hb hby at_22) kt_) ?_
    show own_Go p e below s _ _ _ (T1.setTop (mkF m 24 #[.val (.int p0), .val (.int p1), .val (.int p2), .val (.int p3), .val (.int p4), .val (.int kv), .val (.int wr), .unset, .unset, .unset] [(.int (8 : Int32)), (.int p4)]))
    refine own_go (fun t_ kt_ => XS.iushr X1.here hx rfl (hb hby at_24) rfl kt_) ?_
    show own_Go p e below s _ _ _ (T1.setTop (mkF m 25 #[.val (.int p0), .val (.int p1), .val (.int p2), .val (.int p3), .val (.int p4), .val (.int kv), .val (.int wr), .unset, .unset, .unset] [(.int ((p4.toUInt32 >>> ((8 : Int32) &&& 31).toUInt32).toInt32))]))
    refine own_go (fun t_ kt_ => XS.i2b X1.here hx rfl (hb hby at_25) rfl kt_) ?_
    show own_Go p e below s _ _ _ (T1.setTop (mkF m 26 #[.val (.int p0), .val (.int p1), .val (.int p2), .val (.int p3), .val (.int p4), .val (.int kv), .val (.int wr), .unset, .unset, .unset] [(.int (((p4.toUInt32 >>> ((8 : Int32) &&& 31).toUInt32).toInt32).toInt8.toInt32))]))
    refine own_go (fun t_ kt_ => XS.istore X1.here hx rfl (hb hby at_26) rfl (l' := #[.val (.int p0), .val (.int p1), .val (.int p2), .val (.int p3), .val (.int p4), .val (.int kv), .val (.int wr), .val (.int (((p4.toUInt32 >>> ((8 : Int32) &&& 31).toUInt32).toInt32).toInt8.toInt32)), .unset, .unset]) rfl kt_) ?_
    show own_Go p e below s _ _ _ (T1.setTop (mkF m 28 #[.val (.int p0), .val (.int p1), .val (.int p2), .val (.int p3), .val (.int p4), .val (.int kv), .val (.int wr), .val (.int (((p4.toUInt32 >>> ((8 : Int32) &&& 31).toUInt32).toInt32).toInt8.toInt32)), .unset, .unset] []))
    refine own_go (fun t_ kt_ => XS.bipush X1.here hx rfl (hb hby at_28) kt_) ?_
    show own_Go p e below s _ _ _ (T1.setTop (mkF m 30 #[.val (.int p0), .val (.int p1), .val (.int p2), .val (.int p3), .val (.int p4), .val (.int kv), .val (.int wr), .val (.int (((p4.toUInt32 >>> ((8 : Int32) &&& 31).toUInt32).toInt32).toInt8.toInt32)), .unset, .unset] [(.int (12 : Int32))]))
    obtain ⟨T2, h2, k2, X2, e2, E2, A2, st2⟩ := newP X1 hx hZ (hw _ (List.mem_of_getElem? (i := 0) rfl)) e1 (g := (mkF m 30 #[.val (.int p0), .val (.int p1), .val (.int p2), .val (.int p3), .val (.int p4), .val (.int kv), .val (.int wr), .val (.int (((p4.toUInt32 >>> ((8 : Int32) &&& 31).toUInt32).toInt32).toInt8.toInt32)), .unset, .unset] [(.int (12 : Int32))])) rfl (hb hby at_30) rfl (by decide) (cap := 12) (by decide) (by decide) (by decide) (by decide)
    obtain ⟨ln, g2⟩ : ∃ z, z = h0.size := ⟨_, rfl⟩
    rw [← g2] at A2 st2
    refine own_go (fun t_ kt_ => st2 _ kt_) ?_
    have gt_ln : n0 ≤ ln := Nat.le_trans Z0 (Nat.le_of_eq g2.symm)
    have ne_hxa_ln : hxa ≠ ln := Nat.ne_of_lt (Nat.lt_of_lt_of_le AH.lt (Nat.le_of_eq g2.symm))
    have ZZ_2 : n0 ≤ h2.size := Nat.le_trans Z0 E2.1
    have S_HEX_VALUES_2 : Sta Z h2 "com/example/ledgerstrike/ledgerstrike/journal/JournalFormat" "HEX_VALUES" "[B" (.ref hxa) := SH.ext E2
    have VH_2 : own_Ary Z h2 hxa .byte 256 (fun j => .int (own_hv j)) := AH.ext E2
    have V_ln : own_Ary Z h2 ln .byte 12 (fun _ => (.int (0 : Int32))) := own_Ary.new A2 (by decide)
    show own_Go p e below s _ _ _ (T2.setTop (mkF m 32 #[.val (.int p0), .val (.int p1), .val (.int p2), .val (.int p3), .val (.int p4), .val (.int kv), .val (.int wr), .val (.int (((p4.toUInt32 >>> ((8 : Int32) &&& 31).toUInt32).toInt32).toInt8.toInt32)), .unset, .unset] [(.ref ln)]))
    refine own_go (fun t_ kt_ => XS.astore X2.here hx rfl (hb hby at_32) rfl rfl (l' := #[.val (.int p0), .val (.int p1), .val (.int p2), .val (.int p3), .val (.int p4), .val (.int kv), .val (.int wr), .val (.int (((p4.toUInt32 >>> ((8 : Int32) &&& 31).toUInt32).toInt32).toInt8.toInt32)), .val (.ref ln), .unset]) rfl kt_) ?_
    show own_Go p e below s _ _ _ (T2.setTop (mkF m 34 #[.val (.int p0), .val (.int p1), .val (.int p2), .val (.int p3), .val (.int p4), .val (.int kv), .val (.int wr), .val (.int (((p4.toUInt32 >>> ((8 : Int32) &&& 31).toUInt32).toInt32).toInt8.toInt32)), .val (.ref ln), .unset] []))
    refine own_go (fun t_ kt_ => XS.aload X2.here hx rfl (hb hby at_34) rfl rfl kt_) ?_
    show own_Go p e below s _ _ _ (T2.setTop (mkF m 36 #[.val (.int p0), .val (.int p1), .val (.int p2), .val (.int p3), .val (.int p4), .val (.int kv), .val (.int wr), .val (.int (((p4.toUInt32 >>> ((8 : Int32) &&& 31).toUInt32).toInt32).toInt8.toInt32)), .val (.ref ln), .unset] [(.ref ln)]))
    refine own_go (fun t_ kt_ => XS.iconst X2.here hx rfl (hb hby at_36) kt_) ?_
    show own_Go p e below s _ _ _ (T2.setTop (mkF m 37 #[.val (.int p0), .val (.int p1), .val (.int p2), .val (.int p3), .val (.int p4), .val (.int kv), .val (.int wr), .val (.int (((p4.toUInt32 >>> ((8 : Int32) &&& 31).toUInt32).toInt32).toInt8.toInt32)), .val (.ref ln), .unset] [(.int (0 : Int32)), (.ref ln)]))
    refine own_go (fun t_ kt_ => XS.iload X2.here hx rfl (hb hby at_37) rfl kt_) ?_
    show own_Go p e below s _ _ _ (T2.setTop (mkF m 39 #[.val (.int p0), .val (.int p1), .val (.int p2), .val (.int p3), .val (.int p4), .val (.int kv), .val (.int wr), .val (.int (((p4.toUInt32 >>> ((8 : Int32) &&& 31).toUInt32).toInt32).toInt8.toInt32)), .val (.ref ln), .unset] [(.int (((p4.toUInt32 >>> ((8 : Int32) &&& 31).toUInt32).toInt32).toInt8.toInt32)), (.int (0 : Int32)), (.ref ln)]))
    obtain ⟨ce3, Ar3, S3, G3⟩ := id V_ln
    obtain ⟨T3, h3, X3, e3, W3, st3⟩ := stB X2 hx hZ e2 Ar3 (j := (0 : Int32)) (own_in (i := 0) S3 (by decide) (by decide)) (g := (mkF m 39 #[.val (.int p0), .val (.int p1), .val (.int p2), .val (.int p3), .val (.int p4), .val (.int kv), .val (.int wr), .val (.int (((p4.toUInt32 >>> ((8 : Int32) &&& 31).toUInt32).toInt32).toInt8.toInt32)), .val (.ref ln), .unset] [(.int (((p4.toUInt32 >>> ((8 : Int32) &&& 31).toUInt32).toInt32).toInt8.toInt32)), (.int (0 : Int32)), (.ref ln)])) rfl rfl (hb hby at_39)
    rw [own_cl (j := (0 : Int32)) (i := 0) (by decide)] at W3 X3
    refine own_go (fun t_ kt_ => st3 _ kt_) ?_
    have N3 := Fr.snoc X3 N1 gt_ln
    obtain ⟨lo3, X3g, N3g⟩ : ∃ lo, Stand p l e room_1 s m #[(.int p0), (.int p1), (.int p2), (.int p3), (.int p4)] below meth c T3 lo 1 12 ∧ Fr n0 lo := ⟨_, X3, N3⟩
    have ZZ_3 : n0 ≤ h3.size := Nat.le_trans ZZ_2 (Nat.le_of_eq W3.size.symm)
    have S_HEX_VALUES_3 : Sta Z h3 "com/example/ledgerstrike/ledgerstrike/journal/JournalFormat" "HEX_VALUES" "[B" (.ref hxa) := S_HEX_VALUES_2.wr W3
    have VH_3 : own_Ary Z h3 hxa .byte 256 (fun j => .int (own_hv j)) := VH_2.other W3 ne_hxa_ln
    have V_ln_3 : own_Ary Z h3 ln .byte 12 (own_set (fun _ => (.int (0 : Int32))) 0 (.int (nar .byte (((p4.toUInt32 >>> ((8 : Int32) &&& 31).toUInt32).toInt32).toInt8.toInt32)))) := own_Ary.set Ar3 S3 G3 W3
    show own_Go p e below s _ _ _ (T3.setTop (mkF m 40 #[.val (.int p0), .val (.int p1), .val (.int p2), .val (.int p3), .val (.int p4), .val (.int kv), .val (.int wr), .val (.int (((p4.toUInt32 >>> ((8 : Int32) &&& 31).toUInt32).toInt32).toInt8.toInt32)), .val (.ref ln), .unset] []))
    refine own_go (fun t_ kt_ => XS.aload X3g.here hx rfl (hb hby at_40) rfl rfl kt_) ?_
    show own_Go p e below s _ _ _ (T3.setTop (mkF m 42 #[.val (.int p0), .val (.int p1), .val (.int p2), .val (.int p3), .val (.int p4), .val (.int kv), .val (.int wr), .val (.int (((p4.toUInt32 >>> ((8 : Int32) &&& 31).toUInt32).toInt32).toInt8.toInt32)), .val (.ref ln), .unset] [(.ref ln)]))
    refine own_go (fun t_ kt_ => XS.iconst X3g.here hx rfl (hb hby at_42) kt_) ?_
    show own_Go p e below s _ _ _ (T3.setTop (mkF m 43 #[.val (.int p0), .val (.int p1), .val (.int p2), .val (.int p3), .val (.int p4), .val (.int kv), .val (.int wr), .val (.int (((p4.toUInt32 >>> ((8 : Int32) &&& 31).toUInt32).toInt32).toInt8.toInt32)), .val (.ref ln), .unset] [(.int (1 : Int32)), (.ref ln)]))
    refine own_go (fun t_ kt_ => XS.iload X3g.here hx rfl (hb hby at_43) rfl kt_) ?_
    show own_Go p e below s _ _ _ (T3.setTop (mkF m 45 #[.val (.int p0), .val (.int p1), .val (.int p2), .val (.int p3), .val (.int p4), .val (.int kv), .val (.int wr), .val (.int (((p4.toUInt32 >>> ((8 : Int32) &&& 31).toUInt32).toInt32).toInt8.toInt32)), .val (.ref ln), .unset] [(.int (((p4.toUInt32 >>> ((8 : Int32) &&& 31).toUInt32).toInt32).toInt8.toInt32)), (.int (1 : Int32)), (.ref ln)]))
    obtain ⟨ce4, Ar4, S4, G4⟩ := id V_ln_3
    obtain ⟨T4, h4, X4, e4, W4, st4⟩ := stB X3g hx hZ e3 Ar4 (j := (1 : Int32)) (own_in (i := 1) S4 (by decide) (by decide)) (g := (mkF m 45 #[.val (.int p0), .val (.int p1), .val (.int p2), .val (.int p3), .val (.int p4), .val (.int kv), .val (.int wr), .val (.int (((p4.toUInt32 >>> ((8 : Int32) &&& 31).toUInt32).toInt32).toInt8.toInt32)), .val (.ref ln), .unset] [(.int (((p4.toUInt32 >>> ((8 : Int32) &&& 31).toUInt32).toInt32).toInt8.toInt32)), (.int (1 : Int32)), (.ref ln)])) rfl rfl (hb hby at_45)
    rw [own_cl (j := (1 : Int32)) (i := 1) (by decide)] at W4 X4
    refine own_go (fun t_ kt_ => st4 _ kt_) ?_
    have N4 := Fr.snoc X4 N3g gt_ln
    obtain ⟨lo4, X4g, N4g⟩ : ∃ lo, Stand p l e room_1 s m #[(.int p0), (.int p1), (.int p2), (.int p3), (.int p4)] below meth c T4 lo 1 12 ∧ Fr n0 lo := ⟨_, X4, N4⟩
    have ZZ_4 : n0 ≤ h4.size := Nat.le_trans ZZ_3 (Nat.le_of_eq W4.size.symm)
    have S_HEX_VALUES_4 : Sta Z h4 "com/example/ledgerstrike/ledgerstrike/journal/JournalFormat" "HEX_VALUES" "[B" (.ref hxa) := S_HEX_VALUES_3.wr W4
    have VH_4 : own_Ary Z h4 hxa .byte 256 (fun j => .int (own_hv j)) := VH_3.other W4 ne_hxa_ln
    have V_ln_4 : own_Ary Z h4 ln .byte 12 (own_set (own_set (fun _ => (.int (0 : Int32))) 0 (.int (nar .byte (((p4.toUInt32 >>> ((8 : Int32) &&& 31).toUInt32).toInt32).toInt8.toInt32)))) 1 (.int (nar .byte (((p4.toUInt32 >>> ((8 : Int32) &&& 31).toUInt32).toInt32).toInt8.toInt32)))) := own_Ary.set Ar4 S4 G4 W4
    show own_Go p e below s _ _ _ (T4.setTop (mkF m 46 #[.val (.int p0), .val (.int p1), .val (.int p2), .val (.int p3), .val (.int p4), .val (.int kv), .val (.int wr), .val (.int (((p4.toUInt32 >>> ((8 : Int32) &&& 31).toUInt32).toInt32).toInt8.toInt32)), .val (.ref ln), .unset] []))
    refine own_go (fun t_ kt_ => XS.aload X4g.here hx rfl (hb hby at_46) rfl rfl kt_) ?_
    show own_Go p e below s _ _ _ (T4.setTop (mkF m 48 #[.val (.int p0), .val (.int p1), .val (.int p2), .val (.int p3), .val (.int p4), .val (.int kv), .val (.int wr), .val (.int (((p4.toUInt32 >>> ((8 : Int32) &&& 31).toUInt32).toInt32).toInt8.toInt32)), .val (.ref ln), .unset] [(.ref ln)]))
    refine own_go (fun t_ kt_ => XS.iconst X4g.here hx rfl (hb hby at_48) kt_) ?_
    show own_Go p e below s _ _ _ (T4.setTop (mkF m 49 #[.val (.int p0), .val (.int p1), .val (.int p2), .val (.int p3), .val (.int p4), .val (.int kv), .val (.int wr), .val (.int (((p4.toUInt32 >>> ((8 : Int32) &&& 31).toUInt32).toInt32).toInt8.toInt32)), .val (.ref ln), .unset] [(.int (2 : Int32)), (.ref ln)]))
    refine own_go (fun t_ kt_ => XS.iload X4g.here hx rfl (hb hby at_49) rfl kt_) ?_
    show own_Go p e below s _ _ _ (T4.setTop (mkF m 51 #[.val (.int p0), .val (.int p1), .val (.int p2), .val (.int p3), .val (.int p4), .val (.int kv), .val (.int wr), .val (.int (((p4.toUInt32 >>> ((8 : Int32) &&& 31).toUInt32).toInt32).toInt8.toInt32)), .val (.ref ln), .unset] [(.int (((p4.toUInt32 >>> ((8 : Int32) &&& 31).toUInt32).toInt32).toInt8.toInt32)), (.int (2 : Int32)), (.ref ln)]))
    obtain ⟨ce5, Ar5, S5, G5⟩ := id V_ln_4
    obtain ⟨T5, h5, X5, e5, W5, st5⟩ := stB X4g hx hZ e4 Ar5 (j := (2 : Int32)) (own_in (i := 2) S5 (by decide) (by decide)) (g := (mkF m 51 #[.val (.int p0), .val (.int p1), .val (.int p2), .val (.int p3), .val (.int p4), .val (.int kv), .val (.int wr), .val (.int (((p4.toUInt32 >>> ((8 : Int32) &&& 31).toUInt32).toInt32).toInt8.toInt32)), .val (.ref ln), .unset] [(.int (((p4.toUInt32 >>> ((8 : Int32) &&& 31).toUInt32).toInt32).toInt8.toInt32)), (.int (2 : Int32)), (.ref ln)])) rfl rfl (hb hby at_51)
    rw [own_cl (j := (2 : Int32)) (i := 2) (by decide)] at W5 X5
    refine own_go (fun t_ kt_ => st5 _ kt_) ?_
    have N5 := Fr.snoc X5 N4g gt_ln
    obtain ⟨lo5, X5g, N5g⟩ : ∃ lo, Stand p l e room_1 s m #[(.int p0), (.int p1), (.int p2), (.int p3), (.int p4)] below meth c T5 lo 1 12 ∧ Fr n0 lo := ⟨_, X5, N5⟩
    have ZZ_5 : n0 ≤ h5.size := Nat.le_trans ZZ_4 (Nat.le_of_eq W5.size.symm)
    have S_HEX_VALUES_5 : Sta Z h5 "com/example/ledgerstrike/ledgerstrike/journal/JournalFormat" "HEX_VALUES" "[B" (.ref hxa) := S_HEX_VALUES_4.wr W5
    have VH_5 : own_Ary Z h5 hxa .byte 256 (fun j => .int (own_hv j)) := VH_4.other W5 ne_hxa_ln
    have V_ln_5 : own_Ary Z h5 ln .byte 12 (own_set (own_set (own_set (fun _ => (.int (0 : Int32))) 0 (.int (nar .byte (((p4.toUInt32 >>> ((8 : Int32) &&& 31).toUInt32).toInt32).toInt8.toInt32)))) 1 (.int (nar .byte (((p4.toUInt32 >>> ((8 : Int32) &&& 31).toUInt32).toInt32).toInt8.toInt32)))) 2 (.int (nar .byte (((p4.toUInt32 >>> ((8 : Int32) &&& 31).toUInt32).toInt32).toInt8.toInt32)))) := own_Ary.set Ar5 S5 G5 W5
    show own_Go p e below s _ _ _ (T5.setTop (mkF m 52 #[.val (.int p0), .val (.int p1), .val (.int p2), .val (.int p3), .val (.int p4), .val (.int kv), .val (.int wr), .val (.int (((p4.toUInt32 >>> ((8 : Int32) &&& 31).toUInt32).toInt32).toInt8.toInt32)), .val (.ref ln), .unset] []))
    refine own_go (fun t_ kt_ => XS.aload X5g.here hx rfl (hb hby at_52) rfl rfl kt_) ?_
    show own_Go p e below s _ _ _ (T5.setTop (mkF m 54 #[.val (.int p0), .val (.int p1), .val (.int p2), .val (.int p3), .val (.int p4), .val (.int kv), .val (.int wr), .val (.int (((p4.toUInt32 >>> ((8 : Int32) &&& 31).toUInt32).toInt32).toInt8.toInt32)), .val (.ref ln), .unset] [(.ref ln)]))
    refine own_go (fun t_ kt_ => XS.iconst X5g.here hx rfl (hb hby at_54) kt_) ?_
    show own_Go p e below s _ _ _ (T5.setTop (mkF m 55 #[.val (.int p0), .val (.int p1), .val (.int p2), .val (.int p3), .val (.int p4), .val (.int kv), .val (.int wr), .val (.int (((p4.toUInt32 >>> ((8 : Int32) &&& 31).toUInt32).toInt32).toInt8.toInt32)), .val (.ref ln), .unset] [(.int (3 : Int32)), (.ref ln)]))
    refine own_go (fun t_ kt_ => XS.iload X5g.here hx rfl (hb hby at_55) rfl kt_) ?_
    show own_Go p e below s _ _ _ (T5.setTop (mkF m 57 #[.val (.int p0), .val (.int p1), .val (.int p2), .val (.int p3), .val (.int p4), .val (.int kv), .val (.int wr), .val (.int (((p4.toUInt32 >>> ((8 : Int32) &&& 31).toUInt32).toInt32).toInt8.toInt32)), .val (.ref ln), .unset] [(.int (((p4.toUInt32 >>> ((8 : Int32) &&& 31).toUInt32).toInt32).toInt8.toInt32)), (.int (3 : Int32)), (.ref ln)]))
    obtain ⟨ce6, Ar6, S6, G6⟩ := id V_ln_5
    obtain ⟨T6, h6, X6, e6, W6, st6⟩ := stB X5g hx hZ e5 Ar6 (j := (3 : Int32)) (own_in (i := 3) S6 (by decide) (by decide)) (g := (mkF m 57 #[.val (.int p0), .val (.int p1), .val (.int p2), .val (.int p3), .val (.int p4), .val (.int kv), .val (.int wr), .val (.int (((p4.toUInt32 >>> ((8 : Int32) &&& 31).toUInt32).toInt32).toInt8.toInt32)), .val (.ref ln), .unset] [(.int (((p4.toUInt32 >>> ((8 : Int32) &&& 31).toUInt32).toInt32).toInt8.toInt32)), (.int (3 : Int32)), (.ref ln)])) rfl rfl (hb hby at_57)
    rw [own_cl (j := (3 : Int32)) (i := 3) (by decide)] at W6 X6
    refine own_go (fun t_ kt_ => st6 _ kt_) ?_
    have N6 := Fr.snoc X6 N5g gt_ln
    obtain ⟨lo6, X6g, N6g⟩ : ∃ lo, Stand p l e room_1 s m #[(.int p0), (.int p1), (.int p2), (.int p3), (.int p4)] below meth c T6 lo 1 12 ∧ Fr n0 lo := ⟨_, X6, N6⟩
    have ZZ_6 : n0 ≤ h6.size := Nat.le_trans ZZ_5 (Nat.le_of_eq W6.size.symm)
    have S_HEX_VALUES_6 : Sta Z h6 "com/example/ledgerstrike/ledgerstrike/journal/JournalFormat" "HEX_VALUES" "[B" (.ref hxa) := S_HEX_VALUES_5.wr W6
    have VH_6 : own_Ary Z h6 hxa .byte 256 (fun j => .int (own_hv j)) := VH_5.other W6 ne_hxa_ln
    have V_ln_6 : own_Ary Z h6 ln .byte 12 (own_set (own_set (own_set (own_set (fun _ => (.int (0 : Int32))) 0 (.int (nar .byte (((p4.toUInt32 >>> ((8 : Int32) &&& 31).toUInt32).toInt32).toInt8.toInt32)))) 1 (.int (nar .byte (((p4.toUInt32 >>> ((8 : Int32) &&& 31).toUInt32).toInt32).toInt8.toInt32)))) 2 (.int (nar .byte (((p4.toUInt32 >>> ((8 : Int32) &&& 31).toUInt32).toInt32).toInt8.toInt32)))) 3 (.int (nar .byte (((p4.toUInt32 >>> ((8 : Int32) &&& 31).toUInt32).toInt32).toInt8.toInt32)))) := own_Ary.set Ar6 S6 G6 W6
    show own_Go p e below s _ _ _ (T6.setTop (mkF m 58 #[.val (.int p0), .val (.int p1), .val (.int p2), .val (.int p3), .val (.int p4), .val (.int kv), .val (.int wr), .val (.int (((p4.toUInt32 >>> ((8 : Int32) &&& 31).toUInt32).toInt32).toInt8.toInt32)), .val (.ref ln), .unset] []))
    refine own_go (fun t_ kt_ => XS.aload X6g.here hx rfl (hb hby at_58) rfl rfl kt_) ?_
    show own_Go p e below s _ _ _ (T6.setTop (mkF m 60 #[.val (.int p0), .val (.int p1), .val (.int p2), .val (.int p3), .val (.int p4), .val (.int kv), .val (.int wr), .val (.int (((p4.toUInt32 >>> ((8 : Int32) &&& 31).toUInt32).toInt32).toInt8.toInt32)), .val (.ref ln), .unset] [(.ref ln)]))
    refine own_go (fun t_ kt_ => XS.iconst X6g.here hx rfl (hb hby at_60) kt_) ?_
    show own_Go p e below s _ _ _ (T6.setTop (mkF m 61 #[.val (.int p0), .val (.int p1), .val (.int p2), .val (.int p3), .val (.int p4), .val (.int kv), .val (.int wr), .val (.int (((p4.toUInt32 >>> ((8 : Int32) &&& 31).toUInt32).toInt32).toInt8.toInt32)), .val (.ref ln), .unset] [(.int (4 : Int32)), (.ref ln)]))
    refine own_go (fun t_ kt_ => XS.iload X6g.here hx rfl (hb hby at_61) rfl kt_) ?_
    show own_Go p e below s _ _ _ (T6.setTop (mkF m 63 #[.val (.int p0), .val (.int p1), .val (.int p2), .val (.int p3), .val (.int p4), .val (.int kv), .val (.int wr), .val (.int (((p4.toUInt32 >>> ((8 : Int32) &&& 31).toUInt32).toInt32).toInt8.toInt32)), .val (.ref ln), .unset] [(.int (((p4.toUInt32 >>> ((8 : Int32) &&& 31).toUInt32).toInt32).toInt8.toInt32)), (.int (4 : Int32)), (.ref ln)]))
    obtain ⟨ce7, Ar7, S7, G7⟩ := id V_ln_6
    obtain ⟨T7, h7, X7, e7, W7, st7⟩ := stB X6g hx hZ e6 Ar7 (j := (4 : Int32)) (own_in (i := 4) S7 (by decide) (by decide)) (g := (mkF m 63 #[.val (.int p0), .val (.int p1), .val (.int p2), .val (.int p3), .val (.int p4), .val (.int kv), .val (.int wr), .val (.int (((p4.toUInt32 >>> ((8 : Int32) &&& 31).toUInt32).toInt32).toInt8.toInt32)), .val (.ref ln), .unset] [(.int (((p4.toUInt32 >>> ((8 : Int32) &&& 31).toUInt32).toInt32).toInt8.toInt32)), (.int (4 : Int32)), (.ref ln)])) rfl rfl (hb hby at_63)
    rw [own_cl (j := (4 : Int32)) (i := 4) (by decide)] at W7 X7
    refine own_go (fun t_ kt_ => st7 _ kt_) ?_
    have N7 := Fr.snoc X7 N6g gt_ln
    obtain ⟨lo7, X7g, N7g⟩ : ∃ lo, Stand p l e room_1 s m #[(.int p0), (.int p1), (.int p2), (.int p3), (.int p4)] below meth c T7 lo 1 12 ∧ Fr n0 lo := ⟨_, X7, N7⟩
    have ZZ_7 : n0 ≤ h7.size := Nat.le_trans ZZ_6 (Nat.le_of_eq W7.size.symm)
    have S_HEX_VALUES_7 : Sta Z h7 "com/example/ledgerstrike/ledgerstrike/journal/JournalFormat" "HEX_VALUES" "[B" (.ref hxa) := S_HEX_VALUES_6.wr W7
    have VH_7 : own_Ary Z h7 hxa .byte 256 (fun j => .int (own_hv j)) := VH_6.other W7 ne_hxa_ln
    have V_ln_7 : own_Ary Z h7 ln .byte 12 (own_set (own_set (own_set (own_set (own_set (fun _ => (.int (0 : Int32))) 0 (.int (nar .byte (((p4.toUInt32 >>> ((8 : Int32) &&& 31).toUInt32).toInt32).toInt8.toInt32)))) 1 (.int (nar .byte (((p4.toUInt32 >>> ((8 : Int32) &&& 31).toUInt32).toInt32).toInt8.toInt32)))) 2 (.int (nar .byte (((p4.toUInt32 >>> ((8 : Int32) &&& 31).toUInt32).toInt32).toInt8.toInt32)))) 3 (.int (nar .byte (((p4.toUInt32 >>> ((8 : Int32) &&& 31).toUInt32).toInt32).toInt8.toInt32)))) 4 (.int (nar .byte (((p4.toUInt32 >>> ((8 : Int32) &&& 31).toUInt32).toInt32).toInt8.toInt32)))) := own_Ary.set Ar7 S7 G7 W7
    show own_Go p e below s _ _ _ (T7.setTop (mkF m 64 #[.val (.int p0), .val (.int p1), .val (.int p2), .val (.int p3), .val (.int p4), .val (.int kv), .val (.int wr), .val (.int (((p4.toUInt32 >>> ((8 : Int32) &&& 31).toUInt32).toInt32).toInt8.toInt32)), .val (.ref ln), .unset] []))
    refine own_go (fun t_ kt_ => XS.aload X7g.here hx rfl (hb hby at_64) rfl rfl kt_) ?_
    show own_Go p e below s _ _ _ (T7.setTop (mkF m 66 #[.val (.int p0), .val (.int p1), .val (.int p2), .val (.int p3), .val (.int p4), .val (.int kv), .val (.int wr), .val (.int (((p4.toUInt32 >>> ((8 : Int32) &&& 31).toUInt32).toInt32).toInt8.toInt32)), .val (.ref ln), .unset] [(.ref ln)]))
    refine own_go (fun t_ kt_ => XS.iconst X7g.here hx rfl (hb hby at_66) kt_) ?_
    show own_Go p e below s _ _ _ (T7.setTop (mkF m 67 #[.val (.int p0), .val (.int p1), .val (.int p2), .val (.int p3), .val (.int p4), .val (.int kv), .val (.int wr), .val (.int (((p4.toUInt32 >>> ((8 : Int32) &&& 31).toUInt32).toInt32).toInt8.toInt32)), .val (.ref ln), .unset] [(.int (5 : Int32)), (.ref ln)]))
    refine own_go (fun t_ kt_ => XS.iload X7g.here hx rfl (hb hby at_67) rfl kt_) ?_
    show own_Go p e below s _ _ _ (T7.setTop (mkF m 69 #[.val (.int p0), .val (.int p1), .val (.int p2), .val (.int p3), .val (.int p4), .val (.int kv), .val (.int wr), .val (.int (((p4.toUInt32 >>> ((8 : Int32) &&& 31).toUInt32).toInt32).toInt8.toInt32)), .val (.ref ln), .unset] [(.int (((p4.toUInt32 >>> ((8 : Int32) &&& 31).toUInt32).toInt32).toInt8.toInt32)), (.int (5 : Int32)), (.ref ln)]))
    obtain ⟨ce8, Ar8, S8, G8⟩ := id V_ln_7
    obtain ⟨T8, h8, X8, e8, W8, st8⟩ := stB X7g hx hZ e7 Ar8 (j := (5 : Int32)) (own_in (i := 5) S8 (by decide) (by decide)) (g := (mkF m 69 #[.val (.int p0), .val (.int p1), .val (.int p2), .val (.int p3), .val (.int p4), .val (.int kv), .val (.int wr), .val (.int (((p4.toUInt32 >>> ((8 : Int32) &&& 31).toUInt32).toInt32).toInt8.toInt32)), .val (.ref ln), .unset] [(.int (((p4.toUInt32 >>> ((8 : Int32) &&& 31).toUInt32).toInt32).toInt8.toInt32)), (.int (5 : Int32)), (.ref ln)])) rfl rfl (hb hby at_69)
    rw [own_cl (j := (5 : Int32)) (i := 5) (by decide)] at W8 X8
    refine own_go (fun t_ kt_ => st8 _ kt_) ?_
    have N8 := Fr.snoc X8 N7g gt_ln
    obtain ⟨lo8, X8g, N8g⟩ : ∃ lo, Stand p l e room_1 s m #[(.int p0), (.int p1), (.int p2), (.int p3), (.int p4)] below meth c T8 lo 1 12 ∧ Fr n0 lo := ⟨_, X8, N8⟩
    have ZZ_8 : n0 ≤ h8.size := Nat.le_trans ZZ_7 (Nat.le_of_eq W8.size.symm)
    have S_HEX_VALUES_8 : Sta Z h8 "com/example/ledgerstrike/ledgerstrike/journal/JournalFormat" "HEX_VALUES" "[B" (.ref hxa) := S_HEX_VALUES_7.wr W8
    have VH_8 : own_Ary Z h8 hxa .byte 256 (fun j => .int (own_hv j)) := VH_7.other W8 ne_hxa_ln
    have V_ln_8 : own_Ary Z h8 ln .byte 12 (own_set (own_set (own_set (own_set (own_set (own_set (fun _ => (.int (0 : Int32))) 0 (.int (nar .byte (((p4.toUInt32 >>> ((8 : Int32) &&& 31).toUInt32).toInt32).toInt8.toInt32)))) 1 (.int (nar .byte (((p4.toUInt32 >>> ((8 : Int32) &&& 31).toUInt32).toInt32).toInt8.toInt32)))) 2 (.int (nar .byte (((p4.toUInt32 >>> ((8 : Int32) &&& 31).toUInt32).toInt32).toInt8.toInt32)))) 3 (.int (nar .byte (((p4.toUInt32 >>> ((8 : Int32) &&& 31).toUInt32).toInt32).toInt8.toInt32)))) 4 (.int (nar .byte (((p4.toUInt32 >>> ((8 : Int32) &&& 31).toUInt32).toInt32).toInt8.toInt32)))) 5 (.int (nar .byte (((p4.toUInt32 >>> ((8 : Int32) &&& 31).toUInt32).toInt32).toInt8.toInt32)))) := own_Ary.set Ar8 S8 G8 W8
    show own_Go p e below s _ _ _ (T8.setTop (mkF m 70 #[.val (.int p0), .val (.int p1), .val (.int p2), .val (.int p3), .val (.int p4), .val (.int kv), .val (.int wr), .val (.int (((p4.toUInt32 >>> ((8 : Int32) &&& 31).toUInt32).toInt32).toInt8.toInt32)), .val (.ref ln), .unset] []))
    refine own_go (fun t_ kt_ => XS.aload X8g.here hx rfl (hb hby at_70) rfl rfl kt_) ?_
    show own_Go p e below s _ _ _ (T8.setTop (mkF m 72 #[.val (.int p0), .val (.int p1), .val (.int p2), .val (.int p3), .val (.int p4), .val (.int kv), .val (.int wr), .val (.int (((p4.toUInt32 >>> ((8 : Int32) &&& 31).toUInt32).toInt32).toInt8.toInt32)), .val (.ref ln), .unset] [(.ref ln)]))
    refine own_go (fun t_ kt_ => XS.bipush X8g.here hx rfl (hb hby at_72) kt_) ?_
    show own_Go p e below s _ _ _ (T8.setTop (mkF m 74 #[.val (.int p0), .val (.int p1), .val (.int p2), .val (.int p3), .val (.int p4), .val (.int kv), .val (.int wr), .val (.int (((p4.toUInt32 >>> ((8 : Int32) &&& 31).toUInt32).toInt32).toInt8.toInt32)), .val (.ref ln), .unset] [(.int (6 : Int32)), (.ref ln)]))
    refine own_go (fun t_ kt_ => XS.iload X8g.here hx rfl (hb hby at_74) rfl kt_) ?_
    show own_Go p e below s _ _ _ (T8.setTop (mkF m 76 #[.val (.int p0), .val (.int p1), .val (.int p2), .val (.int p3), .val (.int p4), .val (.int kv), .val (.int wr), .val (.int (((p4.toUInt32 >>> ((8 : Int32) &&& 31).toUInt32).toInt32).toInt8.toInt32)), .val (.ref ln), .unset] [(.int (((p4.toUInt32 >>> ((8 : Int32) &&& 31).toUInt32).toInt32).toInt8.toInt32)), (.int (6 : Int32)), (.ref ln)]))
    obtain ⟨ce9, Ar9, S9, G9⟩ := id V_ln_8
    obtain ⟨T9, h9, X9, e9, W9, st9⟩ := stB X8g hx hZ e8 Ar9 (j := (6 : Int32)) (own_in (i := 6) S9 (by decide) (by decide)) (g := (mkF m 76 #[.val (.int p0), .val (.int p1), .val (.int p2), .val (.int p3), .val (.int p4), .val (.int kv), .val (.int wr), .val (.int (((p4.toUInt32 >>> ((8 : Int32) &&& 31).toUInt32).toInt32).toInt8.toInt32)), .val (.ref ln), .unset] [(.int (((p4.toUInt32 >>> ((8 : Int32) &&& 31).toUInt32).toInt32).toInt8.toInt32)), (.int (6 : Int32)), (.ref ln)])) rfl rfl (hb hby at_76)
    rw [own_cl (j := (6 : Int32)) (i := 6) (by decide)] at W9 X9
    refine own_go (fun t_ kt_ => st9 _ kt_) ?_
    have N9 := Fr.snoc X9 N8g gt_ln
    obtain ⟨lo9, X9g, N9g⟩ : ∃ lo, Stand p l e room_1 s m #[(.int p0), (.int p1), (.int p2), (.int p3), (.int p4)] below meth c T9 lo 1 12 ∧ Fr n0 lo := ⟨_, X9, N9⟩
    have ZZ_9 : n0 ≤ h9.size := Nat.le_trans ZZ_8 (Nat.le_of_eq W9.size.symm)
    have S_HEX_VALUES_9 : Sta Z h9 "com/example/ledgerstrike/ledgerstrike/journal/JournalFormat" "HEX_VALUES" "[B" (.ref hxa) := S_HEX_VALUES_8.wr W9
    have VH_9 : own_Ary Z h9 hxa .byte 256 (fun j => .int (own_hv j)) := VH_8.other W9 ne_hxa_ln
    have V_ln_9 : own_Ary Z h9 ln .byte 12 (own_set (own_set (own_set (own_set (own_set (own_set (own_set (fun _ => (.int (0 : Int32))) 0 (.int (nar .byte (((p4.toUInt32 >>> ((8 : Int32) &&& 31).toUInt32).toInt32).toInt8.toInt32)))) 1 (.int (nar .byte (((p4.toUInt32 >>> ((8 : Int32) &&& 31).toUInt32).toInt32).toInt8.toInt32)))) 2 (.int (nar .byte (((p4.toUInt32 >>> ((8 : Int32) &&& 31).toUInt32).toInt32).toInt8.toInt32)))) 3 (.int (nar .byte (((p4.toUInt32 >>> ((8 : Int32) &&& 31).toUInt32).toInt32).toInt8.toInt32)))) 4 (.int (nar .byte (((p4.toUInt32 >>> ((8 : Int32) &&& 31).toUInt32).toInt32).toInt8.toInt32)))) 5 (.int (nar .byte (((p4.toUInt32 >>> ((8 : Int32) &&& 31).toUInt32).toInt32).toInt8.toInt32)))) 6 (.int (nar .byte (((p4.toUInt32 >>> ((8 : Int32) &&& 31).toUInt32).toInt32).toInt8.toInt32)))) := own_Ary.set Ar9 S9 G9 W9
    show own_Go p e below s _ _ _ (T9.setTop (mkF m 77 #[.val (.int p0), .val (.int p1), .val (.int p2), .val (.int p3), .val (.int p4), .val (.int kv), .val (.int wr), .val (.int (((p4.toUInt32 >>> ((8 : Int32) &&& 31).toUInt32).toInt32).toInt8.toInt32)), .val (.ref ln), .unset] []))
    refine own_go (fun t_ kt_ => XS.aload X9g.here hx rfl (hb hby at_77) rfl rfl kt_) ?_
    show own_Go p e below s _ _ _ (T9.setTop (mkF m 79 #[.val (.int p0), .val (.int p1), .val (.int p2), .val (.int p3), .val (.int p4), .val (.int kv), .val (.int wr), .val (.int (((p4.toUInt32 >>> ((8 : Int32) &&& 31).toUInt32).toInt32).toInt8.toInt32)), .val (.ref ln), .unset] [(.ref ln)]))
    refine own_go (fun t_ kt_ => XS.bipush X9g.here hx rfl (hb hby at_79) kt_) ?_
    show own_Go p e below s _ _ _ (T9.setTop (mkF m 81 #[.val (.int p0), .val (.int p1), .val (.int p2), .val (.int p3), .val (.int p4), .val (.int kv), .val (.int wr), .val (.int (((p4.toUInt32 >>> ((8 : Int32) &&& 31).toUInt32).toInt32).toInt8.toInt32)), .val (.ref ln), .unset] [(.int (7 : Int32)), (.ref ln)]))
    refine own_go (fun t_ kt_ => XS.iload X9g.here hx rfl (hb hby at_81) rfl kt_) ?_
    show own_Go p e below s _ _ _ (T9.setTop (mkF m 83 #[.val (.int p0), .val (.int p1), .val (.int p2), .val (.int p3), .val (.int p4), .val (.int kv), .val (.int wr), .val (.int (((p4.toUInt32 >>> ((8 : Int32) &&& 31).toUInt32).toInt32).toInt8.toInt32)), .val (.ref ln), .unset] [(.int (((p4.toUInt32 >>> ((8 : Int32) &&& 31).toUInt32).toInt32).toInt8.toInt32)), (.int (7 : Int32)), (.ref ln)]))
    obtain ⟨ce10, Ar10, S10, G10⟩ := id V_ln_9
    obtain ⟨T10, h10, X10, e10, W10, st10⟩ := stB X9g hx hZ e9 Ar10 (j := (7 : Int32)) (own_in (i := 7) S10 (by decide) (by decide)) (g := (mkF m 83 #[.val (.int p0), .val (.int p1), .val (.int p2), .val (.int p3), .val (.int p4), .val (.int kv), .val (.int wr), .val (.int (((p4.toUInt32 >>> ((8 : Int32) &&& 31).toUInt32).toInt32).toInt8.toInt32)), .val (.ref ln), .unset] [(.int (((p4.toUInt32 >>> ((8 : Int32) &&& 31).toUInt32).toInt32).toInt8.toInt32)), (.int (7 : Int32)), (.ref ln)])) rfl rfl (hb hby at_83)
    rw [own_cl (j := (7 : Int32)) (i := 7) (by decide)] at W10 X10
    refine own_go (fun t_ kt_ => st10 _ kt_) ?_
    have N10 := Fr.snoc X10 N9g gt_ln
    obtain ⟨lo10, X10g, N10g⟩ : ∃ lo, Stand p l e room_1 s m #[(.int p0), (.int p1), (.int p2), (.int p3), (.int p4)] below meth c T10 lo 1 12 ∧ Fr n0 lo := ⟨_, X10, N10⟩
    have ZZ_10 : n0 ≤ h10.size := Nat.le_trans ZZ_9 (Nat.le_of_eq W10.size.symm)
    have S_HEX_VALUES_10 : Sta Z h10 "com/example/ledgerstrike/ledgerstrike/journal/JournalFormat" "HEX_VALUES" "[B" (.ref hxa) := S_HEX_VALUES_9.wr W10
    have VH_10 : own_Ary Z h10 hxa .byte 256 (fun j => .int (own_hv j)) := VH_9.other W10 ne_hxa_ln
    have V_ln_10 : own_Ary Z h10 ln .byte 12 (own_set (own_set (own_set (own_set (own_set (own_set (own_set (own_set (fun _ => (.int (0 : Int32))) 0 (.int (nar .byte (((p4.toUInt32 >>> ((8 : Int32) &&& 31).toUInt32).toInt32).toInt8.toInt32)))) 1 (.int (nar .byte (((p4.toUInt32 >>> ((8 : Int32) &&& 31).toUInt32).toInt32).toInt8.toInt32)))) 2 (.int (nar .byte (((p4.toUInt32 >>> ((8 : Int32) &&& 31).toUInt32).toInt32).toInt8.toInt32)))) 3 (.int (nar .byte (((p4.toUInt32 >>> ((8 : Int32) &&& 31).toUInt32).toInt32).toInt8.toInt32)))) 4 (.int (nar .byte (((p4.toUInt32 >>> ((8 : Int32) &&& 31).toUInt32).toInt32).toInt8.toInt32)))) 5 (.int (nar .byte (((p4.toUInt32 >>> ((8 : Int32) &&& 31).toUInt32).toInt32).toInt8.toInt32)))) 6 (.int (nar .byte (((p4.toUInt32 >>> ((8 : Int32) &&& 31).toUInt32).toInt32).toInt8.toInt32)))) 7 (.int (nar .byte (((p4.toUInt32 >>> ((8 : Int32) &&& 31).toUInt32).toInt32).toInt8.toInt32)))) := own_Ary.set Ar10 S10 G10 W10
    show own_Go p e below s _ _ _ (T10.setTop (mkF m 84 #[.val (.int p0), .val (.int p1), .val (.int p2), .val (.int p3), .val (.int p4), .val (.int kv), .val (.int wr), .val (.int (((p4.toUInt32 >>> ((8 : Int32) &&& 31).toUInt32).toInt32).toInt8.toInt32)), .val (.ref ln), .unset] []))
    refine own_go (fun t_ kt_ => XS.aload X10g.here hx rfl (hb hby at_84) rfl rfl kt_) ?_
    show own_Go p e below s _ _ _ (T10.setTop (mkF m 86 #[.val (.int p0), .val (.int p1), .val (.int p2), .val (.int p3), .val (.int p4), .val (.int kv), .val (.int wr), .val (.int (((p4.toUInt32 >>> ((8 : Int32) &&& 31).toUInt32).toInt32).toInt8.toInt32)), .val (.ref ln), .unset] [(.ref ln)]))
    refine own_go (fun t_ kt_ => XS.bipush X10g.here hx rfl (hb hby at_86) kt_) ?_
    show own_Go p e below s _ _ _ (T10.setTop (mkF m 88 #[.val (.int p0), .val (.int p1), .val (.int p2), .val (.int p3), .val (.int p4), .val (.int kv), .val (.int wr), .val (.int (((p4.toUInt32 >>> ((8 : Int32) &&& 31).toUInt32).toInt32).toInt8.toInt32)), .val (.ref ln), .unset] [(.int (8 : Int32)), (.ref ln)]))
    refine own_go (fun t_ kt_ => XS.iload X10g.here hx rfl (hb hby at_88) rfl kt_) ?_
    show own_Go p e below s _ _ _ (T10.setTop (mkF m 90 #[.val (.int p0), .val (.int p1), .val (.int p2), .val (.int p3), .val (.int p4), .val (.int kv), .val (.int wr), .val (.int (((p4.toUInt32 >>> ((8 : Int32) &&& 31).toUInt32).toInt32).toInt8.toInt32)), .val (.ref ln), .unset] [(.int (((p4.toUInt32 >>> ((8 : Int32) &&& 31).toUInt32).toInt32).toInt8.toInt32)), (.int (8 : Int32)), (.ref ln)]))
    obtain ⟨ce11, Ar11, S11, G11⟩ := id V_ln_10
    obtain ⟨T11, h11, X11, e11, W11, st11⟩ := stB X10g hx hZ e10 Ar11 (j := (8 : Int32)) (own_in (i := 8) S11 (by decide) (by decide)) (g := (mkF m 90 #[.val (.int p0), .val (.int p1), .val (.int p2), .val (.int p3), .val (.int p4), .val (.int kv), .val (.int wr), .val (.int (((p4.toUInt32 >>> ((8 : Int32) &&& 31).toUInt32).toInt32).toInt8.toInt32)), .val (.ref ln), .unset] [(.int (((p4.toUInt32 >>> ((8 : Int32) &&& 31).toUInt32).toInt32).toInt8.toInt32)), (.int (8 : Int32)), (.ref ln)])) rfl rfl (hb hby at_90)
    rw [own_cl (j := (8 : Int32)) (i := 8) (by decide)] at W11 X11
    refine own_go (fun t_ kt_ => st11 _ kt_) ?_
    have N11 := Fr.snoc X11 N10g gt_ln
    obtain ⟨lo11, X11g, N11g⟩ : ∃ lo, Stand p l e room_1 s m #[(.int p0), (.int p1), (.int p2), (.int p3), (.int p4)] below meth c T11 lo 1 12 ∧ Fr n0 lo := ⟨_, X11, N11⟩
    have ZZ_11 : n0 ≤ h11.size := Nat.le_trans ZZ_10 (Nat.le_of_eq W11.size.symm)
    have S_HEX_VALUES_11 : Sta Z h11 "com/example/ledgerstrike/ledgerstrike/journal/JournalFormat" "HEX_VALUES" "[B" (.ref hxa) := S_HEX_VALUES_10.wr W11
    have VH_11 : own_Ary Z h11 hxa .byte 256 (fun j => .int (own_hv j)) := VH_10.other W11 ne_hxa_ln
    have V_ln_11 : own_Ary Z h11 ln .byte 12 (own_set (own_set (own_set (own_set (own_set (own_set (own_set (own_set (own_set (fun _ => (.int (0 : Int32))) 0 (.int (nar .byte (((p4.toUInt32 >>> ((8 : Int32) &&& 31).toUInt32).toInt32).toInt8.toInt32)))) 1 (.int (nar .byte (((p4.toUInt32 >>> ((8 : Int32) &&& 31).toUInt32).toInt32).toInt8.toInt32)))) 2 (.int (nar .byte (((p4.toUInt32 >>> ((8 : Int32) &&& 31).toUInt32).toInt32).toInt8.toInt32)))) 3 (.int (nar .byte (((p4.toUInt32 >>> ((8 : Int32) &&& 31).toUInt32).toInt32).toInt8.toInt32)))) 4 (.int (nar .byte (((p4.toUInt32 >>> ((8 : Int32) &&& 31).toUInt32).toInt32).toInt8.toInt32)))) 5 (.int (nar .byte (((p4.toUInt32 >>> ((8 : Int32) &&& 31).toUInt32).toInt32).toInt8.toInt32)))) 6 (.int (nar .byte (((p4.toUInt32 >>> ((8 : Int32) &&& 31).toUInt32).toInt32).toInt8.toInt32)))) 7 (.int (nar .byte (((p4.toUInt32 >>> ((8 : Int32) &&& 31).toUInt32).toInt32).toInt8.toInt32)))) 8 (.int (nar .byte (((p4.toUInt32 >>> ((8 : Int32) &&& 31).toUInt32).toInt32).toInt8.toInt32)))) := own_Ary.set Ar11 S11 G11 W11
    show own_Go p e below s _ _ _ (T11.setTop (mkF m 91 #[.val (.int p0), .val (.int p1), .val (.int p2), .val (.int p3), .val (.int p4), .val (.int kv), .val (.int wr), .val (.int (((p4.toUInt32 >>> ((8 : Int32) &&& 31).toUInt32).toInt32).toInt8.toInt32)), .val (.ref ln), .unset] []))
    refine own_go (fun t_ kt_ => XS.aload X11g.here hx rfl (hb hby at_91) rfl rfl kt_) ?_
    show own_Go p e below s _ _ _ (T11.setTop (mkF m 93 #[.val (.int p0), .val (.int p1), .val (.int p2), .val (.int p3), .val (.int p4), .val (.int kv), .val (.int wr), .val (.int (((p4.toUInt32 >>> ((8 : Int32) &&& 31).toUInt32).toInt32).toInt8.toInt32)), .val (.ref ln), .unset] [(.ref ln)]))
    refine own_go (fun t_ kt_ => XS.bipush X11g.here hx rfl (hb hby at_93) kt_) ?_
    show own_Go p e below s _ _ _ (T11.setTop (mkF m 95 #[.val (.int p0), .val (.int p1), .val (.int p2), .val (.int p3), .val (.int p4), .val (.int kv), .val (.int wr), .val (.int (((p4.toUInt32 >>> ((8 : Int32) &&& 31).toUInt32).toInt32).toInt8.toInt32)), .val (.ref ln), .unset] [(.int (9 : Int32)), (.ref ln)]))
    refine own_go (fun t_ kt_ => XS.iload X11g.here hx rfl (hb hby at_95) rfl kt_) ?_
    show own_Go p e below s _ _ _ (T11.setTop (mkF m 97 #[.val (.int p0), .val (.int p1), .val (.int p2), .val (.int p3), .val (.int p4), .val (.int kv), .val (.int wr), .val (.int (((p4.toUInt32 >>> ((8 : Int32) &&& 31).toUInt32).toInt32).toInt8.toInt32)), .val (.ref ln), .unset] [(.int (((p4.toUInt32 >>> ((8 : Int32) &&& 31).toUInt32).toInt32).toInt8.toInt32)), (.int (9 : Int32)), (.ref ln)]))
    obtain ⟨ce12, Ar12, S12, G12⟩ := id V_ln_11
    obtain ⟨T12, h12, X12, e12, W12, st12⟩ := stB X11g hx hZ e11 Ar12 (j := (9 : Int32)) (own_in (i := 9) S12 (by decide) (by decide)) (g := (mkF m 97 #[.val (.int p0), .val (.int p1), .val (.int p2), .val (.int p3), .val (.int p4), .val (.int kv), .val (.int wr), .val (.int (((p4.toUInt32 >>> ((8 : Int32) &&& 31).toUInt32).toInt32).toInt8.toInt32)), .val (.ref ln), .unset] [(.int (((p4.toUInt32 >>> ((8 : Int32) &&& 31).toUInt32).toInt32).toInt8.toInt32)), (.int (9 : Int32)), (.ref ln)])) rfl rfl (hb hby at_97)
    rw [own_cl (j := (9 : Int32)) (i := 9) (by decide)] at W12 X12
    refine own_go (fun t_ kt_ => st12 _ kt_) ?_
    have N12 := Fr.snoc X12 N11g gt_ln
    obtain ⟨lo12, X12g, N12g⟩ : ∃ lo, Stand p l e room_1 s m #[(.int p0), (.int p1), (.int p2), (.int p3), (.int p4)] below meth c T12 lo 1 12 ∧ Fr n0 lo := ⟨_, X12, N12⟩
    have ZZ_12 : n0 ≤ h12.size := Nat.le_trans ZZ_11 (Nat.le_of_eq W12.size.symm)
    have S_HEX_VALUES_12 : Sta Z h12 "com/example/ledgerstrike/ledgerstrike/journal/JournalFormat" "HEX_VALUES" "[B" (.ref hxa) := S_HEX_VALUES_11.wr W12
    have VH_12 : own_Ary Z h12 hxa .byte 256 (fun j => .int (own_hv j)) := VH_11.other W12 ne_hxa_ln
    have V_ln_12 : own_Ary Z h12 ln .byte 12 (own_set (own_set (own_set (own_set (own_set (own_set (own_set (own_set (own_set (own_set (fun _ => (.int (0 : Int32))) 0 (.int (nar .byte (((p4.toUInt32 >>> ((8 : Int32) &&& 31).toUInt32).toInt32).toInt8.toInt32)))) 1 (.int (nar .byte (((p4.toUInt32 >>> ((8 : Int32) &&& 31).toUInt32).toInt32).toInt8.toInt32)))) 2 (.int (nar .byte (((p4.toUInt32 >>> ((8 : Int32) &&& 31).toUInt32).toInt32).toInt8.toInt32)))) 3 (.int (nar .byte (((p4.toUInt32 >>> ((8 : Int32) &&& 31).toUInt32).toInt32).toInt8.toInt32)))) 4 (.int (nar .byte (((p4.toUInt32 >>> ((8 : Int32) &&& 31).toUInt32).toInt32).toInt8.toInt32)))) 5 (.int (nar .byte (((p4.toUInt32 >>> ((8 : Int32) &&& 31).toUInt32).toInt32).toInt8.toInt32)))) 6 (.int (nar .byte (((p4.toUInt32 >>> ((8 : Int32) &&& 31).toUInt32).toInt32).toInt8.toInt32)))) 7 (.int (nar .byte (((p4.toUInt32 >>> ((8 : Int32) &&& 31).toUInt32).toInt32).toInt8.toInt32)))) 8 (.int (nar .byte (((p4.toUInt32 >>> ((8 : Int32) &&& 31).toUInt32).toInt32).toInt8.toInt32)))) 9 (.int (nar .byte (((p4.toUInt32 >>> ((8 : Int32) &&& 31).toUInt32).toInt32).toInt8.toInt32)))) := own_Ary.set Ar12 S12 G12 W12
    show own_Go p e below s _ _ _ (T12.setTop (mkF m 98 #[.val (.int p0), .val (.int p1), .val (.int p2), .val (.int p3), .val (.int p4), .val (.int kv), .val (.int wr), .val (.int (((p4.toUInt32 >>> ((8 : Int32) &&& 31).toUInt32).toInt32).toInt8.toInt32)), .val (.ref ln), .unset] []))
    refine own_go (fun t_ kt_ => XS.aload X12g.here hx rfl (hb hby at_98) rfl rfl kt_) ?_
    show own_Go p e below s _ _ _ (T12.setTop (mkF m 100 #[.val (.int p0), .val (.int p1), .val (.int p2), .val (.int p3), .val (.int p4), .val (.int kv), .val (.int wr), .val (.int (((p4.toUInt32 >>> ((8 : Int32) &&& 31).toUInt32).toInt32).toInt8.toInt32)), .val (.ref ln), .unset] [(.ref ln)]))
    refine own_go (fun t_ kt_ => XS.bipush X12g.here hx rfl (hb hby at_100) kt_) ?_
    show own_Go p e below s _ _ _ (T12.setTop (mkF m 102 #[.val (.int p0), .val (.int p1), .val (.int p2), .val (.int p3), .val (.int p4), .val (.int kv), .val (.int wr), .val (.int (((p4.toUInt32 >>> ((8 : Int32) &&& 31).toUInt32).toInt32).toInt8.toInt32)), .val (.ref ln), .unset] [(.int (10 : Int32)), (.ref ln)]))
    refine own_go (fun t_ kt_ => XS.iload X12g.here hx rfl (hb hby at_102) rfl kt_) ?_
    show own_Go p e below s _ _ _ (T12.setTop (mkF m 104 #[.val (.int p0), .val (.int p1), .val (.int p2), .val (.int p3), .val (.int p4), .val (.int kv), .val (.int wr), .val (.int (((p4.toUInt32 >>> ((8 : Int32) &&& 31).toUInt32).toInt32).toInt8.toInt32)), .val (.ref ln), .unset] [(.int (((p4.toUInt32 >>> ((8 : Int32) &&& 31).toUInt32).toInt32).toInt8.toInt32)), (.int (10 : Int32)), (.ref ln)]))
    obtain ⟨ce13, Ar13, S13, G13⟩ := id V_ln_12
    obtain ⟨T13, h13, X13, e13, W13, st13⟩ := stB X12g hx hZ e12 Ar13 (j := (10 : Int32)) (own_in (i := 10) S13 (by decide) (by decide)) (g := (mkF m 104 #[.val (.int p0), .val (.int p1), .val (.int p2), .val (.int p3), .val (.int p4), .val (.int kv), .val (.int wr), .val (.int (((p4.toUInt32 >>> ((8 : Int32) &&& 31).toUInt32).toInt32).toInt8.toInt32)), .val (.ref ln), .unset] [(.int (((p4.toUInt32 >>> ((8 : Int32) &&& 31).toUInt32).toInt32).toInt8.toInt32)), (.int (10 : Int32)), (.ref ln)])) rfl rfl (hb hby at_104)
    rw [own_cl (j := (10 : Int32)) (i := 10) (by decide)] at W13 X13
    refine own_go (fun t_ kt_ => st13 _ kt_) ?_
    have N13 := Fr.snoc X13 N12g gt_ln
    obtain ⟨lo13, X13g, N13g⟩ : ∃ lo, Stand p l e room_1 s m #[(.int p0), (.int p1), (.int p2), (.int p3), (.int p4)] below meth c T13 lo 1 12 ∧ Fr n0 lo := ⟨_, X13, N13⟩
    have ZZ_13 : n0 ≤ h13.size := Nat.le_trans ZZ_12 (Nat.le_of_eq W13.size.symm)
    have S_HEX_VALUES_13 : Sta Z h13 "com/example/ledgerstrike/ledgerstrike/journal/JournalFormat" "HEX_VALUES" "[B" (.ref hxa) := S_HEX_VALUES_12.wr W13
    have VH_13 : own_Ary Z h13 hxa .byte 256 (fun j => .int (own_hv j)) := VH_12.other W13 ne_hxa_ln
    have V_ln_13 : own_Ary Z h13 ln .byte 12 (own_set (own_set (own_set (own_set (own_set (own_set (own_set (own_set (own_set (own_set (own_set (fun _ => (.int (0 : Int32))) 0 (.int (nar .byte (((p4.toUInt32 >>> ((8 : Int32) &&& 31).toUInt32).toInt32).toInt8.toInt32)))) 1 (.int (nar .byte (((p4.toUInt32 >>> ((8 : Int32) &&& 31).toUInt32).toInt32).toInt8.toInt32)))) 2 (.int (nar .byte (((p4.toUInt32 >>> ((8 : Int32) &&& 31).toUInt32).toInt32).toInt8.toInt32)))) 3 (.int (nar .byte (((p4.toUInt32 >>> ((8 : Int32) &&& 31).toUInt32).toInt32).toInt8.toInt32)))) 4 (.int (nar .byte (((p4.toUInt32 >>> ((8 : Int32) &&& 31).toUInt32).toInt32).toInt8.toInt32)))) 5 (.int (nar .byte (((p4.toUInt32 >>> ((8 : Int32) &&& 31).toUInt32).toInt32).toInt8.toInt32)))) 6 (.int (nar .byte (((p4.toUInt32 >>> ((8 : Int32) &&& 31).toUInt32).toInt32).toInt8.toInt32)))) 7 (.int (nar .byte (((p4.toUInt32 >>> ((8 : Int32) &&& 31).toUInt32).toInt32).toInt8.toInt32)))) 8 (.int (nar .byte (((p4.toUInt32 >>> ((8 : Int32) &&& 31).toUInt32).toInt32).toInt8.toInt32)))) 9 (.int (nar .byte (((p4.toUInt32 >>> ((8 : Int32) &&& 31).toUInt32).toInt32).toInt8.toInt32)))) 10 (.int (nar .byte (((p4.toUInt32 >>> ((8 : Int32) &&& 31).toUInt32).toInt32).toInt8.toInt32)))) := own_Ary.set Ar13 S13 G13 W13
    show own_Go p e below s _ _ _ (T13.setTop (mkF m 105 #[.val (.int p0), .val (.int p1), .val (.int p2), .val (.int p3), .val (.int p4), .val (.int kv), .val (.int wr), .val (.int (((p4.toUInt32 >>> ((8 : Int32) &&& 31).toUInt32).toInt32).toInt8.toInt32)), .val (.ref ln), .unset] []))
    refine own_go (fun t_ kt_ => XS.aload X13g.here hx rfl (hb hby at_105) rfl rfl kt_) ?_
    show own_Go p e below s _ _ _ (T13.setTop (mkF m 107 #[.val (.int p0), .val (.int p1), .val (.int p2), .val (.int p3), .val (.int p4), .val (.int kv), .val (.int wr), .val (.int (((p4.toUInt32 >>> ((8 : Int32) &&& 31).toUInt32).toInt32).toInt8.toInt32)), .val (.ref ln), .unset] [(.ref ln)]))
    refine own_go (fun t_ kt_ => XS.bipush X13g.here hx rfl (hb hby at_107) kt_) ?_
    show own_Go p e below s _ _ _ (T13.setTop (mkF m 109 #[.val (.int p0), .val (.int p1), .val (.int p2), .val (.int p3), .val (.int p4), .val (.int kv), .val (.int wr), .val (.int (((p4.toUInt32 >>> ((8 : Int32) &&& 31).toUInt32).toInt32).toInt8.toInt32)), .val (.ref ln), .unset] [(.int (11 : Int32)), (.ref ln)]))
    refine own_go (fun t_ kt_ => XS.iload X13g.here hx rfl (hb hby at_109) rfl kt_) ?_
    show own_Go p e below s _ _ _ (T13.setTop (mkF m 111 #[.val (.int p0), .val (.int p1), .val (.int p2), .val (.int p3), .val (.int p4), .val (.int kv), .val (.int wr), .val (.int (((p4.toUInt32 >>> ((8 : Int32) &&& 31).toUInt32).toInt32).toInt8.toInt32)), .val (.ref ln), .unset] [(.int (((p4.toUInt32 >>> ((8 : Int32) &&& 31).toUInt32).toInt32).toInt8.toInt32)), (.int (11 : Int32)), (.ref ln)]))
    obtain ⟨ce14, Ar14, S14, G14⟩ := id V_ln_13
    obtain ⟨T14, h14, X14, e14, W14, st14⟩ := stB X13g hx hZ e13 Ar14 (j := (11 : Int32)) (own_in (i := 11) S14 (by decide) (by decide)) (g := (mkF m 111 #[.val (.int p0), .val (.int p1), .val (.int p2), .val (.int p3), .val (.int p4), .val (.int kv), .val (.int wr), .val (.int (((p4.toUInt32 >>> ((8 : Int32) &&& 31).toUInt32).toInt32).toInt8.toInt32)), .val (.ref ln), .unset] [(.int (((p4.toUInt32 >>> ((8 : Int32) &&& 31).toUInt32).toInt32).toInt8.toInt32)), (.int (11 : Int32)), (.ref ln)])) rfl rfl (hb hby at_111)
    rw [own_cl (j := (11 : Int32)) (i := 11) (by decide)] at W14 X14
    refine own_go (fun t_ kt_ => st14 _ kt_) ?_
    have N14 := Fr.snoc X14 N13g gt_ln
    obtain ⟨lo14, X14g, N14g⟩ : ∃ lo, Stand p l e room_1 s m #[(.int p0), (.int p1), (.int p2), (.int p3), (.int p4)] below meth c T14 lo 1 12 ∧ Fr n0 lo := ⟨_, X14, N14⟩
    have ZZ_14 : n0 ≤ h14.size := Nat.le_trans ZZ_13 (Nat.le_of_eq W14.size.symm)
    have S_HEX_VALUES_14 : Sta Z h14 "com/example/ledgerstrike/ledgerstrike/journal/JournalFormat" "HEX_VALUES" "[B" (.ref hxa) := S_HEX_VALUES_13.wr W14
    have VH_14 : own_Ary Z h14 hxa .byte 256 (fun j => .int (own_hv j)) := VH_13.other W14 ne_hxa_ln
    have V_ln_14 : own_Ary Z h14 ln .byte 12 (own_set (own_set (own_set (own_set (own_set (own_set (own_set (own_set (own_set (own_set (own_set (own_set (fun _ => (.int (0 : Int32))) 0 (.int (nar .byte (((p4.toUInt32 >>> ((8 : Int32) &&& 31).toUInt32).toInt32).toInt8.toInt32)))) 1 (.int (nar .byte (((p4.toUInt32 >>> ((8 : Int32) &&& 31).toUInt32).toInt32).toInt8.toInt32)))) 2 (.int (nar .byte (((p4.toUInt32 >>> ((8 : Int32) &&& 31).toUInt32).toInt32).toInt8.toInt32)))) 3 (.int (nar .byte (((p4.toUInt32 >>> ((8 : Int32) &&& 31).toUInt32).toInt32).toInt8.toInt32)))) 4 (.int (nar .byte (((p4.toUInt32 >>> ((8 : Int32) &&& 31).toUInt32).toInt32).toInt8.toInt32)))) 5 (.int (nar .byte (((p4.toUInt32 >>> ((8 : Int32) &&& 31).toUInt32).toInt32).toInt8.toInt32)))) 6 (.int (nar .byte (((p4.toUInt32 >>> ((8 : Int32) &&& 31).toUInt32).toInt32).toInt8.toInt32)))) 7 (.int (nar .byte (((p4.toUInt32 >>> ((8 : Int32) &&& 31).toUInt32).toInt32).toInt8.toInt32)))) 8 (.int (nar .byte (((p4.toUInt32 >>> ((8 : Int32) &&& 31).toUInt32).toInt32).toInt8.toInt32)))) 9 (.int (nar .byte (((p4.toUInt32 >>> ((8 : Int32) &&& 31).toUInt32).toInt32).toInt8.toInt32)))) 10 (.int (nar .byte (((p4.toUInt32 >>> ((8 : Int32) &&& 31).toUInt32).toInt32).toInt8.toInt32)))) 11 (.int (nar .byte (((p4.toUInt32 >>> ((8 : Int32) &&& 31).toUInt32).toInt32).toInt8.toInt32)))) := own_Ary.set Ar14 S14 G14 W14
    show own_Go p e below s _ _ _ (T14.setTop (mkF m 112 #[.val (.int p0), .val (.int p1), .val (.int p2), .val (.int p3), .val (.int p4), .val (.int kv), .val (.int wr), .val (.int (((p4.toUInt32 >>> ((8 : Int32) &&& 31).toUInt32).toInt32).toInt8.toInt32)), .val (.ref ln), .unset] []))
    refine own_go (fun t_ kt_ => XS.aload X14g.here hx rfl (hb hby at_112) rfl rfl kt_) ?_
    show own_Go p e below s _ _ _ (T14.setTop (mkF m 114 #[.val (.int p0), .val (.int p1), .val (.int p2), .val (.int p3), .val (.int p4), .val (.int kv), .val (.int wr), .val (.int (((p4.toUInt32 >>> ((8 : Int32) &&& 31).toUInt32).toInt32).toInt8.toInt32)), .val (.ref ln), .unset] [(.ref ln)]))
    refine own_go (fun t_ kt_ => XS.iload X14g.here hx rfl (hb hby at_114) rfl kt_) ?_
    show own_Go p e below s _ _ _ (T14.setTop (mkF m 116 #[.val (.int p0), .val (.int p1), .val (.int p2), .val (.int p3), .val (.int p4), .val (.int kv), .val (.int wr), .val (.int (((p4.toUInt32 >>> ((8 : Int32) &&& 31).toUInt32).toInt32).toInt8.toInt32)), .val (.ref ln), .unset] [(.int kv), (.ref ln)]))
    refine own_go (fun t_ kt_ => XS.bipush X14g.here hx rfl (hb hby at_116) kt_) ?_
    show own_Go p e below s _ _ _ (T14.setTop (mkF m 118 #[.val (.int p0), .val (.int p1), .val (.int p2), .val (.int p3), .val (.int p4), .val (.int kv), .val (.int wr), .val (.int (((p4.toUInt32 >>> ((8 : Int32) &&& 31).toUInt32).toInt32).toInt8.toInt32)), .val (.ref ln), .unset] [(.int (44 : Int32)), (.int kv), (.ref ln)]))
    obtain ⟨ce15, Ar15, S15, G15⟩ := id V_ln_14
    obtain ⟨T15, h15, X15, e15, W15, st15⟩ := stB X14g hx hZ e14 Ar15 (j := kv) (own_in (i := kq) S15 hkq (by omega)) (g := (mkF m 118 #[.val (.int p0), .val (.int p1), .val (.int p2), .val (.int p3), .val (.int p4), .val (.int kv), .val (.int wr), .val (.int (((p4.toUInt32 >>> ((8 : Int32) &&& 31).toUInt32).toInt32).toInt8.toInt32)), .val (.ref ln), .unset] [(.int (44 : Int32)), (.int kv), (.ref ln)])) rfl rfl (hb hby at_118)
    rw [own_cl (j := kv) (i := kq) hkq] at W15 X15
    refine own_go (fun t_ kt_ => st15 _ kt_) ?_
    have N15 := Fr.snoc X15 N14g gt_ln
    obtain ⟨lo15, X15g, N15g⟩ : ∃ lo, Stand p l e room_1 s m #[(.int p0), (.int p1), (.int p2), (.int p3), (.int p4)] below meth c T15 lo 1 12 ∧ Fr n0 lo := ⟨_, X15, N15⟩
    have ZZ_15 : n0 ≤ h15.size := Nat.le_trans ZZ_14 (Nat.le_of_eq W15.size.symm)
    have S_HEX_VALUES_15 : Sta Z h15 "com/example/ledgerstrike/ledgerstrike/journal/JournalFormat" "HEX_VALUES" "[B" (.ref hxa) := S_HEX_VALUES_14.wr W15
    have VH_15 : own_Ary Z h15 hxa .byte 256 (fun j => .int (own_hv j)) := VH_14.other W15 ne_hxa_ln
    have V_ln_15 : own_Ary Z h15 ln .byte 12 (own_set (own_set (own_set (own_set (own_set (own_set (own_set (own_set (own_set (own_set (own_set (own_set (own_set (fun _ => (.int (0 : Int32))) 0 (.int (nar .byte (((p4.toUInt32 >>> ((8 : Int32) &&& 31).toUInt32).toInt32).toInt8.toInt32)))) 1 (.int (nar .byte (((p4.toUInt32 >>> ((8 : Int32) &&& 31).toUInt32).toInt32).toInt8.toInt32)))) 2 (.int (nar .byte (((p4.toUInt32 >>> ((8 : Int32) &&& 31).toUInt32).toInt32).toInt8.toInt32)))) 3 (.int (nar .byte (((p4.toUInt32 >>> ((8 : Int32) &&& 31).toUInt32).toInt32).toInt8.toInt32)))) 4 (.int (nar .byte (((p4.toUInt32 >>> ((8 : Int32) &&& 31).toUInt32).toInt32).toInt8.toInt32)))) 5 (.int (nar .byte (((p4.toUInt32 >>> ((8 : Int32) &&& 31).toUInt32).toInt32).toInt8.toInt32)))) 6 (.int (nar .byte (((p4.toUInt32 >>> ((8 : Int32) &&& 31).toUInt32).toInt32).toInt8.toInt32)))) 7 (.int (nar .byte (((p4.toUInt32 >>> ((8 : Int32) &&& 31).toUInt32).toInt32).toInt8.toInt32)))) 8 (.int (nar .byte (((p4.toUInt32 >>> ((8 : Int32) &&& 31).toUInt32).toInt32).toInt8.toInt32)))) 9 (.int (nar .byte (((p4.toUInt32 >>> ((8 : Int32) &&& 31).toUInt32).toInt32).toInt8.toInt32)))) 10 (.int (nar .byte (((p4.toUInt32 >>> ((8 : Int32) &&& 31).toUInt32).toInt32).toInt8.toInt32)))) 11 (.int (nar .byte (((p4.toUInt32 >>> ((8 : Int32) &&& 31).toUInt32).toInt32).toInt8.toInt32)))) kq (.int (nar .byte (44 : Int32)))) := own_Ary.set Ar15 S15 G15 W15
    show own_Go p e below s _ _ _ (T15.setTop (mkF m 119 #[.val (.int p0), .val (.int p1), .val (.int p2), .val (.int p3), .val (.int p4), .val (.int kv), .val (.int wr), .val (.int (((p4.toUInt32 >>> ((8 : Int32) &&& 31).toUInt32).toInt32).toInt8.toInt32)), .val (.ref ln), .unset] []))
    refine own_go (fun t_ kt_ => XS.aload X15g.here hx rfl (hb hby at_119) rfl rfl kt_) ?_
    show own_Go p e below s _ _ _ (T15.setTop (mkF m 121 #[.val (.int p0), .val (.int p1), .val (.int p2), .val (.int p3), .val (.int p4), .val (.int kv), .val (.int wr), .val (.int (((p4.toUInt32 >>> ((8 : Int32) &&& 31).toUInt32).toInt32).toInt8.toInt32)), .val (.ref ln), .unset] [(.ref ln)]))
    refine own_go (fun t_ kt_ => XS.iload X15g.here hx rfl (hb hby at_121) rfl kt_) ?_
    show own_Go p e below s _ _ _ (T15.setTop (mkF m 123 #[.val (.int p0), .val (.int p1), .val (.int p2), .val (.int p3), .val (.int p4), .val (.int kv), .val (.int wr), .val (.int (((p4.toUInt32 >>> ((8 : Int32) &&& 31).toUInt32).toInt32).toInt8.toInt32)), .val (.ref ln), .unset] [(.int kv), (.ref ln)]))
    refine own_go (fun t_ kt_ => XS.iconst X15g.here hx rfl (hb hby at_123) kt_) ?_
    show own_Go p e below s _ _ _ (T15.setTop (mkF m 124 #[.val (.int p0), .val (.int p1), .val (.int p2), .val (.int p3), .val (.int p4), .val (.int kv), .val (.int wr), .val (.int (((p4.toUInt32 >>> ((8 : Int32) &&& 31).toUInt32).toInt32).toInt8.toInt32)), .val (.ref ln), .unset] [(.int (1 : Int32)), (.int kv), (.ref ln)]))
    refine own_go (fun t_ kt_ => XS.iadd X15g.here hx rfl (hb hby at_124) rfl kt_) ?_
    show own_Go p e below s _ _ _ (T15.setTop (mkF m 125 #[.val (.int p0), .val (.int p1), .val (.int p2), .val (.int p3), .val (.int p4), .val (.int kv), .val (.int wr), .val (.int (((p4.toUInt32 >>> ((8 : Int32) &&& 31).toUInt32).toInt32).toInt8.toInt32)), .val (.ref ln), .unset] [(.int (kv + (1 : Int32))), (.ref ln)]))
    refine own_go (fun t_ kt_ => XS.iload X15g.here hx rfl (hb hby at_125) rfl kt_) ?_
    show own_Go p e below s _ _ _ (T15.setTop (mkF m 127 #[.val (.int p0), .val (.int p1), .val (.int p2), .val (.int p3), .val (.int p4), .val (.int kv), .val (.int wr), .val (.int (((p4.toUInt32 >>> ((8 : Int32) &&& 31).toUInt32).toInt32).toInt8.toInt32)), .val (.ref ln), .unset] [(.int wr), (.int (kv + (1 : Int32))), (.ref ln)]))
    refine own_go (fun t_ kt_ => XS.bipush X15g.here hx rfl (hb hby at_127) kt_) ?_
    show own_Go p e below s _ _ _ (T15.setTop (mkF m 129 #[.val (.int p0), .val (.int p1), .val (.int p2), .val (.int p3), .val (.int p4), .val (.int kv), .val (.int wr), .val (.int (((p4.toUInt32 >>> ((8 : Int32) &&& 31).toUInt32).toInt32).toInt8.toInt32)), .val (.ref ln), .unset] [(.int (28 : Int32)), (.int wr), (.int (kv + (1 : Int32))), (.ref ln)]))
    refine own_go (fun t_ kt_ => XS.iushr X15g.here hx rfl (hb hby at_129) rfl kt_) ?_
    show own_Go p e below s _ _ _ (T15.setTop (mkF m 130 #[.val (.int p0), .val (.int p1), .val (.int p2), .val (.int p3), .val (.int p4), .val (.int kv), .val (.int wr), .val (.int (((p4.toUInt32 >>> ((8 : Int32) &&& 31).toUInt32).toInt32).toInt8.toInt32)), .val (.ref ln), .unset] [(.int ((wr.toUInt32 >>> ((28 : Int32) &&& 31).toUInt32).toInt32)), (.int (kv + (1 : Int32))), (.ref ln)]))
    refine own_go (fun t_ kt_ => XS.bipush X15g.here hx rfl (hb hby at_130) kt_) ?_
    show own_Go p e below s _ _ _ (T15.setTop (mkF m 132 #[.val (.int p0), .val (.int p1), .val (.int p2), .val (.int p3), .val (.int p4), .val (.int kv), .val (.int wr), .val (.int (((p4.toUInt32 >>> ((8 : Int32) &&& 31).toUInt32).toInt32).toInt8.toInt32)), .val (.ref ln), .unset] [(.int (15 : Int32)), (.int ((wr.toUInt32 >>> ((28 : Int32) &&& 31).toUInt32).toInt32)), (.int (kv + (1 : Int32))), (.ref ln)]))
    refine own_go (fun t_ kt_ => XS.iand X15g.here hx rfl (hb hby at_132) rfl kt_) ?_
    show own_Go p e below s _ _ _ (T15.setTop (mkF m 133 #[.val (.int p0), .val (.int p1), .val (.int p2), .val (.int p3), .val (.int p4), .val (.int kv), .val (.int wr), .val (.int (((p4.toUInt32 >>> ((8 : Int32) &&& 31).toUInt32).toInt32).toInt8.toInt32)), .val (.ref ln), .unset] [(.int (((wr.toUInt32 >>> ((28 : Int32) &&& 31).toUInt32).toInt32) &&& (15 : Int32))), (.int (kv + (1 : Int32))), (.ref ln)]))
    obtain ⟨_, _, ⟨T16, L16, k16, n16⟩, -, X16, ⟨Lc16, hQ16, l16, y16, z16⟩, st16⟩ := Jvm.LawKit.callS X15g hx (y := (⟨"com/example/ledgerstrike/ledgerstrike/journal/JournalFormatSealedWithPinLaw", "hex", "(I)B"⟩ : MethodName)) hown (mvT hZ (hw _ (List.mem_of_getElem? (i := 1) rfl))) (mvT hZ (hw _ (List.mem_of_getElem? (i := 2) rfl))) (mvT hZ (hw _ (List.mem_of_getElem? (i := 3) rfl))) (mvT hZ (hw _ (List.mem_of_getElem? (i := 4) rfl))) (by decide) (backOf (W := 2) (rm1 l Z a0 hw [] ((((wr.toUInt32 >>> ((28 : Int32) &&& 31).toUInt32).toInt32) &&& (15 : Int32))) h15 n0 ZZ_15 ) hZ (hw _ (List.mem_of_getElem? (i := 4) rfl)) (hw _ (List.mem_of_getElem? (i := 3) rfl)) (by decide) (by decide)) (g := (mkF m 133 #[.val (.int p0), .val (.int p1), .val (.int p2), .val (.int p3), .val (.int p4), .val (.int kv), .val (.int wr), .val (.int (((p4.toUInt32 >>> ((8 : Int32) &&& 31).toUInt32).toInt32).toInt8.toInt32)), .val (.ref ln), .unset] [(.int (((wr.toUInt32 >>> ((28 : Int32) &&& 31).toUInt32).toInt32) &&& (15 : Int32))), (.int (kv + (1 : Int32))), (.ref ln)])) rfl (by rw [hml]; rfl) (argsL := [(.int (((wr.toUInt32 >>> ((28 : Int32) &&& 31).toUInt32).toInt32) &&& (15 : Int32)))]) (rest := [(.int (kv + (1 : Int32))), (.ref ln)]) (lenOf pd_0 rfl) rfl (by show 2 * 0 + _ ≤ _; exact Nat.le_of_eq rfl) (hb hby at_133) (fun _ _ => ⟨rfl, e15, (by decide : 1 + 0 ≤ _), (by decide : 12 + 0 ≤ _)⟩)
    dsimp only [Pt.U, Pt.locs, Pt.cells, Pt.slots] at X16 l16 y16 z16 st16 hQ16
    subst l16 y16 z16
    obtain ⟨rfl, Nq16, eh16⟩ := hQ16
    have N16 := Fr.app N15g Nq16
    refine own_go (fun t_ kt_ => st16 _ kt_) ?_
    obtain ⟨lo16, X16g, N16g⟩ : ∃ lo, Stand p l e room_1 s m #[(.int p0), (.int p1), (.int p2), (.int p3), (.int p4)] below meth c T16 lo 1 12 ∧ Fr n0 lo := ⟨_, X16, N16⟩
    have e16 : T16.heap = h15 := eh16
    show own_Go p e below s _ _ _ (T16.setTop (mkF m 136 #[.val (.int p0), .val (.int p1), .val (.int p2), .val (.int p3), .val (.int p4), .val (.int kv), .val (.int wr), .val (.int (((p4.toUInt32 >>> ((8 : Int32) &&& 31).toUInt32).toInt32).toInt8.toInt32)), .val (.ref ln), .unset] [(.int (own_hex (((wr.toUInt32 >>> ((28 : Int32) &&& 31).toUInt32).toInt32) &&& (15 : Int32)))), (.int (kv + (1 : Int32))), (.ref ln)]))
    obtain ⟨ce17, Ar17, S17, G17⟩ := id V_ln_15
    obtain ⟨T17, h17, X17, e17, W17, st17⟩ := stB X16g hx hZ e16 Ar17 (j := (kv + (1 : Int32))) (own_in (i := (kq + 1)) S17 (own_plus hkq (show (1 : Int32).toInt = ((1 : Nat) : Int) from by decide) (by omega)) (by omega)) (g := (mkF m 136 #[.val (.int p0), .val (.int p1), .val (.int p2), .val (.int p3), .val (.int p4), .val (.int kv), .val (.int wr), .val (.int (((p4.toUInt32 >>> ((8 : Int32) &&& 31).toUInt32).toInt32).toInt8.toInt32)), .val (.ref ln), .unset] [(.int (own_hex (((wr.toUInt32 >>> ((28 : Int32) &&& 31).toUInt32).toInt32) &&& (15 : Int32)))), (.int (kv + (1 : Int32))), (.ref ln)])) rfl rfl (hb hby at_136)
    rw [own_cl (j := (kv + (1 : Int32))) (i := (kq + 1)) (own_plus hkq (show (1 : Int32).toInt = ((1 : Nat) : Int) from by decide) (by omega))] at W17 X17
    refine own_go (fun t_ kt_ => st17 _ kt_) ?_
    have N17 := Fr.snoc X17 N16g gt_ln
    obtain ⟨lo17, X17g, N17g⟩ : ∃ lo, Stand p l e room_1 s m #[(.int p0), (.int p1), (.int p2), (.int p3), (.int p4)] below meth c T17 lo 1 12 ∧ Fr n0 lo := ⟨_, X17, N17⟩
    have ZZ_17 : n0 ≤ h17.size := Nat.le_trans ZZ_15 (Nat.le_of_eq W17.size.symm)
    have S_HEX_VALUES_17 : Sta Z h17 "com/example/ledgerstrike/ledgerstrike/journal/JournalFormat" "HEX_VALUES" "[B" (.ref hxa) := S_HEX_VALUES_15.wr W17
    have VH_17 : own_Ary Z h17 hxa .byte 256 (fun j => .int (own_hv j)) := VH_15.other W17 ne_hxa_ln
    have V_ln_17 : own_Ary Z h17 ln .byte 12 (own_set (own_set (own_set (own_set (own_set (own_set (own_set (own_set (own_set (own_set (own_set (own_set (own_set (own_set (fun _ => (.int (0 : Int32))) 0 (.int (nar .byte (((p4.toUInt32 >>> ((8 : Int32) &&& 31).toUInt32).toInt32).toInt8.toInt32)))) 1 (.int (nar .byte (((p4.toUInt32 >>> ((8 : Int32) &&& 31).toUInt32).toInt32).toInt8.toInt32)))) 2 (.int (nar .byte (((p4.toUInt32 >>> ((8 : Int32) &&& 31).toUInt32).toInt32).toInt8.toInt32)))) 3 (.int (nar .byte (((p4.toUInt32 >>> ((8 : Int32) &&& 31).toUInt32).toInt32).toInt8.toInt32)))) 4 (.int (nar .byte (((p4.toUInt32 >>> ((8 : Int32) &&& 31).toUInt32).toInt32).toInt8.toInt32)))) 5 (.int (nar .byte (((p4.toUInt32 >>> ((8 : Int32) &&& 31).toUInt32).toInt32).toInt8.toInt32)))) 6 (.int (nar .byte (((p4.toUInt32 >>> ((8 : Int32) &&& 31).toUInt32).toInt32).toInt8.toInt32)))) 7 (.int (nar .byte (((p4.toUInt32 >>> ((8 : Int32) &&& 31).toUInt32).toInt32).toInt8.toInt32)))) 8 (.int (nar .byte (((p4.toUInt32 >>> ((8 : Int32) &&& 31).toUInt32).toInt32).toInt8.toInt32)))) 9 (.int (nar .byte (((p4.toUInt32 >>> ((8 : Int32) &&& 31).toUInt32).toInt32).toInt8.toInt32)))) 10 (.int (nar .byte (((p4.toUInt32 >>> ((8 : Int32) &&& 31).toUInt32).toInt32).toInt8.toInt32)))) 11 (.int (nar .byte (((p4.toUInt32 >>> ((8 : Int32) &&& 31).toUInt32).toInt32).toInt8.toInt32)))) kq (.int (nar .byte (44 : Int32)))) (kq + 1) (.int (nar .byte (own_hex (((wr.toUInt32 >>> ((28 : Int32) &&& 31).toUInt32).toInt32) &&& (15 : Int32)))))) := own_Ary.set Ar17 S17 G17 W17
    show own_Go p e below s _ _ _ (T17.setTop (mkF m 137 #[.val (.int p0), .val (.int p1), .val (.int p2), .val (.int p3), .val (.int p4), .val (.int kv), .val (.int wr), .val (.int (((p4.toUInt32 >>> ((8 : Int32) &&& 31).toUInt32).toInt32).toInt8.toInt32)), .val (.ref ln), .unset] []))
    refine own_go (fun t_ kt_ => XS.aload X17g.here hx rfl (hb hby at_137) rfl rfl kt_) ?_
    show own_Go p e below s _ _ _ (T17.setTop (mkF m 139 #[.val (.int p0), .val (.int p1), .val (.int p2), .val (.int p3), .val (.int p4), .val (.int kv), .val (.int wr), .val (.int (((p4.toUInt32 >>> ((8 : Int32) &&& 31).toUInt32).toInt32).toInt8.toInt32)), .val (.ref ln), .unset] [(.ref ln)]))
    refine own_go (fun t_ kt_ => XS.iload X17g.here hx rfl (hb hby at_139) rfl kt_) ?_
    show own_Go p e below s _ _ _ (T17.setTop (mkF m 141 #[.val (.int p0), .val (.int p1), .val (.int p2), .val (.int p3), .val (.int p4), .val (.int kv), .val (.int wr), .val (.int (((p4.toUInt32 >>> ((8 : Int32) &&& 31).toUInt32).toInt32).toInt8.toInt32)), .val (.ref ln), .unset] [(.int kv), (.ref ln)]))
    refine own_go (fun t_ kt_ => XS.iconst X17g.here hx rfl (hb hby at_141) kt_) ?_
    show own_Go p e below s _ _ _ (T17.setTop (mkF m 142 #[.val (.int p0), .val (.int p1), .val (.int p2), .val (.int p3), .val (.int p4), .val (.int kv), .val (.int wr), .val (.int (((p4.toUInt32 >>> ((8 : Int32) &&& 31).toUInt32).toInt32).toInt8.toInt32)), .val (.ref ln), .unset] [(.int (2 : Int32)), (.int kv), (.ref ln)]))
    refine own_go (fun t_ kt_ => XS.iadd X17g.here hx rfl (hb hby at_142) rfl kt_) ?_
    show own_Go p e below s _ _ _ (T17.setTop (mkF m 143 #[.val (.int p0), .val (.int p1), .val (.int p2), .val (.int p3), .val (.int p4), .val (.int kv), .val (.int wr), .val (.int (((p4.toUInt32 >>> ((8 : Int32) &&& 31).toUInt32).toInt32).toInt8.toInt32)), .val (.ref ln), .unset] [(.int (kv + (2 : Int32))), (.ref ln)]))
    refine own_go (fun t_ kt_ => XS.iload X17g.here hx rfl (hb hby at_143) rfl kt_) ?_
    show own_Go p e below s _ _ _ (T17.setTop (mkF m 145 #[.val (.int p0), .val (.int p1), .val (.int p2), .val (.int p3), .val (.int p4), .val (.int kv), .val (.int wr), .val (.int (((p4.toUInt32 >>> ((8 : Int32) &&& 31).toUInt32).toInt32).toInt8.toInt32)), .val (.ref ln), .unset] [(.int wr), (.int (kv + (2 : Int32))), (.ref ln)]))
    refine own_go (fun t_ kt_ => XS.bipush X17g.here hx rfl (hb hby at_145) kt_) ?_
    show own_Go p e below s _ _ _ (T17.setTop (mkF m 147 #[.val (.int p0), .val (.int p1), .val (.int p2), .val (.int p3), .val (.int p4), .val (.int kv), .val (.int wr), .val (.int (((p4.toUInt32 >>> ((8 : Int32) &&& 31).toUInt32).toInt32).toInt8.toInt32)), .val (.ref ln), .unset] [(.int (24 : Int32)), (.int wr), (.int (kv + (2 : Int32))), (.ref ln)]))
    refine own_go (fun t_ kt_ => XS.iushr X17g.here hx rfl (hb hby at_147) rfl kt_) ?_
    show own_Go p e below s _ _ _ (T17.setTop (mkF m 148 #[.val (.int p0), .val (.int p1), .val (.int p2), .val (.int p3), .val (.int p4), .val (.int kv), .val (.int wr), .val (.int (((p4.toUInt32 >>> ((8 : Int32) &&& 31).toUInt32).toInt32).toInt8.toInt32)), .val (.ref ln), .unset] [(.int ((wr.toUInt32 >>> ((24 : Int32) &&& 31).toUInt32).toInt32)), (.int (kv + (2 : Int32))), (.ref ln)]))
    refine own_go (fun t_ kt_ => XS.bipush X17g.here hx rfl (hb hby at_148) kt_) ?_
    show own_Go p e below s _ _ _ (T17.setTop (mkF m 150 #[.val (.int p0), .val (.int p1), .val (.int p2), .val (.int p3), .val (.int p4), .val (.int kv), .val (.int wr), .val (.int (((p4.toUInt32 >>> ((8 : Int32) &&& 31).toUInt32).toInt32).toInt8.toInt32)), .val (.ref ln), .unset] [(.int (15 : Int32)), (.int ((wr.toUInt32 >>> ((24 : Int32) &&& 31).toUInt32).toInt32)), (.int (kv + (2 : Int32))), (.ref ln)]))
    refine own_go (fun t_ kt_ => XS.iand X17g.here hx rfl (hb hby at_150) rfl kt_) ?_
    show own_Go p e below s _ _ _ (T17.setTop (mkF m 151 #[.val (.int p0), .val (.int p1), .val (.int p2), .val (.int p3), .val (.int p4), .val (.int kv), .val (.int wr), .val (.int (((p4.toUInt32 >>> ((8 : Int32) &&& 31).toUInt32).toInt32).toInt8.toInt32)), .val (.ref ln), .unset] [(.int (((wr.toUInt32 >>> ((24 : Int32) &&& 31).toUInt32).toInt32) &&& (15 : Int32))), (.int (kv + (2 : Int32))), (.ref ln)]))
    obtain ⟨_, _, ⟨T18, L18, k18, n18⟩, -, X18, ⟨Lc18, hQ18, l18, y18, z18⟩, st18⟩ := Jvm.LawKit.callS X17g hx (y := (⟨"com/example/ledgerstrike/ledgerstrike/journal/JournalFormatSealedWithPinLaw", "hex", "(I)B"⟩ : MethodName)) hown (mvT hZ (hw _ (List.mem_of_getElem? (i := 1) rfl))) (mvT hZ (hw _ (List.mem_of_getElem? (i := 2) rfl))) (mvT hZ (hw _ (List.mem_of_getElem? (i := 3) rfl))) (mvT hZ (hw _ (List.mem_of_getElem? (i := 4) rfl))) (by decide) (backOf (W := 2) (rm1 l Z a0 hw [] ((((wr.toUInt32 >>> ((24 : Int32) &&& 31).toUInt32).toInt32) &&& (15 : Int32))) h17 n0 ZZ_17 ) hZ (hw _ (List.mem_of_getElem? (i := 4) rfl)) (hw _ (List.mem_of_getElem? (i := 3) rfl)) (by decide) (by decide)) (g := (mkF m 151 #[.val (.int p0), .val (.int p1), .val (.int p2), .val (.int p3), .val (.int p4), .val (.int kv), .val (.int wr), .val (.int (((p4.toUInt32 >>> ((8 : Int32) &&& 31).toUInt32).toInt32).toInt8.toInt32)), .val (.ref ln), .unset] [(.int (((wr.toUInt32 >>> ((24 : Int32) &&& 31).toUInt32).toInt32) &&& (15 : Int32))), (.int (kv + (2 : Int32))), (.ref ln)])) rfl (by rw [hml]; rfl) (argsL := [(.int (((wr.toUInt32 >>> ((24 : Int32) &&& 31).toUInt32).toInt32) &&& (15 : Int32)))]) (rest := [(.int (kv + (2 : Int32))), (.ref ln)]) (lenOf pd_0 rfl) rfl (by show 2 * 0 + _ ≤ _; exact Nat.le_of_eq rfl) (hb hby at_151) (fun _ _ => ⟨rfl, e17, (by decide : 1 + 0 ≤ _), (by decide : 12 + 0 ≤ _)⟩)
    dsimp only [Pt.U, Pt.locs, Pt.cells, Pt.slots] at X18 l18 y18 z18 st18 hQ18
    subst l18 y18 z18
    obtain ⟨rfl, Nq18, eh18⟩ := hQ18
    have N18 := Fr.app N17g Nq18
    refine own_go (fun t_ kt_ => st18 _ kt_) ?_
    obtain ⟨lo18, X18g, N18g⟩ : ∃ lo, Stand p l e room_1 s m #[(.int p0), (.int p1), (.int p2), (.int p3), (.int p4)] below meth c T18 lo 1 12 ∧ Fr n0 lo := ⟨_, X18, N18⟩
    have e18 : T18.heap = h17 := eh18
    show own_Go p e below s _ _ _ (T18.setTop (mkF m 154 #[.val (.int p0), .val (.int p1), .val (.int p2), .val (.int p3), .val (.int p4), .val (.int kv), .val (.int wr), .val (.int (((p4.toUInt32 >>> ((8 : Int32) &&& 31).toUInt32).toInt32).toInt8.toInt32)), .val (.ref ln), .unset] [(.int (own_hex (((wr.toUInt32 >>> ((24 : Int32) &&& 31).toUInt32).toInt32) &&& (15 : Int32)))), (.int (kv + (2 : Int32))), (.ref ln)]))
    obtain ⟨ce19, Ar19, S19, G19⟩ := id V_ln_17
    obtain ⟨T19, h19, X19, e19, W19, st19⟩ := stB X18g hx hZ e18 Ar19 (j := (kv + (2 : Int32))) (own_in (i := (kq + 2)) S19 (own_plus hkq (show (2 : Int32).toInt = ((2 : Nat) : Int) from by decide) (by omega)) (by omega)) (g := (mkF m 154 #[.val (.int p0), .val (.int p1), .val (.int p2), .val (.int p3), .val (.int p4), .val (.int kv), .val (.int wr), .val (.int (((p4.toUInt32 >>> ((8 : Int32) &&& 31).toUInt32).toInt32).toInt8.toInt32)), .val (.ref ln), .unset] [(.int (own_hex (((wr.toUInt32 >>> ((24 : Int32) &&& 31).toUInt32).toInt32) &&& (15 : Int32)))), (.int (kv + (2 : Int32))), (.ref ln)])) rfl rfl (hb hby at_154)
    rw [own_cl (j := (kv + (2 : Int32))) (i := (kq + 2)) (own_plus hkq (show (2 : Int32).toInt = ((2 : Nat) : Int) from by decide) (by omega))] at W19 X19
    refine own_go (fun t_ kt_ => st19 _ kt_) ?_
    have N19 := Fr.snoc X19 N18g gt_ln
    obtain ⟨lo19, X19g, N19g⟩ : ∃ lo, Stand p l e room_1 s m #[(.int p0), (.int p1), (.int p2), (.int p3), (.int p4)] below meth c T19 lo 1 12 ∧ Fr n0 lo := ⟨_, X19, N19⟩
    have ZZ_19 : n0 ≤ h19.size := Nat.le_trans ZZ_17 (Nat.le_of_eq W19.size.symm)
    have S_HEX_VALUES_19 : Sta Z h19 "com/example/ledgerstrike/ledgerstrike/journal/JournalFormat" "HEX_VALUES" "[B" (.ref hxa) := S_HEX_VALUES_17.wr W19
    have VH_19 : own_Ary Z h19 hxa .byte 256 (fun j => .int (own_hv j)) := VH_17.other W19 ne_hxa_ln
    have V_ln_19 : own_Ary Z h19 ln .byte 12 (own_set (own_set (own_set (own_set (own_set (own_set (own_set (own_set (own_set (own_set (own_set (own_set (own_set (own_set (own_set (fun _ => (.int (0 : Int32))) 0 (.int (nar .byte (((p4.toUInt32 >>> ((8 : Int32) &&& 31).toUInt32).toInt32).toInt8.toInt32)))) 1 (.int (nar .byte (((p4.toUInt32 >>> ((8 : Int32) &&& 31).toUInt32).toInt32).toInt8.toInt32)))) 2 (.int (nar .byte (((p4.toUInt32 >>> ((8 : Int32) &&& 31).toUInt32).toInt32).toInt8.toInt32)))) 3 (.int (nar .byte (((p4.toUInt32 >>> ((8 : Int32) &&& 31).toUInt32).toInt32).toInt8.toInt32)))) 4 (.int (nar .byte (((p4.toUInt32 >>> ((8 : Int32) &&& 31).toUInt32).toInt32).toInt8.toInt32)))) 5 (.int (nar .byte (((p4.toUInt32 >>> ((8 : Int32) &&& 31).toUInt32).toInt32).toInt8.toInt32)))) 6 (.int (nar .byte (((p4.toUInt32 >>> ((8 : Int32) &&& 31).toUInt32).toInt32).toInt8.toInt32)))) 7 (.int (nar .byte (((p4.toUInt32 >>> ((8 : Int32) &&& 31).toUInt32).toInt32).toInt8.toInt32)))) 8 (.int (nar .byte (((p4.toUInt32 >>> ((8 : Int32) &&& 31).toUInt32).toInt32).toInt8.toInt32)))) 9 (.int (nar .byte (((p4.toUInt32 >>> ((8 : Int32) &&& 31).toUInt32).toInt32).toInt8.toInt32)))) 10 (.int (nar .byte (((p4.toUInt32 >>> ((8 : Int32) &&& 31).toUInt32).toInt32).toInt8.toInt32)))) 11 (.int (nar .byte (((p4.toUInt32 >>> ((8 : Int32) &&& 31).toUInt32).toInt32).toInt8.toInt32)))) kq (.int (nar .byte (44 : Int32)))) (kq + 1) (.int (nar .byte (own_hex (((wr.toUInt32 >>> ((28 : Int32) &&& 31).toUInt32).toInt32) &&& (15 : Int32)))))) (kq + 2) (.int (nar .byte (own_hex (((wr.toUInt32 >>> ((24 : Int32) &&& 31).toUInt32).toInt32) &&& (15 : Int32)))))) := own_Ary.set Ar19 S19 G19 W19
    show own_Go p e below s _ _ _ (T19.setTop (mkF m 155 #[.val (.int p0), .val (.int p1), .val (.int p2), .val (.int p3), .val (.int p4), .val (.int kv), .val (.int wr), .val (.int (((p4.toUInt32 >>> ((8 : Int32) &&& 31).toUInt32).toInt32).toInt8.toInt32)), .val (.ref ln), .unset] []))
    refine own_go (fun t_ kt_ => XS.aload X19g.here hx rfl (hb hby at_155) rfl rfl kt_) ?_
    show own_Go p e below s _ _ _ (T19.setTop (mkF m 157 #[.val (.int p0), .val (.int p1), .val (.int p2), .val (.int p3), .val (.int p4), .val (.int kv), .val (.int wr), .val (.int (((p4.toUInt32 >>> ((8 : Int32) &&& 31).toUInt32).toInt32).toInt8.toInt32)), .val (.ref ln), .unset] [(.ref ln)]))
    refine own_go (fun t_ kt_ => XS.iload X19g.here hx rfl (hb hby at_157) rfl kt_) ?_
    show own_Go p e below s _ _ _ (T19.setTop (mkF m 159 #[.val (.int p0), .val (.int p1), .val (.int p2), .val (.int p3), .val (.int p4), .val (.int kv), .val (.int wr), .val (.int (((p4.toUInt32 >>> ((8 : Int32) &&& 31).toUInt32).toInt32).toInt8.toInt32)), .val (.ref ln), .unset] [(.int kv), (.ref ln)]))
    refine own_go (fun t_ kt_ => XS.iconst X19g.here hx rfl (hb hby at_159) kt_) ?_
    show own_Go p e below s _ _ _ (T19.setTop (mkF m 160 #[.val (.int p0), .val (.int p1), .val (.int p2), .val (.int p3), .val (.int p4), .val (.int kv), .val (.int wr), .val (.int (((p4.toUInt32 >>> ((8 : Int32) &&& 31).toUInt32).toInt32).toInt8.toInt32)), .val (.ref ln), .unset] [(.int (3 : Int32)), (.int kv), (.ref ln)]))
    refine own_go (fun t_ kt_ => XS.iadd X19g.here hx rfl (hb hby at_160) rfl kt_) ?_
    show own_Go p e below s _ _ _ (T19.setTop (mkF m 161 #[.val (.int p0), .val (.int p1), .val (.int p2), .val (.int p3), .val (.int p4), .val (.int kv), .val (.int wr), .val (.int (((p4.toUInt32 >>> ((8 : Int32) &&& 31).toUInt32).toInt32).toInt8.toInt32)), .val (.ref ln), .unset] [(.int (kv + (3 : Int32))), (.ref ln)]))
    refine own_go (fun t_ kt_ => XS.iload X19g.here hx rfl (hb hby at_161) rfl kt_) ?_
    show own_Go p e below s _ _ _ (T19.setTop (mkF m 163 #[.val (.int p0), .val (.int p1), .val (.int p2), .val (.int p3), .val (.int p4), .val (.int kv), .val (.int wr), .val (.int (((p4.toUInt32 >>> ((8 : Int32) &&& 31).toUInt32).toInt32).toInt8.toInt32)), .val (.ref ln), .unset] [(.int wr), (.int (kv + (3 : Int32))), (.ref ln)]))
    refine own_go (fun t_ kt_ => XS.bipush X19g.here hx rfl (hb hby at_163) kt_) ?_
    show own_Go p e below s _ _ _ (T19.setTop (mkF m 165 #[.val (.int p0), .val (.int p1), .val (.int p2), .val (.int p3), .val (.int p4), .val (.int kv), .val (.int wr), .val (.int (((p4.toUInt32 >>> ((8 : Int32) &&& 31).toUInt32).toInt32).toInt8.toInt32)), .val (.ref ln), .unset] [(.int (20 : Int32)), (.int wr), (.int (kv + (3 : Int32))), (.ref ln)]))
    refine own_go (fun t_ kt_ => XS.iushr X19g.here hx rfl (hb hby at_165) rfl kt_) ?_
    show own_Go p e below s _ _ _ (T19.setTop (mkF m 166 #[.val (.int p0), .val (.int p1), .val (.int p2), .val (.int p3), .val (.int p4), .val (.int kv), .val (.int wr), .val (.int (((p4.toUInt32 >>> ((8 : Int32) &&& 31).toUInt32).toInt32).toInt8.toInt32)), .val (.ref ln), .unset] [(.int ((wr.toUInt32 >>> ((20 : Int32) &&& 31).toUInt32).toInt32)), (.int (kv + (3 : Int32))), (.ref ln)]))
    refine own_go (fun t_ kt_ => XS.bipush X19g.here hx rfl (hb hby at_166) kt_) ?_
    show own_Go p e below s _ _ _ (T19.setTop (mkF m 168 #[.val (.int p0), .val (.int p1), .val (.int p2), .val (.int p3), .val (.int p4), .val (.int kv), .val (.int wr), .val (.int (((p4.toUInt32 >>> ((8 : Int32) &&& 31).toUInt32).toInt32).toInt8.toInt32)), .val (.ref ln), .unset] [(.int (15 : Int32)), (.int ((wr.toUInt32 >>> ((20 : Int32) &&& 31).toUInt32).toInt32)), (.int (kv + (3 : Int32))), (.ref ln)]))
    refine own_go (fun t_ kt_ => XS.iand X19g.here hx rfl (hb hby at_168) rfl kt_) ?_
    show own_Go p e below s _ _ _ (T19.setTop (mkF m 169 #[.val (.int p0), .val (.int p1), .val (.int p2), .val (.int p3), .val (.int p4), .val (.int kv), .val (.int wr), .val (.int (((p4.toUInt32 >>> ((8 : Int32) &&& 31).toUInt32).toInt32).toInt8.toInt32)), .val (.ref ln), .unset] [(.int (((wr.toUInt32 >>> ((20 : Int32) &&& 31).toUInt32).toInt32) &&& (15 : Int32))), (.int (kv + (3 : Int32))), (.ref ln)]))
    obtain ⟨_, _, ⟨T20, L20, k20, n20⟩, -, X20, ⟨Lc20, hQ20, l20, y20, z20⟩, st20⟩ := Jvm.LawKit.callS X19g hx (y := (⟨"com/example/ledgerstrike/ledgerstrike/journal/JournalFormatSealedWithPinLaw", "hex", "(I)B"⟩ : MethodName)) hown (mvT hZ (hw _ (List.mem_of_getElem? (i := 1) rfl))) (mvT hZ (hw _ (List.mem_of_getElem? (i := 2) rfl))) (mvT hZ (hw _ (List.mem_of_getElem? (i := 3) rfl))) (mvT hZ (hw _ (List.mem_of_getElem? (i := 4) rfl))) (by decide) (backOf (W := 2) (rm1 l Z a0 hw [] ((((wr.toUInt32 >>> ((20 : Int32) &&& 31).toUInt32).toInt32) &&& (15 : Int32))) h19 n0 ZZ_19 ) hZ (hw _ (List.mem_of_getElem? (i := 4) rfl)) (hw _ (List.mem_of_getElem? (i := 3) rfl)) (by decide) (by decide)) (g := (mkF m 169 #[.val (.int p0), .val (.int p1), .val (.int p2), .val (.int p3), .val (.int p4), .val (.int kv), .val (.int wr), .val (.int (((p4.toUInt32 >>> ((8 : Int32) &&& 31).toUInt32).toInt32).toInt8.toInt32)), .val (.ref ln), .unset] [(.int (((wr.toUInt32 >>> ((20 : Int32) &&& 31).toUInt32).toInt32) &&& (15 : Int32))), (.int (kv + (3 : Int32))), (.ref ln)])) rfl (by rw [hml]; rfl) (argsL := [(.int (((wr.toUInt32 >>> ((20 : Int32) &&& 31).toUInt32).toInt32) &&& (15 : Int32)))]) (rest := [(.int (kv + (3 : Int32))), (.ref ln)]) (lenOf pd_0 rfl) rfl (by show 2 * 0 + _ ≤ _; exact Nat.le_of_eq rfl) (hb hby at_169) (fun _ _ => ⟨rfl, e19, (by decide : 1 + 0 ≤ _), (by decide : 12 + 0 ≤ _)⟩)
    dsimp only [Pt.U, Pt.locs, Pt.cells, Pt.slots] at X20 l20 y20 z20 st20 hQ20
    subst l20 y20 z20
    obtain ⟨rfl, Nq20, eh20⟩ := hQ20
    have N20 := Fr.app N19g Nq20
    refine own_go (fun t_ kt_ => st20 _ kt_) ?_
    obtain ⟨lo20, X20g, N20g⟩ : ∃ lo, Stand p l e room_1 s m #[(.int p0), (.int p1), (.int p2), (.int p3), (.int p4)] below meth c T20 lo 1 12 ∧ Fr n0 lo := ⟨_, X20, N20⟩
    have e20 : T20.heap = h19 := eh20
    show own_Go p e below s _ _ _ (T20.setTop (mkF m 172 #[.val (.int p0), .val (.int p1), .val (.int p2), .val (.int p3), .val (.int p4), .val (.int kv), .val (.int wr), .val (.int (((p4.toUInt32 >>> ((8 : Int32) &&& 31).toUInt32).toInt32).toInt8.toInt32)), .val (.ref ln), .unset] [(.int (own_hex (((wr.toUInt32 >>> ((20 : Int32) &&& 31).toUInt32).toInt32) &&& (15 : Int32)))), (.int (kv + (3 : Int32))), (.ref ln)]))
    obtain ⟨ce21, Ar21, S21, G21⟩ := id V_ln_19
    obtain ⟨T21, h21, X21, e21, W21, st21⟩ := stB X20g hx hZ e20 Ar21 (j := (kv + (3 : Int32))) (own_in (i := (kq + 3)) S21 (own_plus hkq (show (3 : Int32).toInt = ((3 : Nat) : Int) from by decide) (by omega)) (by omega)) (g := (mkF m 172 #[.val (.int p0), .val (.int p1), .val (.int p2), .val (.int p3), .val (.int p4), .val (.int kv), .val (.int wr), .val (.int (((p4.toUInt32 >>> ((8 : Int32) &&& 31).toUInt32).toInt32).toInt8.toInt32)), .val (.ref ln), .unset] [(.int (own_hex (((wr.toUInt32 >>> ((20 : Int32) &&& 31).toUInt32).toInt32) &&& (15 : Int32)))), (.int (kv + (3 : Int32))), (.ref ln)])) rfl rfl (hb hby at_172)
    rw [own_cl (j := (kv + (3 : Int32))) (i := (kq + 3)) (own_plus hkq (show (3 : Int32).toInt = ((3 : Nat) : Int) from by decide) (by omega))] at W21 X21
    refine own_go (fun t_ kt_ => st21 _ kt_) ?_
    have N21 := Fr.snoc X21 N20g gt_ln
    obtain ⟨lo21, X21g, N21g⟩ : ∃ lo, Stand p l e room_1 s m #[(.int p0), (.int p1), (.int p2), (.int p3), (.int p4)] below meth c T21 lo 1 12 ∧ Fr n0 lo := ⟨_, X21, N21⟩
    have ZZ_21 : n0 ≤ h21.size := Nat.le_trans ZZ_19 (Nat.le_of_eq W21.size.symm)
    have S_HEX_VALUES_21 : Sta Z h21 "com/example/ledgerstrike/ledgerstrike/journal/JournalFormat" "HEX_VALUES" "[B" (.ref hxa) := S_HEX_VALUES_19.wr W21
    have VH_21 : own_Ary Z h21 hxa .byte 256 (fun j => .int (own_hv j)) := VH_19.other W21 ne_hxa_ln
    have V_ln_21 : own_Ary Z h21 ln .byte 12 (own_set (own_set (own_set (own_set (own_set (own_set (own_set (own_set (own_set (own_set (own_set (own_set (own_set (own_set (own_set (own_set (fun _ => (.int (0 : Int32))) 0 (.int (nar .byte (((p4.toUInt32 >>> ((8 : Int32) &&& 31).toUInt32).toInt32).toInt8.toInt32)))) 1 (.int (nar .byte (((p4.toUInt32 >>> ((8 : Int32) &&& 31).toUInt32).toInt32).toInt8.toInt32)))) 2 (.int (nar .byte (((p4.toUInt32 >>> ((8 : Int32) &&& 31).toUInt32).toInt32).toInt8.toInt32)))) 3 (.int (nar .byte (((p4.toUInt32 >>> ((8 : Int32) &&& 31).toUInt32).toInt32).toInt8.toInt32)))) 4 (.int (nar .byte (((p4.toUInt32 >>> ((8 : Int32) &&& 31).toUInt32).toInt32).toInt8.toInt32)))) 5 (.int (nar .byte (((p4.toUInt32 >>> ((8 : Int32) &&& 31).toUInt32).toInt32).toInt8.toInt32)))) 6 (.int (nar .byte (((p4.toUInt32 >>> ((8 : Int32) &&& 31).toUInt32).toInt32).toInt8.toInt32)))) 7 (.int (nar .byte (((p4.toUInt32 >>> ((8 : Int32) &&& 31).toUInt32).toInt32).toInt8.toInt32)))) 8 (.int (nar .byte (((p4.toUInt32 >>> ((8 : Int32) &&& 31).toUInt32).toInt32).toInt8.toInt32)))) 9 (.int (nar .byte (((p4.toUInt32 >>> ((8 : Int32) &&& 31).toUInt32).toInt32).toInt8.toInt32)))) 10 (.int (nar .byte (((p4.toUInt32 >>> ((8 : Int32) &&& 31).toUInt32).toInt32).toInt8.toInt32)))) 11 (.int (nar .byte (((p4.toUInt32 >>> ((8 : Int32) &&& 31).toUInt32).toInt32).toInt8.toInt32)))) kq (.int (nar .byte (44 : Int32)))) (kq + 1) (.int (nar .byte (own_hex (((wr.toUInt32 >>> ((28 : Int32) &&& 31).toUInt32).toInt32) &&& (15 : Int32)))))) (kq + 2) (.int (nar .byte (own_hex (((wr.toUInt32 >>> ((24 : Int32) &&& 31).toUInt32).toInt32) &&& (15 : Int32)))))) (kq + 3) (.int (nar .byte (own_hex (((wr.toUInt32 >>> ((20 : Int32) &&& 31).toUInt32).toInt32) &&& (15 : Int32)))))) := own_Ary.set Ar21 S21 G21 W21
    show own_Go p e below s _ _ _ (T21.setTop (mkF m 173 #[.val (.int p0), .val (.int p1), .val (.int p2), .val (.int p3), .val (.int p4), .val (.int kv), .val (.int wr), .val (.int (((p4.toUInt32 >>> ((8 : Int32) &&& 31).toUInt32).toInt32).toInt8.toInt32)), .val (.ref ln), .unset] []))
    refine own_go (fun t_ kt_ => XS.aload X21g.here hx rfl (hb hby at_173) rfl rfl kt_) ?_
    show own_Go p e below s _ _ _ (T21.setTop (mkF m 175 #[.val (.int p0), .val (.int p1), .val (.int p2), .val (.int p3), .val (.int p4), .val (.int kv), .val (.int wr), .val (.int (((p4.toUInt32 >>> ((8 : Int32) &&& 31).toUInt32).toInt32).toInt8.toInt32)), .val (.ref ln), .unset] [(.ref ln)]))
    refine own_go (fun t_ kt_ => XS.iload X21g.here hx rfl (hb hby at_175) rfl kt_) ?_
    show own_Go p e below s _ _ _ (T21.setTop (mkF m 177 #[.val (.int p0), .val (.int p1), .val (.int p2), .val (.int p3), .val (.int p4), .val (.int kv), .val (.int wr), .val (.int (((p4.toUInt32 >>> ((8 : Int32) &&& 31).toUInt32).toInt32).toInt8.toInt32)), .val (.ref ln), .unset] [(.int kv), (.ref ln)]))
    refine own_go (fun t_ kt_ => XS.iconst X21g.here hx rfl (hb hby at_177) kt_) ?_
    show own_Go p e below s _ _ _ (T21.setTop (mkF m 178 #[.val (.int p0), .val (.int p1), .val (.int p2), .val (.int p3), .val (.int p4), .val (.int kv), .val (.int wr), .val (.int (((p4.toUInt32 >>> ((8 : Int32) &&& 31).toUInt32).toInt32).toInt8.toInt32)), .val (.ref ln), .unset] [(.int (4 : Int32)), (.int kv), (.ref ln)]))
    refine own_go (fun t_ kt_ => XS.iadd X21g.here hx rfl (hb hby at_178) rfl kt_) ?_
    show own_Go p e below s _ _ _ (T21.setTop (mkF m 179 #[.val (.int p0), .val (.int p1), .val (.int p2), .val (.int p3), .val (.int p4), .val (.int kv), .val (.int wr), .val (.int (((p4.toUInt32 >>> ((8 : Int32) &&& 31).toUInt32).toInt32).toInt8.toInt32)), .val (.ref ln), .unset] [(.int (kv + (4 : Int32))), (.ref ln)]))
    refine own_go (fun t_ kt_ => XS.iload X21g.here hx rfl (hb hby at_179) rfl kt_) ?_
    show own_Go p e below s _ _ _ (T21.setTop (mkF m 181 #[.val (.int p0), .val (.int p1), .val (.int p2), .val (.int p3), .val (.int p4), .val (.int kv), .val (.int wr), .val (.int (((p4.toUInt32 >>> ((8 : Int32) &&& 31).toUInt32).toInt32).toInt8.toInt32)), .val (.ref ln), .unset] [(.int wr), (.int (kv + (4 : Int32))), (.ref ln)]))
    refine own_go (fun t_ kt_ => XS.bipush X21g.here hx rfl (hb hby at_181) kt_) ?_
    show own_Go p e below s _ _ _ (T21.setTop (mkF m 183 #[.val (.int p0), .val (.int p1), .val (.int p2), .val (.int p3), .val (.int p4), .val (.int kv), .val (.int wr), .val (.int (((p4.toUInt32 >>> ((8 : Int32) &&& 31).toUInt32).toInt32).toInt8.toInt32)), .val (.ref ln), .unset] [(.int (16 : Int32)), (.int wr), (.int (kv + (4 : Int32))), (.ref ln)]))
    refine own_go (fun t_ kt_ => XS.iushr X21g.here hx rfl (hb hby at_183) rfl kt_) ?_
    show own_Go p e below s _ _ _ (T21.setTop (mkF m 184 #[.val (.int p0), .val (.int p1), .val (.int p2), .val (.int p3), .val (.int p4), .val (.int kv), .val (.int wr), .val (.int (((p4.toUInt32 >>> ((8 : Int32) &&& 31).toUInt32).toInt32).toInt8.toInt32)), .val (.ref ln), .unset] [(.int ((wr.toUInt32 >>> ((16 : Int32) &&& 31).toUInt32).toInt32)), (.int (kv + (4 : Int32))), (.ref ln)]))
    refine own_go (fun t_ kt_ => XS.bipush X21g.here hx rfl (hb hby at_184) kt_) ?_
    show own_Go p e below s _ _ _ (T21.setTop (mkF m 186 #[.val (.int p0), .val (.int p1), .val (.int p2), .val (.int p3), .val (.int p4), .val (.int kv), .val (.int wr), .val (.int (((p4.toUInt32 >>> ((8 : Int32) &&& 31).toUInt32).toInt32).toInt8.toInt32)), .val (.ref ln), .unset] [(.int (15 : Int32)), (.int ((wr.toUInt32 >>> ((16 : Int32) &&& 31).toUInt32).toInt32)), (.int (kv + (4 : Int32))), (.ref ln)]))
    refine own_go (fun t_ kt_ => XS.iand X21g.here hx rfl (hb hby at_186) rfl kt_) ?_
    show own_Go p e below s _ _ _ (T21.setTop (mkF m 187 #[.val (.int p0), .val (.int p1), .val (.int p2), .val (.int p3), .val (.int p4), .val (.int kv), .val (.int wr), .val (.int (((p4.toUInt32 >>> ((8 : Int32) &&& 31).toUInt32).toInt32).toInt8.toInt32)), .val (.ref ln), .unset] [(.int (((wr.toUInt32 >>> ((16 : Int32) &&& 31).toUInt32).toInt32) &&& (15 : Int32))), (.int (kv + (4 : Int32))), (.ref ln)]))
    obtain ⟨_, _, ⟨T22, L22, k22, n22⟩, -, X22, ⟨Lc22, hQ22, l22, y22, z22⟩, st22⟩ := Jvm.LawKit.callS X21g hx (y := (⟨"com/example/ledgerstrike/ledgerstrike/journal/JournalFormatSealedWithPinLaw", "hex", "(I)B"⟩ : MethodName)) hown (mvT hZ (hw _ (List.mem_of_getElem? (i := 1) rfl))) (mvT hZ (hw _ (List.mem_of_getElem? (i := 2) rfl))) (mvT hZ (hw _ (List.mem_of_getElem? (i := 3) rfl))) (mvT hZ (hw _ (List.mem_of_getElem? (i := 4) rfl))) (by decide) (backOf (W := 2) (rm1 l Z a0 hw [] ((((wr.toUInt32 >>> ((16 : Int32) &&& 31).toUInt32).toInt32) &&& (15 : Int32))) h21 n0 ZZ_21 ) hZ (hw _ (List.mem_of_getElem? (i := 4) rfl)) (hw _ (List.mem_of_getElem? (i := 3) rfl)) (by decide) (by decide)) (g := (mkF m 187 #[.val (.int p0), .val (.int p1), .val (.int p2), .val (.int p3), .val (.int p4), .val (.int kv), .val (.int wr), .val (.int (((p4.toUInt32 >>> ((8 : Int32) &&& 31).toUInt32).toInt32).toInt8.toInt32)), .val (.ref ln), .unset] [(.int (((wr.toUInt32 >>> ((16 : Int32) &&& 31).toUInt32).toInt32) &&& (15 : Int32))), (.int (kv + (4 : Int32))), (.ref ln)])) rfl (by rw [hml]; rfl) (argsL := [(.int (((wr.toUInt32 >>> ((16 : Int32) &&& 31).toUInt32).toInt32) &&& (15 : Int32)))]) (rest := [(.int (kv + (4 : Int32))), (.ref ln)]) (lenOf pd_0 rfl) rfl (by show 2 * 0 + _ ≤ _; exact Nat.le_of_eq rfl) (hb hby at_187) (fun _ _ => ⟨rfl, e21, (by decide : 1 + 0 ≤ _), (by decide : 12 + 0 ≤ _)⟩)
    dsimp only [Pt.U, Pt.locs, Pt.cells, Pt.slots] at X22 l22 y22 z22 st22 hQ22
    subst l22 y22 z22
    obtain ⟨rfl, Nq22, eh22⟩ := hQ22
    have N22 := Fr.app N21g Nq22
    refine own_go (fun t_ kt_ => st22 _ kt_) ?_
    obtain ⟨lo22, X22g, N22g⟩ : ∃ lo, Stand p l e room_1 s m #[(.int p0), (.int p1), (.int p2), (.int p3), (.int p4)] below meth c T22 lo 1 12 ∧ Fr n0 lo := ⟨_, X22, N22⟩
    have e22 : T22.heap = h21 := eh22
    show own_Go p e below s _ _ _ (T22.setTop (mkF m 190 #[.val (.int p0), .val (.int p1), .val (.int p2), .val (.int p3), .val (.int p4), .val (.int kv), .val (.int wr), .val (.int (((p4.toUInt32 >>> ((8 : Int32) &&& 31).toUInt32).toInt32).toInt8.toInt32)), .val (.ref ln), .unset] [(.int (own_hex (((wr.toUInt32 >>> ((16 : Int32) &&& 31).toUInt32).toInt32) &&& (15 : Int32)))), (.int (kv + (4 : Int32))), (.ref ln)]))
    obtain ⟨ce23, Ar23, S23, G23⟩ := id V_ln_21
    obtain ⟨T23, h23, X23, e23, W23, st23⟩ := stB X22g hx hZ e22 Ar23 (j := (kv + (4 : Int32))) (own_in (i := (kq + 4)) S23 (own_plus hkq (show (4 : Int32).toInt = ((4 : Nat) : Int) from by decide) (by omega)) (by omega)) (g := (mkF m 190 #[.val (.int p0), .val (.int p1), .val (.int p2), .val (.int p3), .val (.int p4), .val (.int kv), .val (.int wr), .val (.int (((p4.toUInt32 >>> ((8 : Int32) &&& 31).toUInt32).toInt32).toInt8.toInt32)), .val (.ref ln), .unset] [(.int (own_hex (((wr.toUInt32 >>> ((16 : Int32) &&& 31).toUInt32).toInt32) &&& (15 : Int32)))), (.int (kv + (4 : Int32))), (.ref ln)])) rfl rfl (hb hby at_190)
    rw [own_cl (j := (kv + (4 : Int32))) (i := (kq + 4)) (own_plus hkq (show (4 : Int32).toInt = ((4 : Nat) : Int) from by decide) (by omega))] at W23 X23
    refine own_go (fun t_ kt_ => st23 _ kt_) ?_
    have N23 := Fr.snoc X23 N22g gt_ln
    obtain ⟨lo23, X23g, N23g⟩ : ∃ lo, Stand p l e room_1 s m #[(.int p0), (.int p1), (.int p2), (.int p3), (.int p4)] below meth c T23 lo 1 12 ∧ Fr n0 lo := ⟨_, X23, N23⟩
    have ZZ_23 : n0 ≤ h23.size := Nat.le_trans ZZ_21 (Nat.le_of_eq W23.size.symm)
    have S_HEX_VALUES_23 : Sta Z h23 "com/example/ledgerstrike/ledgerstrike/journal/JournalFormat" "HEX_VALUES" "[B" (.ref hxa) := S_HEX_VALUES_21.wr W23
    have VH_23 : own_Ary Z h23 hxa .byte 256 (fun j => .int (own_hv j)) := VH_21.other W23 ne_hxa_ln
    have V_ln_23 : own_Ary Z h23 ln .byte 12 (own_set (own_set (own_set (own_set (own_set (own_set (own_set (own_set (own_set (own_set (own_set (own_set (own_set (own_set (own_set (own_set (own_set (fun _ => (.int (0 : Int32))) 0 (.int (nar .byte (((p4.toUInt32 >>> ((8 : Int32) &&& 31).toUInt32).toInt32).toInt8.toInt32)))) 1 (.int (nar .byte (((p4.toUInt32 >>> ((8 : Int32) &&& 31).toUInt32).toInt32).toInt8.toInt32)))) 2 (.int (nar .byte (((p4.toUInt32 >>> ((8 : Int32) &&& 31).toUInt32).toInt32).toInt8.toInt32)))) 3 (.int (nar .byte (((p4.toUInt32 >>> ((8 : Int32) &&& 31).toUInt32).toInt32).toInt8.toInt32)))) 4 (.int (nar .byte (((p4.toUInt32 >>> ((8 : Int32) &&& 31).toUInt32).toInt32).toInt8.toInt32)))) 5 (.int (nar .byte (((p4.toUInt32 >>> ((8 : Int32) &&& 31).toUInt32).toInt32).toInt8.toInt32)))) 6 (.int (nar .byte (((p4.toUInt32 >>> ((8 : Int32) &&& 31).toUInt32).toInt32).toInt8.toInt32)))) 7 (.int (nar .byte (((p4.toUInt32 >>> ((8 : Int32) &&& 31).toUInt32).toInt32).toInt8.toInt32)))) 8 (.int (nar .byte (((p4.toUInt32 >>> ((8 : Int32) &&& 31).toUInt32).toInt32).toInt8.toInt32)))) 9 (.int (nar .byte (((p4.toUInt32 >>> ((8 : Int32) &&& 31).toUInt32).toInt32).toInt8.toInt32)))) 10 (.int (nar .byte (((p4.toUInt32 >>> ((8 : Int32) &&& 31).toUInt32).toInt32).toInt8.toInt32)))) 11 (.int (nar .byte (((p4.toUInt32 >>> ((8 : Int32) &&& 31).toUInt32).toInt32).toInt8.toInt32)))) kq (.int (nar .byte (44 : Int32)))) (kq + 1) (.int (nar .byte (own_hex (((wr.toUInt32 >>> ((28 : Int32) &&& 31).toUInt32).toInt32) &&& (15 : Int32)))))) (kq + 2) (.int (nar .byte (own_hex (((wr.toUInt32 >>> ((24 : Int32) &&& 31).toUInt32).toInt32) &&& (15 : Int32)))))) (kq + 3) (.int (nar .byte (own_hex (((wr.toUInt32 >>> ((20 : Int32) &&& 31).toUInt32).toInt32) &&& (15 : Int32)))))) (kq + 4) (.int (nar .byte (own_hex (((wr.toUInt32 >>> ((16 : Int32) &&& 31).toUInt32).toInt32) &&& (15 : Int32)))))) := own_Ary.set Ar23 S23 G23 W23
    show own_Go p e below s _ _ _ (T23.setTop (mkF m 191 #[.val (.int p0), .val (.int p1), .val (.int p2), .val (.int p3), .val (.int p4), .val (.int kv), .val (.int wr), .val (.int (((p4.toUInt32 >>> ((8 : Int32) &&& 31).toUInt32).toInt32).toInt8.toInt32)), .val (.ref ln), .unset] []))
    refine own_go (fun t_ kt_ => XS.aload X23g.here hx rfl (hb hby at_191) rfl rfl kt_) ?_
    show own_Go p e below s _ _ _ (T23.setTop (mkF m 193 #[.val (.int p0), .val (.int p1), .val (.int p2), .val (.int p3), .val (.int p4), .val (.int kv), .val (.int wr), .val (.int (((p4.toUInt32 >>> ((8 : Int32) &&& 31).toUInt32).toInt32).toInt8.toInt32)), .val (.ref ln), .unset] [(.ref ln)]))
    refine own_go (fun t_ kt_ => XS.iload X23g.here hx rfl (hb hby at_193) rfl kt_) ?_
    show own_Go p e below s _ _ _ (T23.setTop (mkF m 195 #[.val (.int p0), .val (.int p1), .val (.int p2), .val (.int p3), .val (.int p4), .val (.int kv), .val (.int wr), .val (.int (((p4.toUInt32 >>> ((8 : Int32) &&& 31).toUInt32).toInt32).toInt8.toInt32)), .val (.ref ln), .unset] [(.int kv), (.ref ln)]))
    refine own_go (fun t_ kt_ => XS.iconst X23g.here hx rfl (hb hby at_195) kt_) ?_
    show own_Go p e below s _ _ _ (T23.setTop (mkF m 196 #[.val (.int p0), .val (.int p1), .val (.int p2), .val (.int p3), .val (.int p4), .val (.int kv), .val (.int wr), .val (.int (((p4.toUInt32 >>> ((8 : Int32) &&& 31).toUInt32).toInt32).toInt8.toInt32)), .val (.ref ln), .unset] [(.int (5 : Int32)), (.int kv), (.ref ln)]))
    refine own_go (fun t_ kt_ => XS.iadd X23g.here hx rfl (hb hby at_196) rfl kt_) ?_
    show own_Go p e below s _ _ _ (T23.setTop (mkF m 197 #[.val (.int p0), .val (.int p1), .val (.int p2), .val (.int p3), .val (.int p4), .val (.int kv), .val (.int wr), .val (.int (((p4.toUInt32 >>> ((8 : Int32) &&& 31).toUInt32).toInt32).toInt8.toInt32)), .val (.ref ln), .unset] [(.int (kv + (5 : Int32))), (.ref ln)]))
    refine own_go (fun t_ kt_ => XS.iload X23g.here hx rfl (hb hby at_197) rfl kt_) ?_
    show own_Go p e below s _ _ _ (T23.setTop (mkF m 199 #[.val (.int p0), .val (.int p1), .val (.int p2), .val (.int p3), .val (.int p4), .val (.int kv), .val (.int wr), .val (.int (((p4.toUInt32 >>> ((8 : Int32) &&& 31).toUInt32).toInt32).toInt8.toInt32)), .val (.ref ln), .unset] [(.int wr), (.int (kv + (5 : Int32))), (.ref ln)]))
    refine own_go (fun t_ kt_ => XS.bipush X23g.here hx rfl (hb hby at_199) kt_) ?_
    show own_Go p e below s _ _ _ (T23.setTop (mkF m 201 #[.val (.int p0), .val (.int p1), .val (.int p2), .val (.int p3), .val (.int p4), .val (.int kv), .val (.int wr), .val (.int (((p4.toUInt32 >>> ((8 : Int32) &&& 31).toUInt32).toInt32).toInt8.toInt32)), .val (.ref ln), .unset] [(.int (12 : Int32)), (.int wr), (.int (kv + (5 : Int32))), (.ref ln)]))
    refine own_go (fun t_ kt_ => XS.iushr X23g.here hx rfl (hb hby at_201) rfl kt_) ?_
    show own_Go p e below s _ _ _ (T23.setTop (mkF m 202 #[.val (.int p0), .val (.int p1), .val (.int p2), .val (.int p3), .val (.int p4), .val (.int kv), .val (.int wr), .val (.int (((p4.toUInt32 >>> ((8 : Int32) &&& 31).toUInt32).toInt32).toInt8.toInt32)), .val (.ref ln), .unset] [(.int ((wr.toUInt32 >>> ((12 : Int32) &&& 31).toUInt32).toInt32)), (.int (kv + (5 : Int32))), (.ref ln)]))
    refine own_go (fun t_ kt_ => XS.bipush X23g.here hx rfl (hb hby at_202) kt_) ?_
    show own_Go p e below s _ _ _ (T23.setTop (mkF m 204 #[.val (.int p0), .val (.int p1), .val (.int p2), .val (.int p3), .val (.int p4), .val (.int kv), .val (.int wr), .val (.int (((p4.toUInt32 >>> ((8 : Int32) &&& 31).toUInt32).toInt32).toInt8.toInt32)), .val (.ref ln), .unset] [(.int (15 : Int32)), (.int ((wr.toUInt32 >>> ((12 : Int32) &&& 31).toUInt32).toInt32)), (.int (kv + (5 : Int32))), (.ref ln)]))
    refine own_go (fun t_ kt_ => XS.iand X23g.here hx rfl (hb hby at_204) rfl kt_) ?_
    show own_Go p e below s _ _ _ (T23.setTop (mkF m 205 #[.val (.int p0), .val (.int p1), .val (.int p2), .val (.int p3), .val (.int p4), .val (.int kv), .val (.int wr), .val (.int (((p4.toUInt32 >>> ((8 : Int32) &&& 31).toUInt32).toInt32).toInt8.toInt32)), .val (.ref ln), .unset] [(.int (((wr.toUInt32 >>> ((12 : Int32) &&& 31).toUInt32).toInt32) &&& (15 : Int32))), (.int (kv + (5 : Int32))), (.ref ln)]))
    obtain ⟨_, _, ⟨T24, L24, k24, n24⟩, -, X24, ⟨Lc24, hQ24, l24, y24, z24⟩, st24⟩ := Jvm.LawKit.callS X23g hx (y := (⟨"com/example/ledgerstrike/ledgerstrike/journal/JournalFormatSealedWithPinLaw", "hex", "(I)B"⟩ : MethodName)) hown (mvT hZ (hw _ (List.mem_of_getElem? (i := 1) rfl))) (mvT hZ (hw _ (List.mem_of_getElem? (i := 2) rfl))) (mvT hZ (hw _ (List.mem_of_getElem? (i := 3) rfl))) (mvT hZ (hw _ (List.mem_of_getElem? (i := 4) rfl))) (by decide) (backOf (W := 2) (rm1 l Z a0 hw [] ((((wr.toUInt32 >>> ((12 : Int32) &&& 31).toUInt32).toInt32) &&& (15 : Int32))) h23 n0 ZZ_23 ) hZ (hw _ (List.mem_of_getElem? (i := 4) rfl)) (hw _ (List.mem_of_getElem? (i := 3) rfl)) (by decide) (by decide)) (g := (mkF m 205 #[.val (.int p0), .val (.int p1), .val (.int p2), .val (.int p3), .val (.int p4), .val (.int kv), .val (.int wr), .val (.int (((p4.toUInt32 >>> ((8 : Int32) &&& 31).toUInt32).toInt32).toInt8.toInt32)), .val (.ref ln), .unset] [(.int (((wr.toUInt32 >>> ((12 : Int32) &&& 31).toUInt32).toInt32) &&& (15 : Int32))), (.int (kv + (5 : Int32))), (.ref ln)])) rfl (by rw [hml]; rfl) (argsL := [(.int (((wr.toUInt32 >>> ((12 : Int32) &&& 31).toUInt32).toInt32) &&& (15 : Int32)))]) (rest := [(.int (kv + (5 : Int32))), (.ref ln)]) (lenOf pd_0 rfl) rfl (by show 2 * 0 + _ ≤ _; exact Nat.le_of_eq rfl) (hb hby at_205) (fun _ _ => ⟨rfl, e23, (by decide : 1 + 0 ≤ _), (by decide : 12 + 0 ≤ _)⟩)
    dsimp only [Pt.U, Pt.locs, Pt.cells, Pt.slots] at X24 l24 y24 z24 st24 hQ24
    subst l24 y24 z24
    obtain ⟨rfl, Nq24, eh24⟩ := hQ24
    have N24 := Fr.app N23g Nq24
    refine own_go (fun t_ kt_ => st24 _ kt_) ?_
    obtain ⟨lo24, X24g, N24g⟩ : ∃ lo, Stand p l e room_1 s m #[(.int p0), (.int p1), (.int p2), (.int p3), (.int p4)] below meth c T24 lo 1 12 ∧ Fr n0 lo := ⟨_, X24, N24⟩
    have e24 : T24.heap = h23 := eh24
    show own_Go p e below s _ _ _ (T24.setTop (mkF m 208 #[.val (.int p0), .val (.int p1), .val (.int p2), .val (.int p3), .val (.int p4), .val (.int kv), .val (.int wr), .val (.int (((p4.toUInt32 >>> ((8 : Int32) &&& 31).toUInt32).toInt32).toInt8.toInt32)), .val (.ref ln), .unset] [(.int (own_hex (((wr.toUInt32 >>> ((12 : Int32) &&& 31).toUInt32).toInt32) &&& (15 : Int32)))), (.int (kv + (5 : Int32))), (.ref ln)]))
    obtain ⟨ce25, Ar25, S25, G25⟩ := id V_ln_23
    obtain ⟨T25, h25, X25, e25, W25, st25⟩ := stB X24g hx hZ e24 Ar25 (j := (kv + (5 : Int32))) (own_in (i := (kq + 5)) S25 (own_plus hkq (show (5 : Int32).toInt = ((5 : Nat) : Int) from by decide) (by omega)) (by omega)) (g := (mkF m 208 #[.val (.int p0), .val (.int p1), .val (.int p2), .val (.int p3), .val (.int p4), .val (.int kv), .val (.int wr), .val (.int (((p4.toUInt32 >>> ((8 : Int32) &&& 31).toUInt32).toInt32).toInt8.toInt32)), .val (.ref ln), .unset] [(.int (own_hex (((wr.toUInt32 >>> ((12 : Int32) &&& 31).toUInt32).toInt32) &&& (15 : Int32)))), (.int (kv + (5 : Int32))), (.ref ln)])) rfl rfl (hb hby at_208)
    rw [own_cl (j := (kv + (5 : Int32))) (i := (kq + 5)) (own_plus hkq (show (5 : Int32).toInt = ((5 : Nat) : Int) from by decide) (by omega))] at W25 X25
    refine own_go (fun t_ kt_ => st25 _ kt_) ?_
    have N25 := Fr.snoc X25 N24g gt_ln
    obtain ⟨lo25, X25g, N25g⟩ : ∃ lo, Stand p l e room_1 s m #[(.int p0), (.int p1), (.int p2), (.int p3), (.int p4)] below meth c T25 lo 1 12 ∧ Fr n0 lo := ⟨_, X25, N25⟩
    have ZZ_25 : n0 ≤ h25.size := Nat.le_trans ZZ_23 (Nat.le_of_eq W25.size.symm)
    have S_HEX_VALUES_25 : Sta Z h25 "com/example/ledgerstrike/ledgerstrike/journal/JournalFormat" "HEX_VALUES" "[B" (.ref hxa) := S_HEX_VALUES_23.wr W25
    have VH_25 : own_Ary Z h25 hxa .byte 256 (fun j => .int (own_hv j)) := VH_23.other W25 ne_hxa_ln
    have V_ln_25 : own_Ary Z h25 ln .byte 12 (own_set (own_set (own_set (own_set (own_set (own_set (own_set (own_set (own_set (own_set (own_set (own_set (own_set (own_set (own_set (own_set (own_set (own_set (fun _ => (.int (0 : Int32))) 0 (.int (nar .byte (((p4.toUInt32 >>> ((8 : Int32) &&& 31).toUInt32).toInt32).toInt8.toInt32)))) 1 (.int (nar .byte (((p4.toUInt32 >>> ((8 : Int32) &&& 31).toUInt32).toInt32).toInt8.toInt32)))) 2 (.int (nar .byte (((p4.toUInt32 >>> ((8 : Int32) &&& 31).toUInt32).toInt32).toInt8.toInt32)))) 3 (.int (nar .byte (((p4.toUInt32 >>> ((8 : Int32) &&& 31).toUInt32).toInt32).toInt8.toInt32)))) 4 (.int (nar .byte (((p4.toUInt32 >>> ((8 : Int32) &&& 31).toUInt32).toInt32).toInt8.toInt32)))) 5 (.int (nar .byte (((p4.toUInt32 >>> ((8 : Int32) &&& 31).toUInt32).toInt32).toInt8.toInt32)))) 6 (.int (nar .byte (((p4.toUInt32 >>> ((8 : Int32) &&& 31).toUInt32).toInt32).toInt8.toInt32)))) 7 (.int (nar .byte (((p4.toUInt32 >>> ((8 : Int32) &&& 31).toUInt32).toInt32).toInt8.toInt32)))) 8 (.int (nar .byte (((p4.toUInt32 >>> ((8 : Int32) &&& 31).toUInt32).toInt32).toInt8.toInt32)))) 9 (.int (nar .byte (((p4.toUInt32 >>> ((8 : Int32) &&& 31).toUInt32).toInt32).toInt8.toInt32)))) 10 (.int (nar .byte (((p4.toUInt32 >>> ((8 : Int32) &&& 31).toUInt32).toInt32).toInt8.toInt32)))) 11 (.int (nar .byte (((p4.toUInt32 >>> ((8 : Int32) &&& 31).toUInt32).toInt32).toInt8.toInt32)))) kq (.int (nar .byte (44 : Int32)))) (kq + 1) (.int (nar .byte (own_hex (((wr.toUInt32 >>> ((28 : Int32) &&& 31).toUInt32).toInt32) &&& (15 : Int32)))))) (kq + 2) (.int (nar .byte (own_hex (((wr.toUInt32 >>> ((24 : Int32) &&& 31).toUInt32).toInt32) &&& (15 : Int32)))))) (kq + 3) (.int (nar .byte (own_hex (((wr.toUInt32 >>> ((20 : Int32) &&& 31).toUInt32).toInt32) &&& (15 : Int32)))))) (kq + 4) (.int (nar .byte (own_hex (((wr.toUInt32 >>> ((16 : Int32) &&& 31).toUInt32).toInt32) &&& (15 : Int32)))))) (kq + 5) (.int (nar .byte (own_hex (((wr.toUInt32 >>> ((12 : Int32) &&& 31).toUInt32).toInt32) &&& (15 : Int32)))))) := own_Ary.set Ar25 S25 G25 W25
    show own_Go p e below s _ _ _ (T25.setTop (mkF m 209 #[.val (.int p0), .val (.int p1), .val (.int p2), .val (.int p3), .val (.int p4), .val (.int kv), .val (.int wr), .val (.int (((p4.toUInt32 >>> ((8 : Int32) &&& 31).toUInt32).toInt32).toInt8.toInt32)), .val (.ref ln), .unset] []))
    refine own_go (fun t_ kt_ => XS.aload X25g.here hx rfl (hb hby at_209) rfl rfl kt_) ?_
    show own_Go p e below s _ _ _ (T25.setTop (mkF m 211 #[.val (.int p0), .val (.int p1), .val (.int p2), .val (.int p3), .val (.int p4), .val (.int kv), .val (.int wr), .val (.int (((p4.toUInt32 >>> ((8 : Int32) &&& 31).toUInt32).toInt32).toInt8.toInt32)), .val (.ref ln), .unset] [(.ref ln)]))
    refine own_go (fun t_ kt_ => XS.iload X25g.here hx rfl (hb hby at_211) rfl kt_) ?_
    show own_Go p e below s _ _ _ (T25.setTop (mkF m 213 #[.val (.int p0), .val (.int p1), .val (.int p2), .val (.int p3), .val (.int p4), .val (.int kv), .val (.int wr), .val (.int (((p4.toUInt32 >>> ((8 : Int32) &&& 31).toUInt32).toInt32).toInt8.toInt32)), .val (.ref ln), .unset] [(.int kv), (.ref ln)]))
    refine own_go (fun t_ kt_ => XS.bipush X25g.here hx rfl (hb hby at_213) kt_) ?_
    show own_Go p e below s _ _ _ (T25.setTop (mkF m 215 #[.val (.int p0), .val (.int p1), .val (.int p2), .val (.int p3), .val (.int p4), .val (.int kv), .val (.int wr), .val (.int (((p4.toUInt32 >>> ((8 : Int32) &&& 31).toUInt32).toInt32).toInt8.toInt32)), .val (.ref ln), .unset] [(.int (6 : Int32)), (.int kv), (.ref ln)]))
    refine own_go (fun t_ kt_ => XS.iadd X25g.here hx rfl (hb hby at_215) rfl kt_) ?_
    show own_Go p e below s _ _ _ (T25.setTop (mkF m 216 #[.val (.int p0), .val (.int p1), .val (.int p2), .val (.int p3), .val (.int p4), .val (.int kv), .val (.int wr), .val (.int (((p4.toUInt32 >>> ((8 : Int32) &&& 31).toUInt32).toInt32).toInt8.toInt32)), .val (.ref ln), .unset] [(.int (kv + (6 : Int32))), (.ref ln)]))
    refine own_go (fun t_ kt_ => XS.iload X25g.here hx rfl (hb hby at_216) rfl kt_) ?_
    show own_Go p e below s _ _ _ (T25.setTop (mkF m 218 #[.val (.int p0), .val (.int p1), .val (.int p2), .val (.int p3), .val (.int p4), .val (.int kv), .val (.int wr), .val (.int (((p4.toUInt32 >>> ((8 : Int32) &&& 31).toUInt32).toInt32).toInt8.toInt32)), .val (.ref ln), .unset] [(.int wr), (.int (kv + (6 : Int32))), (.ref ln)]))
    refine own_go (fun t_ kt_ => XS.bipush X25g.here hx rfl (hb hby at_218) kt_) ?_
    show own_Go p e below s _ _ _ (T25.setTop (mkF m 220 #[.val (.int p0), .val (.int p1), .val (.int p2), .val (.int p3), .val (.int p4), .val (.int kv), .val (.int wr), .val (.int (((p4.toUInt32 >>> ((8 : Int32) &&& 31).toUInt32).toInt32).toInt8.toInt32)), .val (.ref ln), .unset] [(.int (8 : Int32)), (.int wr), (.int (kv + (6 : Int32))), (.ref ln)]))
    refine own_go (fun t_ kt_ => XS.iushr X25g.here hx rfl (hb hby at_220) rfl kt_) ?_
    show own_Go p e below s _ _ _ (T25.setTop (mkF m 221 #[.val (.int p0), .val (.int p1), .val (.int p2), .val (.int p3), .val (.int p4), .val (.int kv), .val (.int wr), .val (.int (((p4.toUInt32 >>> ((8 : Int32) &&& 31).toUInt32).toInt32).toInt8.toInt32)), .val (.ref ln), .unset] [(.int ((wr.toUInt32 >>> ((8 : Int32) &&& 31).toUInt32).toInt32)), (.int (kv + (6 : Int32))), (.ref ln)]))
    refine own_go (fun t_ kt_ => XS.bipush X25g.here hx rfl (hb hby at_221) kt_) ?_
    show own_Go p e below s _ _ _ (T25.setTop (mkF m 223 #[.val (.int p0), .val (.int p1), .val (.int p2), .val (.int p3), .val (.int p4), .val (.int kv), .val (.int wr), .val (.int (((p4.toUInt32 >>> ((8 : Int32) &&& 31).toUInt32).toInt32).toInt8.toInt32)), .val (.ref ln), .unset] [(.int (15 : Int32)), (.int ((wr.toUInt32 >>> ((8 : Int32) &&& 31).toUInt32).toInt32)), (.int (kv + (6 : Int32))), (.ref ln)]))
    refine own_go (fun t_ kt_ => XS.iand X25g.here hx rfl (hb hby at_223) rfl kt_) ?_
    show own_Go p e below s _ _ _ (T25.setTop (mkF m 224 #[.val (.int p0), .val (.int p1), .val (.int p2), .val (.int p3), .val (.int p4), .val (.int kv), .val (.int wr), .val (.int (((p4.toUInt32 >>> ((8 : Int32) &&& 31).toUInt32).toInt32).toInt8.toInt32)), .val (.ref ln), .unset] [(.int (((wr.toUInt32 >>> ((8 : Int32) &&& 31).toUInt32).toInt32) &&& (15 : Int32))), (.int (kv + (6 : Int32))), (.ref ln)]))
    obtain ⟨_, _, ⟨T26, L26, k26, n26⟩, -, X26, ⟨Lc26, hQ26, l26, y26, z26⟩, st26⟩ := Jvm.LawKit.callS X25g hx (y := (⟨"com/example/ledgerstrike/ledgerstrike/journal/JournalFormatSealedWithPinLaw", "hex", "(I)B"⟩ : MethodName)) hown (mvT hZ (hw _ (List.mem_of_getElem? (i := 1) rfl))) (mvT hZ (hw _ (List.mem_of_getElem? (i := 2) rfl))) (mvT hZ (hw _ (List.mem_of_getElem? (i := 3) rfl))) (mvT hZ (hw _ (List.mem_of_getElem? (i := 4) rfl))) (by decide) (backOf (W := 2) (rm1 l Z a0 hw [] ((((wr.toUInt32 >>> ((8 : Int32) &&& 31).toUInt32).toInt32) &&& (15 : Int32))) h25 n0 ZZ_25 ) hZ (hw _ (List.mem_of_getElem? (i := 4) rfl)) (hw _ (List.mem_of_getElem? (i := 3) rfl)) (by decide) (by decide)) (g := (mkF m 224 #[.val (.int p0), .val (.int p1), .val (.int p2), .val (.int p3), .val (.int p4), .val (.int kv), .val (.int wr), .val (.int (((p4.toUInt32 >>> ((8 : Int32) &&& 31).toUInt32).toInt32).toInt8.toInt32)), .val (.ref ln), .unset] [(.int (((wr.toUInt32 >>> ((8 : Int32) &&& 31).toUInt32).toInt32) &&& (15 : Int32))), (.int (kv + (6 : Int32))), (.ref ln)])) rfl (by rw [hml]; rfl) (argsL := [(.int (((wr.toUInt32 >>> ((8 : Int32) &&& 31).toUInt32).toInt32) &&& (15 : Int32)))]) (rest := [(.int (kv + (6 : Int32))), (.ref ln)]) (lenOf pd_0 rfl) rfl (by show 2 * 0 + _ ≤ _; exact Nat.le_of_eq rfl) (hb hby at_224) (fun _ _ => ⟨rfl, e25, (by decide : 1 + 0 ≤ _), (by decide : 12 + 0 ≤ _)⟩)
    dsimp only [Pt.U, Pt.locs, Pt.cells, Pt.slots] at X26 l26 y26 z26 st26 hQ26
    subst l26 y26 z26
    obtain ⟨rfl, Nq26, eh26⟩ := hQ26
    have N26 := Fr.app N25g Nq26
    refine own_go (fun t_ kt_ => st26 _ kt_) ?_
    obtain ⟨lo26, X26g, N26g⟩ : ∃ lo, Stand p l e room_1 s m #[(.int p0), (.int p1), (.int p2), (.int p3), (.int p4)] below meth c T26 lo 1 12 ∧ Fr n0 lo := ⟨_, X26, N26⟩
    have e26 : T26.heap = h25 := eh26
    show own_Go p e below s _ _ _ (T26.setTop (mkF m 227 #[.val (.int p0), .val (.int p1), .val (.int p2), .val (.int p3), .val (.int p4), .val (.int kv), .val (.int wr), .val (.int (((p4.toUInt32 >>> ((8 : Int32) &&& 31).toUInt32).toInt32).toInt8.toInt32)), .val (.ref ln), .unset] [(.int (own_hex (((wr.toUInt32 >>> ((8 : Int32) &&& 31).toUInt32).toInt32) &&& (15 : Int32)))), (.int (kv + (6 : Int32))), (.ref ln)]))
    obtain ⟨ce27, Ar27, S27, G27⟩ := id V_ln_25
    obtain ⟨T27, h27, X27, e27, W27, st27⟩ := stB X26g hx hZ e26 Ar27 (j := (kv + (6 : Int32))) (own_in (i := (kq + 6)) S27 (own_plus hkq (show (6 : Int32).toInt = ((6 : Nat) : Int) from by decide) (by omega)) (by omega)) (g := (mkF m 227 #[.val (.int p0), .val (.int p1), .val (.int p2), .val (.int p3), .val (.int p4), .val (.int kv), .val (.int wr), .val (.int (((p4.toUInt32 >>> ((8 : Int32) &&& 31).toUInt32).toInt32).toInt8.toInt32)), .val (.ref ln), .unset] [(.int (own_hex (((wr.toUInt32 >>> ((8 : Int32) &&& 31).toUInt32).toInt32) &&& (15 : Int32)))), (.int (kv + (6 : Int32))), (.ref ln)])) rfl rfl (hb hby at_227)
    rw [own_cl (j := (kv + (6 : Int32))) (i := (kq + 6)) (own_plus hkq (show (6 : Int32).toInt = ((6 : Nat) : Int) from by decide) (by omega))] at W27 X27
    refine own_go (fun t_ kt_ => st27 _ kt_) ?_
    have N27 := Fr.snoc X27 N26g gt_ln
    obtain ⟨lo27, X27g, N27g⟩ : ∃ lo, Stand p l e room_1 s m #[(.int p0), (.int p1), (.int p2), (.int p3), (.int p4)] below meth c T27 lo 1 12 ∧ Fr n0 lo := ⟨_, X27, N27⟩
    have ZZ_27 : n0 ≤ h27.size := Nat.le_trans ZZ_25 (Nat.le_of_eq W27.size.symm)
    have S_HEX_VALUES_27 : Sta Z h27 "com/example/ledgerstrike/ledgerstrike/journal/JournalFormat" "HEX_VALUES" "[B" (.ref hxa) := S_HEX_VALUES_25.wr W27
    have VH_27 : own_Ary Z h27 hxa .byte 256 (fun j => .int (own_hv j)) := VH_25.other W27 ne_hxa_ln
    have V_ln_27 : own_Ary Z h27 ln .byte 12 (own_set (own_set (own_set (own_set (own_set (own_set (own_set (own_set (own_set (own_set (own_set (own_set (own_set (own_set (own_set (own_set (own_set (own_set (own_set (fun _ => (.int (0 : Int32))) 0 (.int (nar .byte (((p4.toUInt32 >>> ((8 : Int32) &&& 31).toUInt32).toInt32).toInt8.toInt32)))) 1 (.int (nar .byte (((p4.toUInt32 >>> ((8 : Int32) &&& 31).toUInt32).toInt32).toInt8.toInt32)))) 2 (.int (nar .byte (((p4.toUInt32 >>> ((8 : Int32) &&& 31).toUInt32).toInt32).toInt8.toInt32)))) 3 (.int (nar .byte (((p4.toUInt32 >>> ((8 : Int32) &&& 31).toUInt32).toInt32).toInt8.toInt32)))) 4 (.int (nar .byte (((p4.toUInt32 >>> ((8 : Int32) &&& 31).toUInt32).toInt32).toInt8.toInt32)))) 5 (.int (nar .byte (((p4.toUInt32 >>> ((8 : Int32) &&& 31).toUInt32).toInt32).toInt8.toInt32)))) 6 (.int (nar .byte (((p4.toUInt32 >>> ((8 : Int32) &&& 31).toUInt32).toInt32).toInt8.toInt32)))) 7 (.int (nar .byte (((p4.toUInt32 >>> ((8 : Int32) &&& 31).toUInt32).toInt32).toInt8.toInt32)))) 8 (.int (nar .byte (((p4.toUInt32 >>> ((8 : Int32) &&& 31).toUInt32).toInt32).toInt8.toInt32)))) 9 (.int (nar .byte (((p4.toUInt32 >>> ((8 : Int32) &&& 31).toUInt32).toInt32).toInt8.toInt32)))) 10 (.int (nar .byte (((p4.toUInt32 >>> ((8 : Int32) &&& 31).toUInt32).toInt32).toInt8.toInt32)))) 11 (.int (nar .byte (((p4.toUInt32 >>> ((8 : Int32) &&& 31).toUInt32).toInt32).toInt8.toInt32)))) kq (.int (nar .byte (44 : Int32)))) (kq + 1) (.int (nar .byte (own_hex (((wr.toUInt32 >>> ((28 : Int32) &&& 31).toUInt32).toInt32) &&& (15 : Int32)))))) (kq + 2) (.int (nar .byte (own_hex (((wr.toUInt32 >>> ((24 : Int32) &&& 31).toUInt32).toInt32) &&& (15 : Int32)))))) (kq + 3) (.int (nar .byte (own_hex (((wr.toUInt32 >>> ((20 : Int32) &&& 31).toUInt32).toInt32) &&& (15 : Int32)))))) (kq + 4) (.int (nar .byte (own_hex (((wr.toUInt32 >>> ((16 : Int32) &&& 31).toUInt32).toInt32) &&& (15 : Int32)))))) (kq + 5) (.int (nar .byte (own_hex (((wr.toUInt32 >>> ((12 : Int32) &&& 31).toUInt32).toInt32) &&& (15 : Int32)))))) (kq + 6) (.int (nar .byte (own_hex (((wr.toUInt32 >>> ((8 : Int32) &&& 31).toUInt32).toInt32) &&& (15 : Int32)))))) := own_Ary.set Ar27 S27 G27 W27
    show own_Go p e below s _ _ _ (T27.setTop (mkF m 228 #[.val (.int p0), .val (.int p1), .val (.int p2), .val (.int p3), .val (.int p4), .val (.int kv), .val (.int wr), .val (.int (((p4.toUInt32 >>> ((8 : Int32) &&& 31).toUInt32).toInt32).toInt8.toInt32)), .val (.ref ln), .unset] []))
    refine own_go (fun t_ kt_ => XS.aload X27g.here hx rfl (hb hby at_228) rfl rfl kt_) ?_
    show own_Go p e below s _ _ _ (T27.setTop (mkF m 230 #[.val (.int p0), .val (.int p1), .val (.int p2), .val (.int p3), .val (.int p4), .val (.int kv), .val (.int wr), .val (.int (((p4.toUInt32 >>> ((8 : Int32) &&& 31).toUInt32).toInt32).toInt8.toInt32)), .val (.ref ln), .unset] [(.ref ln)]))
    refine own_go (fun t_ kt_ => XS.iload X27g.here hx rfl (hb hby at_230) rfl kt_) ?_
    show own_Go p e below s _ _ _ (T27.setTop (mkF m 232 #[.val (.int p0), .val (.int p1), .val (.int p2), .val (.int p3), .val (.int p4), .val (.int kv), .val (.int wr), .val (.int (((p4.toUInt32 >>> ((8 : Int32) &&& 31).toUInt32).toInt32).toInt8.toInt32)), .val (.ref ln), .unset] [(.int kv), (.ref ln)]))
    refine own_go (fun t_ kt_ => XS.bipush X27g.here hx rfl (hb hby at_232) kt_) ?_
    show own_Go p e below s _ _ _ (T27.setTop (mkF m 234 #[.val (.int p0), .val (.int p1), .val (.int p2), .val (.int p3), .val (.int p4), .val (.int kv), .val (.int wr), .val (.int (((p4.toUInt32 >>> ((8 : Int32) &&& 31).toUInt32).toInt32).toInt8.toInt32)), .val (.ref ln), .unset] [(.int (7 : Int32)), (.int kv), (.ref ln)]))
    refine own_go (fun t_ kt_ => XS.iadd X27g.here hx rfl (hb hby at_234) rfl kt_) ?_
    show own_Go p e below s _ _ _ (T27.setTop (mkF m 235 #[.val (.int p0), .val (.int p1), .val (.int p2), .val (.int p3), .val (.int p4), .val (.int kv), .val (.int wr), .val (.int (((p4.toUInt32 >>> ((8 : Int32) &&& 31).toUInt32).toInt32).toInt8.toInt32)), .val (.ref ln), .unset] [(.int (kv + (7 : Int32))), (.ref ln)]))
    refine own_go (fun t_ kt_ => XS.iload X27g.here hx rfl (hb hby at_235) rfl kt_) ?_
    show own_Go p e below s _ _ _ (T27.setTop (mkF m 237 #[.val (.int p0), .val (.int p1), .val (.int p2), .val (.int p3), .val (.int p4), .val (.int kv), .val (.int wr), .val (.int (((p4.toUInt32 >>> ((8 : Int32) &&& 31).toUInt32).toInt32).toInt8.toInt32)), .val (.ref ln), .unset] [(.int wr), (.int (kv + (7 : Int32))), (.ref ln)]))
    refine own_go (fun t_ kt_ => XS.iconst X27g.here hx rfl (hb hby at_237) kt_) ?_
    show own_Go p e below s _ _ _ (T27.setTop (mkF m 238 #[.val (.int p0), .val (.int p1), .val (.int p2), .val (.int p3), .val (.int p4), .val (.int kv), .val (.int wr), .val (.int (((p4.toUInt32 >>> ((8 : Int32) &&& 31).toUInt32).toInt32).toInt8.toInt32)), .val (.ref ln), .unset] [(.int (4 : Int32)), (.int wr), (.int (kv + (7 : Int32))), (.ref ln)]))
    refine own_go (fun t_ kt_ => XS.iushr X27g.here hx rfl (hb hby at_238) rfl kt_) ?_
    show own_Go p e below s _ _ _ (T27.setTop (mkF m 239 #[.val (.int p0), .val (.int p1), .val (.int p2), .val (.int p3), .val (.int p4), .val (.int kv), .val (.int wr), .val (.int (((p4.toUInt32 >>> ((8 : Int32) &&& 31).toUInt32).toInt32).toInt8.toInt32)), .val (.ref ln), .unset] [(.int ((wr.toUInt32 >>> ((4 : Int32) &&& 31).toUInt32).toInt32)), (.int (kv + (7 : Int32))), (.ref ln)]))
    refine own_go (fun t_ kt_ => XS.bipush X27g.here hx rfl (hb hby at_239) kt_) ?_
    show own_Go p e below s _ _ _ (T27.setTop (mkF m 241 #[.val (.int p0), .val (.int p1), .val (.int p2), .val (.int p3), .val (.int p4), .val (.int kv), .val (.int wr), .val (.int (((p4.toUInt32 >>> ((8 : Int32) &&& 31).toUInt32).toInt32).toInt8.toInt32)), .val (.ref ln), .unset] [(.int (15 : Int32)), (.int ((wr.toUInt32 >>> ((4 : Int32) &&& 31).toUInt32).toInt32)), (.int (kv + (7 : Int32))), (.ref ln)]))
    refine own_go (fun t_ kt_ => XS.iand X27g.here hx rfl (hb hby at_241) rfl kt_) ?_
    show own_Go p e below s _ _ _ (T27.setTop (mkF m 242 #[.val (.int p0), .val (.int p1), .val (.int p2), .val (.int p3), .val (.int p4), .val (.int kv), .val (.int wr), .val (.int (((p4.toUInt32 >>> ((8 : Int32) &&& 31).toUInt32).toInt32).toInt8.toInt32)), .val (.ref ln), .unset] [(.int (((wr.toUInt32 >>> ((4 : Int32) &&& 31).toUInt32).toInt32) &&& (15 : Int32))), (.int (kv + (7 : Int32))), (.ref ln)]))
    obtain ⟨_, _, ⟨T28, L28, k28, n28⟩, -, X28, ⟨Lc28, hQ28, l28, y28, z28⟩, st28⟩ := Jvm.LawKit.callS X27g hx (y := (⟨"com/example/ledgerstrike/ledgerstrike/journal/JournalFormatSealedWithPinLaw", "hex", "(I)B"⟩ : MethodName)) hown (mvT hZ (hw _ (List.mem_of_getElem? (i := 1) rfl))) (mvT hZ (hw _ (List.mem_of_getElem? (i := 2) rfl))) (mvT hZ (hw _ (List.mem_of_getElem? (i := 3) rfl))) (mvT hZ (hw _ (List.mem_of_getElem? (i := 4) rfl))) (by decide) (backOf (W := 2) (rm1 l Z a0 hw [] ((((wr.toUInt32 >>> ((4 : Int32) &&& 31).toUInt32).toInt32) &&& (15 : Int32))) h27 n0 ZZ_27 ) hZ (hw _ (List.mem_of_getElem? (i := 4) rfl)) (hw _ (List.mem_of_getElem? (i := 3) rfl)) (by decide) (by decide)) (g := (mkF m 242 #[.val (.int p0), .val (.int p1), .val (.int p2), .val (.int p3), .val (.int p4), .val (.int kv), .val (.int wr), .val (.int (((p4.toUInt32 >>> ((8 : Int32) &&& 31).toUInt32).toInt32).toInt8.toInt32)), .val (.ref ln), .unset] [(.int (((wr.toUInt32 >>> ((4 : Int32) &&& 31).toUInt32).toInt32) &&& (15 : Int32))), (.int (kv + (7 : Int32))), (.ref ln)])) rfl (by rw [hml]; rfl) (argsL := [(.int (((wr.toUInt32 >>> ((4 : Int32) &&& 31).toUInt32).toInt32) &&& (15 : Int32)))]) (rest := [(.int (kv + (7 : Int32))), (.ref ln)]) (lenOf pd_0 rfl) rfl (by show 2 * 0 + _ ≤ _; exact Nat.le_of_eq rfl) (hb hby at_242) (fun _ _ => ⟨rfl, e27, (by decide : 1 + 0 ≤ _), (by decide : 12 + 0 ≤ _)⟩)
    dsimp only [Pt.U, Pt.locs, Pt.cells, Pt.slots] at X28 l28 y28 z28 st28 hQ28
    subst l28 y28 z28
    obtain ⟨rfl, Nq28, eh28⟩ := hQ28
    have N28 := Fr.app N27g Nq28
    refine own_go (fun t_ kt_ => st28 _ kt_) ?_
    obtain ⟨lo28, X28g, N28g⟩ : ∃ lo, Stand p l e room_1 s m #[(.int p0), (.int p1), (.int p2), (.int p3), (.int p4)] below meth c T28 lo 1 12 ∧ Fr n0 lo := ⟨_, X28, N28⟩
    have e28 : T28.heap = h27 := eh28
    show own_Go p e below s _ _ _ (T28.setTop (mkF m 245 #[.val (.int p0), .val (.int p1), .val (.int p2), .val (.int p3), .val (.int p4), .val (.int kv), .val (.int wr), .val (.int (((p4.toUInt32 >>> ((8 : Int32) &&& 31).toUInt32).toInt32).toInt8.toInt32)), .val (.ref ln), .unset] [(.int (own_hex (((wr.toUInt32 >>> ((4 : Int32) &&& 31).toUInt32).toInt32) &&& (15 : Int32)))), (.int (kv + (7 : Int32))), (.ref ln)]))
    obtain ⟨ce29, Ar29, S29, G29⟩ := id V_ln_27
    obtain ⟨T29, h29, X29, e29, W29, st29⟩ := stB X28g hx hZ e28 Ar29 (j := (kv + (7 : Int32))) (own_in (i := (kq + 7)) S29 (own_plus hkq (show (7 : Int32).toInt = ((7 : Nat) : Int) from by decide) (by omega)) (by omega)) (g := (mkF m 245 #[.val (.int p0), .val (.int p1), .val (.int p2), .val (.int p3), .val (.int p4), .val (.int kv), .val (.int wr), .val (.int (((p4.toUInt32 >>> ((8 : Int32) &&& 31).toUInt32).toInt32).toInt8.toInt32)), .val (.ref ln), .unset] [(.int (own_hex (((wr.toUInt32 >>> ((4 : Int32) &&& 31).toUInt32).toInt32) &&& (15 : Int32)))), (.int (kv + (7 : Int32))), (.ref ln)])) rfl rfl (hb hby at_245)
    rw [own_cl (j := (kv + (7 : Int32))) (i := (kq + 7)) (own_plus hkq (show (7 : Int32).toInt = ((7 : Nat) : Int) from by decide) (by omega))] at W29 X29
    refine own_go (fun t_ kt_ => st29 _ kt_) ?_
    have N29 := Fr.snoc X29 N28g gt_ln
    obtain ⟨lo29, X29g, N29g⟩ : ∃ lo, Stand p l e room_1 s m #[(.int p0), (.int p1), (.int p2), (.int p3), (.int p4)] below meth c T29 lo 1 12 ∧ Fr n0 lo := ⟨_, X29, N29⟩
    have ZZ_29 : n0 ≤ h29.size := Nat.le_trans ZZ_27 (Nat.le_of_eq W29.size.symm)
    have S_HEX_VALUES_29 : Sta Z h29 "com/example/ledgerstrike/ledgerstrike/journal/JournalFormat" "HEX_VALUES" "[B" (.ref hxa) := S_HEX_VALUES_27.wr W29
    have VH_29 : own_Ary Z h29 hxa .byte 256 (fun j => .int (own_hv j)) := VH_27.other W29 ne_hxa_ln
    have V_ln_29 : own_Ary Z h29 ln .byte 12 (own_set (own_set (own_set (own_set (own_set (own_set (own_set (own_set (own_set (own_set (own_set (own_set (own_set (own_set (own_set (own_set (own_set (own_set (own_set (own_set (fun _ => (.int (0 : Int32))) 0 (.int (nar .byte (((p4.toUInt32 >>> ((8 : Int32) &&& 31).toUInt32).toInt32).toInt8.toInt32)))) 1 (.int (nar .byte (((p4.toUInt32 >>> ((8 : Int32) &&& 31).toUInt32).toInt32).toInt8.toInt32)))) 2 (.int (nar .byte (((p4.toUInt32 >>> ((8 : Int32) &&& 31).toUInt32).toInt32).toInt8.toInt32)))) 3 (.int (nar .byte (((p4.toUInt32 >>> ((8 : Int32) &&& 31).toUInt32).toInt32).toInt8.toInt32)))) 4 (.int (nar .byte (((p4.toUInt32 >>> ((8 : Int32) &&& 31).toUInt32).toInt32).toInt8.toInt32)))) 5 (.int (nar .byte (((p4.toUInt32 >>> ((8 : Int32) &&& 31).toUInt32).toInt32).toInt8.toInt32)))) 6 (.int (nar .byte (((p4.toUInt32 >>> ((8 : Int32) &&& 31).toUInt32).toInt32).toInt8.toInt32)))) 7 (.int (nar .byte (((p4.toUInt32 >>> ((8 : Int32) &&& 31).toUInt32).toInt32).toInt8.toInt32)))) 8 (.int (nar .byte (((p4.toUInt32 >>> ((8 : Int32) &&& 31).toUInt32).toInt32).toInt8.toInt32)))) 9 (.int (nar .byte (((p4.toUInt32 >>> ((8 : Int32) &&& 31).toUInt32).toInt32).toInt8.toInt32)))) 10 (.int (nar .byte (((p4.toUInt32 >>> ((8 : Int32) &&& 31).toUInt32).toInt32).toInt8.toInt32)))) 11 (.int (nar .byte (((p4.toUInt32 >>> ((8 : Int32) &&& 31).toUInt32).toInt32).toInt8.toInt32)))) kq (.int (nar .byte (44 : Int32)))) (kq + 1) (.int (nar .byte (own_hex (((wr.toUInt32 >>> ((28 : Int32) &&& 31).toUInt32).toInt32) &&& (15 : Int32)))))) (kq + 2) (.int (nar .byte (own_hex (((wr.toUInt32 >>> ((24 : Int32) &&& 31).toUInt32).toInt32) &&& (15 : Int32)))))) (kq + 3) (.int (nar .byte (own_hex (((wr.toUInt32 >>> ((20 : Int32) &&& 31).toUInt32).toInt32) &&& (15 : Int32)))))) (kq + 4) (.int (nar .byte (own_hex (((wr.toUInt32 >>> ((16 : Int32) &&& 31).toUInt32).toInt32) &&& (15 : Int32)))))) (kq + 5) (.int (nar .byte (own_hex (((wr.toUInt32 >>> ((12 : Int32) &&& 31).toUInt32).toInt32) &&& (15 : Int32)))))) (kq + 6) (.int (nar .byte (own_hex (((wr.toUInt32 >>> ((8 : Int32) &&& 31).toUInt32).toInt32) &&& (15 : Int32)))))) (kq + 7) (.int (nar .byte (own_hex (((wr.toUInt32 >>> ((4 : Int32) &&& 31).toUInt32).toInt32) &&& (15 : Int32)))))) := own_Ary.set Ar29 S29 G29 W29
    show own_Go p e below s _ _ _ (T29.setTop (mkF m 246 #[.val (.int p0), .val (.int p1), .val (.int p2), .val (.int p3), .val (.int p4), .val (.int kv), .val (.int wr), .val (.int (((p4.toUInt32 >>> ((8 : Int32) &&& 31).toUInt32).toInt32).toInt8.toInt32)), .val (.ref ln), .unset] []))
    refine own_go (fun t_ kt_ => XS.aload X29g.here hx rfl (hb hby at_246) rfl rfl kt_) ?_
    show own_Go p e below s _ _ _ (T29.setTop (mkF m 248 #[.val (.int p0), .val (.int p1), .val (.int p2), .val (.int p3), .val (.int p4), .val (.int kv), .val (.int wr), .val (.int (((p4.toUInt32 >>> ((8 : Int32) &&& 31).toUInt32).toInt32).toInt8.toInt32)), .val (.ref ln), .unset] [(.ref ln)]))
    refine own_go (fun t_ kt_ => XS.iload X29g.here hx rfl (hb hby at_248) rfl kt_) ?_
    show own_Go p e below s _ _ _ (T29.setTop (mkF m 250 #[.val (.int p0), .val (.int p1), .val (.int p2), .val (.int p3), .val (.int p4), .val (.int kv), .val (.int wr), .val (.int (((p4.toUInt32 >>> ((8 : Int32) &&& 31).toUInt32).toInt32).toInt8.toInt32)), .val (.ref ln), .unset] [(.int kv), (.ref ln)]))
    refine own_go (fun t_ kt_ => XS.bipush X29g.here hx rfl (hb hby at_250) kt_) ?_
    show own_Go p e below s _ _ _ (T29.setTop (mkF m 252 #[.val (.int p0), .val (.int p1), .val (.int p2), .val (.int p3), .val (.int p4), .val (.int kv), .val (.int wr), .val (.int (((p4.toUInt32 >>> ((8 : Int32) &&& 31).toUInt32).toInt32).toInt8.toInt32)), .val (.ref ln), .unset] [(.int (8 : Int32)), (.int kv), (.ref ln)]))
    refine own_go (fun t_ kt_ => XS.iadd X29g.here hx rfl (hb hby at_252) rfl kt_) ?_
    show own_Go p e below s _ _ _ (T29.setTop (mkF m 253 #[.val (.int p0), .val (.int p1), .val (.int p2), .val (.int p3), .val (.int p4), .val (.int kv), .val (.int wr), .val (.int (((p4.toUInt32 >>> ((8 : Int32) &&& 31).toUInt32).toInt32).toInt8.toInt32)), .val (.ref ln), .unset] [(.int (kv + (8 : Int32))), (.ref ln)]))
    refine own_go (fun t_ kt_ => XS.iload X29g.here hx rfl (hb hby at_253) rfl kt_) ?_
    show own_Go p e below s _ _ _ (T29.setTop (mkF m 255 #[.val (.int p0), .val (.int p1), .val (.int p2), .val (.int p3), .val (.int p4), .val (.int kv), .val (.int wr), .val (.int (((p4.toUInt32 >>> ((8 : Int32) &&& 31).toUInt32).toInt32).toInt8.toInt32)), .val (.ref ln), .unset] [(.int wr), (.int (kv + (8 : Int32))), (.ref ln)]))
    refine own_go (fun t_ kt_ => XS.bipush X29g.here hx rfl (hb hby at_255) kt_) ?_
    show own_Go p e below s _ _ _ (T29.setTop (mkF m 257 #[.val (.int p0), .val (.int p1), .val (.int p2), .val (.int p3), .val (.int p4), .val (.int kv), .val (.int wr), .val (.int (((p4.toUInt32 >>> ((8 : Int32) &&& 31).toUInt32).toInt32).toInt8.toInt32)), .val (.ref ln), .unset] [(.int (15 : Int32)), (.int wr), (.int (kv + (8 : Int32))), (.ref ln)]))
    refine own_go (fun t_ kt_ => XS.iand X29g.here hx rfl (hb hby at_257) rfl kt_) ?_
    show own_Go p e below s _ _ _ (T29.setTop (mkF m 258 #[.val (.int p0), .val (.int p1), .val (.int p2), .val (.int p3), .val (.int p4), .val (.int kv), .val (.int wr), .val (.int (((p4.toUInt32 >>> ((8 : Int32) &&& 31).toUInt32).toInt32).toInt8.toInt32)), .val (.ref ln), .unset] [(.int (wr &&& (15 : Int32))), (.int (kv + (8 : Int32))), (.ref ln)]))
    obtain ⟨_, _, ⟨T30, L30, k30, n30⟩, -, X30, ⟨Lc30, hQ30, l30, y30, z30⟩, st30⟩ := Jvm.LawKit.callS X29g hx (y := (⟨"com/example/ledgerstrike/ledgerstrike/journal/JournalFormatSealedWithPinLaw", "hex", "(I)B"⟩ : MethodName)) hown (mvT hZ (hw _ (List.mem_of_getElem? (i := 1) rfl))) (mvT hZ (hw _ (List.mem_of_getElem? (i := 2) rfl))) (mvT hZ (hw _ (List.mem_of_getElem? (i := 3) rfl))) (mvT hZ (hw _ (List.mem_of_getElem? (i := 4) rfl))) (by decide) (backOf (W := 2) (rm1 l Z a0 hw [] ((wr &&& (15 : Int32))) h29 n0 ZZ_29 ) hZ (hw _ (List.mem_of_getElem? (i := 4) rfl)) (hw _ (List.mem_of_getElem? (i := 3) rfl)) (by decide) (by decide)) (g := (mkF m 258 #[.val (.int p0), .val (.int p1), .val (.int p2), .val (.int p3), .val (.int p4), .val (.int kv), .val (.int wr), .val (.int (((p4.toUInt32 >>> ((8 : Int32) &&& 31).toUInt32).toInt32).toInt8.toInt32)), .val (.ref ln), .unset] [(.int (wr &&& (15 : Int32))), (.int (kv + (8 : Int32))), (.ref ln)])) rfl (by rw [hml]; rfl) (argsL := [(.int (wr &&& (15 : Int32)))]) (rest := [(.int (kv + (8 : Int32))), (.ref ln)]) (lenOf pd_0 rfl) rfl (by show 2 * 0 + _ ≤ _; exact Nat.le_of_eq rfl) (hb hby at_258) (fun _ _ => ⟨rfl, e29, (by decide : 1 + 0 ≤ _), (by decide : 12 + 0 ≤ _)⟩)
    dsimp only [Pt.U, Pt.locs, Pt.cells, Pt.slots] at X30 l30 y30 z30 st30 hQ30
    subst l30 y30 z30
    obtain ⟨rfl, Nq30, eh30⟩ := hQ30
    have N30 := Fr.app N29g Nq30
    refine own_go (fun t_ kt_ => st30 _ kt_) ?_
    obtain ⟨lo30, X30g, N30g⟩ : ∃ lo, Stand p l e room_1 s m #[(.int p0), (.int p1), (.int p2), (.int p3), (.int p4)] below meth c T30 lo 1 12 ∧ Fr n0 lo := ⟨_, X30, N30⟩
    have e30 : T30.heap = h29 := eh30
    show own_Go p e below s _ _ _ (T30.setTop (mkF m 261 #[.val (.int p0), .val (.int p1), .val (.int p2), .val (.int p3), .val (.int p4), .val (.int kv), .val (.int wr), .val (.int (((p4.toUInt32 >>> ((8 : Int32) &&& 31).toUInt32).toInt32).toInt8.toInt32)), .val (.ref ln), .unset] [(.int (own_hex (wr &&& (15 : Int32)))), (.int (kv + (8 : Int32))), (.ref ln)]))
    obtain ⟨ce31, Ar31, S31, G31⟩ := id V_ln_29
    obtain ⟨T31, h31, X31, e31, W31, st31⟩ := stB X30g hx hZ e30 Ar31 (j := (kv + (8 : Int32))) (own_in (i := (kq + 8)) S31 (own_plus hkq (show (8 : Int32).toInt = ((8 : Nat) : Int) from by decide) (by omega)) (by omega)) (g := (mkF m 261 #[.val (.int p0), .val (.int p1), .val (.int p2), .val (.int p3), .val (.int p4), .val (.int kv), .val (.int wr), .val (.int (((p4.toUInt32 >>> ((8 : Int32) &&& 31).toUInt32).toInt32).toInt8.toInt32)), .val (.ref ln), .unset] [(.int (own_hex (wr &&& (15 : Int32)))), (.int (kv + (8 : Int32))), (.ref ln)])) rfl rfl (hb hby at_261)
    rw [own_cl (j := (kv + (8 : Int32))) (i := (kq + 8)) (own_plus hkq (show (8 : Int32).toInt = ((8 : Nat) : Int) from by decide) (by omega))] at W31 X31
    refine own_go (fun t_ kt_ => st31 _ kt_) ?_
    have N31 := Fr.snoc X31 N30g gt_ln
    obtain ⟨lo31, X31g, N31g⟩ : ∃ lo, Stand p l e room_1 s m #[(.int p0), (.int p1), (.int p2), (.int p3), (.int p4)] below meth c T31 lo 1 12 ∧ Fr n0 lo := ⟨_, X31, N31⟩
    have ZZ_31 : n0 ≤ h31.size := Nat.le_trans ZZ_29 (Nat.le_of_eq W31.size.symm)
    have S_HEX_VALUES_31 : Sta Z h31 "com/example/ledgerstrike/ledgerstrike/journal/JournalFormat" "HEX_VALUES" "[B" (.ref hxa) := S_HEX_VALUES_29.wr W31
    have VH_31 : own_Ary Z h31 hxa .byte 256 (fun j => .int (own_hv j)) := VH_29.other W31 ne_hxa_ln
    have V_ln_31 : own_Ary Z h31 ln .byte 12 (own_set (own_set (own_set (own_set (own_set (own_set (own_set (own_set (own_set (own_set (own_set (own_set (own_set (own_set (own_set (own_set (own_set (own_set (own_set (own_set (own_set (fun _ => (.int (0 : Int32))) 0 (.int (nar .byte (((p4.toUInt32 >>> ((8 : Int32) &&& 31).toUInt32).toInt32).toInt8.toInt32)))) 1 (.int (nar .byte (((p4.toUInt32 >>> ((8 : Int32) &&& 31).toUInt32).toInt32).toInt8.toInt32)))) 2 (.int (nar .byte (((p4.toUInt32 >>> ((8 : Int32) &&& 31).toUInt32).toInt32).toInt8.toInt32)))) 3 (.int (nar .byte (((p4.toUInt32 >>> ((8 : Int32) &&& 31).toUInt32).toInt32).toInt8.toInt32)))) 4 (.int (nar .byte (((p4.toUInt32 >>> ((8 : Int32) &&& 31).toUInt32).toInt32).toInt8.toInt32)))) 5 (.int (nar .byte (((p4.toUInt32 >>> ((8 : Int32) &&& 31).toUInt32).toInt32).toInt8.toInt32)))) 6 (.int (nar .byte (((p4.toUInt32 >>> ((8 : Int32) &&& 31).toUInt32).toInt32).toInt8.toInt32)))) 7 (.int (nar .byte (((p4.toUInt32 >>> ((8 : Int32) &&& 31).toUInt32).toInt32).toInt8.toInt32)))) 8 (.int (nar .byte (((p4.toUInt32 >>> ((8 : Int32) &&& 31).toUInt32).toInt32).toInt8.toInt32)))) 9 (.int (nar .byte (((p4.toUInt32 >>> ((8 : Int32) &&& 31).toUInt32).toInt32).toInt8.toInt32)))) 10 (.int (nar .byte (((p4.toUInt32 >>> ((8 : Int32) &&& 31).toUInt32).toInt32).toInt8.toInt32)))) 11 (.int (nar .byte (((p4.toUInt32 >>> ((8 : Int32) &&& 31).toUInt32).toInt32).toInt8.toInt32)))) kq (.int (nar .byte (44 : Int32)))) (kq + 1) (.int (nar .byte (own_hex (((wr.toUInt32 >>> ((28 : Int32) &&& 31).toUInt32).toInt32) &&& (15 : Int32)))))) (kq + 2) (.int (nar .byte (own_hex (((wr.toUInt32 >>> ((24 : Int32) &&& 31).toUInt32).toInt32) &&& (15 : Int32)))))) (kq + 3) (.int (nar .byte (own_hex (((wr.toUInt32 >>> ((20 : Int32) &&& 31).toUInt32).toInt32) &&& (15 : Int32)))))) (kq + 4) (.int (nar .byte (own_hex (((wr.toUInt32 >>> ((16 : Int32) &&& 31).toUInt32).toInt32) &&& (15 : Int32)))))) (kq + 5) (.int (nar .byte (own_hex (((wr.toUInt32 >>> ((12 : Int32) &&& 31).toUInt32).toInt32) &&& (15 : Int32)))))) (kq + 6) (.int (nar .byte (own_hex (((wr.toUInt32 >>> ((8 : Int32) &&& 31).toUInt32).toInt32) &&& (15 : Int32)))))) (kq + 7) (.int (nar .byte (own_hex (((wr.toUInt32 >>> ((4 : Int32) &&& 31).toUInt32).toInt32) &&& (15 : Int32)))))) (kq + 8) (.int (nar .byte (own_hex (wr &&& (15 : Int32)))))) := own_Ary.set Ar31 S31 G31 W31
    show own_Go p e below s _ _ _ (T31.setTop (mkF m 262 #[.val (.int p0), .val (.int p1), .val (.int p2), .val (.int p3), .val (.int p4), .val (.int kv), .val (.int wr), .val (.int (((p4.toUInt32 >>> ((8 : Int32) &&& 31).toUInt32).toInt32).toInt8.toInt32)), .val (.ref ln), .unset] []))
    obtain ⟨f0, hf0e⟩ : ∃ z, z = (own_set (own_set (own_set (own_set (own_set (own_set (own_set (own_set (own_set (own_set (own_set (own_set (own_set (own_set (own_set (own_set (own_set (own_set (own_set (own_set (own_set (fun _ => (.int (0 : Int32))) 0 (.int (nar .byte (((p4.toUInt32 >>> ((8 : Int32) &&& 31).toUInt32).toInt32).toInt8.toInt32)))) 1 (.int (nar .byte (((p4.toUInt32 >>> ((8 : Int32) &&& 31).toUInt32).toInt32).toInt8.toInt32)))) 2 (.int (nar .byte (((p4.toUInt32 >>> ((8 : Int32) &&& 31).toUInt32).toInt32).toInt8.toInt32)))) 3 (.int (nar .byte (((p4.toUInt32 >>> ((8 : Int32) &&& 31).toUInt32).toInt32).toInt8.toInt32)))) 4 (.int (nar .byte (((p4.toUInt32 >>> ((8 : Int32) &&& 31).toUInt32).toInt32).toInt8.toInt32)))) 5 (.int (nar .byte (((p4.toUInt32 >>> ((8 : Int32) &&& 31).toUInt32).toInt32).toInt8.toInt32)))) 6 (.int (nar .byte (((p4.toUInt32 >>> ((8 : Int32) &&& 31).toUInt32).toInt32).toInt8.toInt32)))) 7 (.int (nar .byte (((p4.toUInt32 >>> ((8 : Int32) &&& 31).toUInt32).toInt32).toInt8.toInt32)))) 8 (.int (nar .byte (((p4.toUInt32 >>> ((8 : Int32) &&& 31).toUInt32).toInt32).toInt8.toInt32)))) 9 (.int (nar .byte (((p4.toUInt32 >>> ((8 : Int32) &&& 31).toUInt32).toInt32).toInt8.toInt32)))) 10 (.int (nar .byte (((p4.toUInt32 >>> ((8 : Int32) &&& 31).toUInt32).toInt32).toInt8.toInt32)))) 11 (.int (nar .byte (((p4.toUInt32 >>> ((8 : Int32) &&& 31).toUInt32).toInt32).toInt8.toInt32)))) kq (.int (nar .byte (44 : Int32)))) (kq + 1) (.int (nar .byte (own_hex (((wr.toUInt32 >>> ((28 : Int32) &&& 31).toUInt32).toInt32) &&& (15 : Int32)))))) (kq + 2) (.int (nar .byte (own_hex (((wr.toUInt32 >>> ((24 : Int32) &&& 31).toUInt32).toInt32) &&& (15 : Int32)))))) (kq + 3) (.int (nar .byte (own_hex (((wr.toUInt32 >>> ((20 : Int32) &&& 31).toUInt32).toInt32) &&& (15 : Int32)))))) (kq + 4) (.int (nar .byte (own_hex (((wr.toUInt32 >>> ((16 : Int32) &&& 31).toUInt32).toInt32) &&& (15 : Int32)))))) (kq + 5) (.int (nar .byte (own_hex (((wr.toUInt32 >>> ((12 : Int32) &&& 31).toUInt32).toInt32) &&& (15 : Int32)))))) (kq + 6) (.int (nar .byte (own_hex (((wr.toUInt32 >>> ((8 : Int32) &&& 31).toUInt32).toInt32) &&& (15 : Int32)))))) (kq + 7) (.int (nar .byte (own_hex (((wr.toUInt32 >>> ((4 : Int32) &&& 31).toUInt32).toInt32) &&& (15 : Int32)))))) (kq + 8) (.int (nar .byte (own_hex (wr &&& (15 : Int32)))))) := ⟨_, rfl⟩
    have hf0 : own_by f0 := by rw [hf0e]; repeat (first | exact own_by0 | apply own_by1)
    have VF0 : own_Ary Z h31 ln .byte 12 f0 := by rw [hf0e]; exact V_ln_31
    have J284 : ∀ (T32 : State) (locs32 : List Loc) (X32 : Stand p l e room_1 s m #[(.int p0), (.int p1), (.int p2), (.int p3), (.int p4)] below meth c T32 locs32 1 12) (h32 : Heap) (e32 : T32.heap = h32) (N32 : Fr n0 locs32) (f : Nat → Value) (F32_0 : n0 ≤ h32.size) (F32_1 : own_Ary Z h32 ln .byte 12 f) (F32_2 : Sta Z h32 "com/example/ledgerstrike/ledgerstrike/journal/JournalFormat" "HEX_VALUES" "[B" (.ref hxa)) (F32_3 : own_Ary Z h32 hxa .byte 256 (fun j => .int (own_hv j))) (hf : own_by f), own_Go p e below s (Q0 Z p0 p1 p2 p3 p4 hxa h0 n0) (room_1).cells (room_1).slots (T32.setTop (mkF m 284 #[.val (.int p0), .val (.int p1), .val (.int p2), .val (.int p3), .val (.int p4), .val (.int kv), .val (.int wr), .val (.int (((p4.toUInt32 >>> ((8 : Int32) &&& 31).toUInt32).toInt32).toInt8.toInt32)), .val (.ref ln), .unset] [])) := by
      intro T32 locs32 X32 h32 e32 N32 f F32_0 F32_1 F32_2 F32_3 hf
      obtain ⟨u, hu, hub⟩ := own_byu hf
      have VU : own_Ary Z h32 ln .byte 12 (fun j => .int (u j)) := F32_1.congr (fun j _ => hu j)
      have J420 : ∀ (T33 : State) (locs33 : List Loc) (X33 : Stand p l e room_1 s m #[(.int p0), (.int p1), (.int p2), (.int p3), (.int p4)] below meth c T33 locs33 1 12) (e33 : T33.heap = h32) (N33 : Fr n0 locs33) (z : Int32) (hz : (z = 1 ∧ own_P u kq p0) ∨ (z = 0 ∧ ¬ own_P u kq p0)), own_Go p e below s (Q0 Z p0 p1 p2 p3 p4 hxa h0 n0) (room_1).cells (room_1).slots (T33.setTop (mkF m 420 #[.val (.int p0), .val (.int p1), .val (.int p2), .val (.int p3), .val (.int p4), .val (.int kv), .val (.int wr), .val (.int (((p4.toUInt32 >>> ((8 : Int32) &&& 31).toUInt32).toInt32).toInt8.toInt32)), .val (.ref ln), .unset] [(.int z)])) := by
        intro T33 locs33 X33 e33 N33 z hz
        refine own_go (fun t_ kt_ => XS.istore X33.here hx rfl (hb hby at_420) rfl (l' := #[.val (.int p0), .val (.int p1), .val (.int p2), .val (.int p3), .val (.int p4), .val (.int kv), .val (.int wr), .val (.int (((p4.toUInt32 >>> ((8 : Int32) &&& 31).toUInt32).toInt32).toInt8.toInt32)), .val (.ref ln), .val (.int z)]) rfl kt_) ?_
        show own_Go p e below s _ _ _ (T33.setTop (mkF m 422 #[.val (.int p0), .val (.int p1), .val (.int p2), .val (.int p3), .val (.int p4), .val (.int kv), .val (.int wr), .val (.int (((p4.toUInt32 >>> ((8 : Int32) &&& 31).toUInt32).toInt32).toInt8.toInt32)), .val (.ref ln), .val (.int z)] []))
        refine own_go (fun t_ kt_ => XS.iloadN X33.here hx rfl (hb hby at_422) rfl kt_) ?_
        show own_Go p e below s _ _ _ (T33.setTop (mkF m 423 #[.val (.int p0), .val (.int p1), .val (.int p2), .val (.int p3), .val (.int p4), .val (.int kv), .val (.int wr), .val (.int (((p4.toUInt32 >>> ((8 : Int32) &&& 31).toUInt32).toInt32).toInt8.toInt32)), .val (.ref ln), .val (.int z)] [(.int p0)]))
        refine own_go (fun t_ kt_ => XS.aload X33.here hx rfl (hb hby at_423) rfl rfl kt_) ?_
        show own_Go p e below s _ _ _ (T33.setTop (mkF m 425 #[.val (.int p0), .val (.int p1), .val (.int p2), .val (.int p3), .val (.int p4), .val (.int kv), .val (.int wr), .val (.int (((p4.toUInt32 >>> ((8 : Int32) &&& 31).toUInt32).toInt32).toInt8.toInt32)), .val (.ref ln), .val (.int z)] [(.ref ln), (.int p0)]))
        refine own_go (fun t_ kt_ => XS.iload X33.here hx rfl (hb hby at_425) rfl kt_) ?_
        show own_Go p e below s _ _ _ (T33.setTop (mkF m 427 #[.val (.int p0), .val (.int p1), .val (.int p2), .val (.int p3), .val (.int p4), .val (.int kv), .val (.int wr), .val (.int (((p4.toUInt32 >>> ((8 : Int32) &&& 31).toUInt32).toInt32).toInt8.toInt32)), .val (.ref ln), .val (.int z)] [(.int kv), (.ref ln), (.int p0)]))
        obtain ⟨_, _, ⟨T34, L34, k34, n34⟩, -, X34, ⟨Lc34, hQ34, l34, y34, z34⟩, st34⟩ := Jvm.LawKit.callS X33 hx (y := (⟨"com/example/ledgerstrike/ledgerstrike/journal/JournalFormat", "sealedWith", "(I[BI)Z"⟩ : MethodName)) hown (mvT hZ (hw _ (List.mem_of_getElem? (i := 9) rfl))) (mvT hZ (hw _ (List.mem_of_getElem? (i := 10) rfl))) (mvT hZ (hw _ (List.mem_of_getElem? (i := 11) rfl))) (mvT hZ (hw _ (List.mem_of_getElem? (i := 12) rfl))) (by decide) (backOf (W := 0) (rm3 l Z a0 hw [] (p0) (ln) (kv) (u) (kq) (hxa) h32 n0 F32_0 VU hub hkq hk3 F32_2 F32_3) hZ (hw _ (List.mem_of_getElem? (i := 12) rfl)) (hw _ (List.mem_of_getElem? (i := 11) rfl)) (by decide) (by decide)) (g := (mkF m 427 #[.val (.int p0), .val (.int p1), .val (.int p2), .val (.int p3), .val (.int p4), .val (.int kv), .val (.int wr), .val (.int (((p4.toUInt32 >>> ((8 : Int32) &&& 31).toUInt32).toInt32).toInt8.toInt32)), .val (.ref ln), .val (.int z)] [(.int kv), (.ref ln), (.int p0)])) rfl (by rw [hml]; rfl) (argsL := [(.int p0), (.ref ln), (.int kv)]) (rest := []) (lenOf pd_1 rfl) rfl (by show 2 * 0 + _ ≤ _; exact Nat.le_of_eq rfl) (hb hby at_427) (fun _ _ => ⟨rfl, e33, (by decide : 1 + 0 ≤ _), (by decide : 12 + 0 ≤ _)⟩)
        dsimp only [Pt.U, Pt.locs, Pt.cells, Pt.slots] at X34 l34 y34 z34 st34 hQ34
        subst l34 y34 z34
        obtain ⟨zz, rfl, hzz, Nq34, eh34⟩ := hQ34
        have N34 := Fr.app N33 Nq34
        refine own_go (fun t_ kt_ => st34 _ kt_) ?_
        obtain ⟨lo34, X34g, N34g⟩ : ∃ lo, Stand p l e room_1 s m #[(.int p0), (.int p1), (.int p2), (.int p3), (.int p4)] below meth c T34 lo 1 12 ∧ Fr n0 lo := ⟨_, X34, N34⟩
        have e34 : T34.heap = h32 := eh34
        show own_Go p e below s _ _ _ (T34.setTop (mkF m 430 #[.val (.int p0), .val (.int p1), .val (.int p2), .val (.int p3), .val (.int p4), .val (.int kv), .val (.int wr), .val (.int (((p4.toUInt32 >>> ((8 : Int32) &&& 31).toUInt32).toInt32).toInt8.toInt32)), .val (.ref ln), .val (.int z)] [(.int zz)]))
        refine own_go (fun t_ kt_ => XS.iload X34g.here hx rfl (hb hby at_430) rfl kt_) ?_
        show own_Go p e below s _ _ _ (T34.setTop (mkF m 432 #[.val (.int p0), .val (.int p1), .val (.int p2), .val (.int p3), .val (.int p4), .val (.int kv), .val (.int wr), .val (.int (((p4.toUInt32 >>> ((8 : Int32) &&& 31).toUInt32).toInt32).toInt8.toInt32)), .val (.ref ln), .val (.int z)] [(.int z), (.int zz)]))
        refine own_go (fun t_ kt_ => XS.icmpNo X34g.here hx rfl (hb hby at_432) rfl (teq (by rcases hz with ⟨rfl, h⟩ | ⟨rfl, h⟩ <;> rcases hzz with ⟨rfl, h'⟩ | ⟨rfl, h'⟩ <;> first | rfl | exact absurd h h' | exact absurd h' h)).2 kt_) ?_
        show own_Go p e below s _ _ _ (T34.setTop (mkF m 435 #[.val (.int p0), .val (.int p1), .val (.int p2), .val (.int p3), .val (.int p4), .val (.int kv), .val (.int wr), .val (.int (((p4.toUInt32 >>> ((8 : Int32) &&& 31).toUInt32).toInt32).toInt8.toInt32)), .val (.ref ln), .val (.int z)] []))
        refine own_go (fun t_ kt_ => XS.iconst X34g.here hx rfl (hb hby at_435) kt_) ?_
        show own_Go p e below s _ _ _ (T34.setTop (mkF m 436 #[.val (.int p0), .val (.int p1), .val (.int p2), .val (.int p3), .val (.int p4), .val (.int kv), .val (.int wr), .val (.int (((p4.toUInt32 >>> ((8 : Int32) &&& 31).toUInt32).toInt32).toInt8.toInt32)), .val (.ref ln), .val (.int z)] [(.int (1 : Int32))]))
        refine own_go (fun t_ kt_ => XS.goto X34g.here hx rfl (pc0 := 436) (pc' := 440) rfl (hb hby at_436) (by decide) (by decide) kt_) ?_
        show own_Go p e below s _ _ _ (T34.setTop (mkF m 440 #[.val (.int p0), .val (.int p1), .val (.int p2), .val (.int p3), .val (.int p4), .val (.int kv), .val (.int wr), .val (.int (((p4.toUInt32 >>> ((8 : Int32) &&& 31).toUInt32).toInt32).toInt8.toInt32)), .val (.ref ln), .val (.int z)] [(.int (1 : Int32))]))
        refine own_ret X34g (v := some (.int (1 : Int32))) (fun h => by rw [hret] at h; cases h) hlk ?_ (by decide) (by decide) (fun fs hr => retN X34g hx (t := .boolean) hret (by simp) (hb hby at_440) hr)
        show Q0 Z p0 p1 p2 p3 p4 hxa h0 n0 (some (.int (1 : Int32))) T34.heap _
        rw [e34]
        exact ⟨rfl, N34g⟩
      have J419 : ∀ (T35 : State) (locs35 : List Loc) (X35 : Stand p l e room_1 s m #[(.int p0), (.int p1), (.int p2), (.int p3), (.int p4)] below meth c T35 locs35 1 12) (e35 : T35.heap = h32) (N35 : Fr n0 locs35) (hfin : ¬ own_P u kq p0), own_Go p e below s (Q0 Z p0 p1 p2 p3 p4 hxa h0 n0) (room_1).cells (room_1).slots (T35.setTop (mkF m 419 #[.val (.int p0), .val (.int p1), .val (.int p2), .val (.int p3), .val (.int p4), .val (.int kv), .val (.int wr), .val (.int (((p4.toUInt32 >>> ((8 : Int32) &&& 31).toUInt32).toInt32).toInt8.toInt32)), .val (.ref ln), .unset] [])) := by
        intro T35 locs35 X35 e35 N35 hfin
        refine own_go (fun t_ kt_ => XS.iconst X35.here hx rfl (hb hby at_419) kt_) ?_
        show own_Go p e below s _ _ _ (T35.setTop (mkF m 420 #[.val (.int p0), .val (.int p1), .val (.int p2), .val (.int p3), .val (.int p4), .val (.int kv), .val (.int wr), .val (.int (((p4.toUInt32 >>> ((8 : Int32) &&& 31).toUInt32).toInt32).toInt8.toInt32)), .val (.ref ln), .unset] [(.int (0 : Int32))]))
        exact J420 T35 _ X35 e35 N35 ((0 : Int32))  (by first | exact Or.inl ⟨rfl, hfin⟩ | exact Or.inr ⟨rfl, hfin⟩)
      refine own_go (fun t_ kt_ => XS.aload X32.here hx rfl (hb hby at_284) rfl rfl kt_) ?_
      show own_Go p e below s _ _ _ (T32.setTop (mkF m 286 #[.val (.int p0), .val (.int p1), .val (.int p2), .val (.int p3), .val (.int p4), .val (.int kv), .val (.int wr), .val (.int (((p4.toUInt32 >>> ((8 : Int32) &&& 31).toUInt32).toInt32).toInt8.toInt32)), .val (.ref ln), .unset] [(.ref ln)]))
      refine own_go (fun t_ kt_ => XS.iload X32.here hx rfl (hb hby at_286) rfl kt_) ?_
      show own_Go p e below s _ _ _ (T32.setTop (mkF m 288 #[.val (.int p0), .val (.int p1), .val (.int p2), .val (.int p3), .val (.int p4), .val (.int kv), .val (.int wr), .val (.int (((p4.toUInt32 >>> ((8 : Int32) &&& 31).toUInt32).toInt32).toInt8.toInt32)), .val (.ref ln), .unset] [(.int kv), (.ref ln)]))
      obtain ⟨ce36, Ar36, S36, G36⟩ := id VU
      have q36 : ce36.slots[(kv).toNatClampNeg]? = some (.int (u kq)) := by rw [own_cl (j := kv) (i := kq) hkq]; exact (G36 _ (by omega)).trans (congrArg some (rfl))
      refine own_go (fun t_ kt_ => X32.baloadBytes hx (j := kv) (v := (.int (u kq))) (by rw [e32]; exact Ar36.1) (State.isArrayOf_alike hZ.alike Ar36.2.1) Ar36.2.2 (own_in (i := kq) S36 hkq (by omega)) q36 (g := (mkF m 288 #[.val (.int p0), .val (.int p1), .val (.int p2), .val (.int p3), .val (.int p4), .val (.int kv), .val (.int wr), .val (.int (((p4.toUInt32 >>> ((8 : Int32) &&& 31).toUInt32).toInt32).toInt8.toInt32)), .val (.ref ln), .unset] [(.int kv), (.ref ln)])) rfl rfl (hb hby at_288) _ kt_) ?_
      show own_Go p e below s _ _ _ (T32.setTop (mkF m 289 #[.val (.int p0), .val (.int p1), .val (.int p2), .val (.int p3), .val (.int p4), .val (.int kv), .val (.int wr), .val (.int (((p4.toUInt32 >>> ((8 : Int32) &&& 31).toUInt32).toInt32).toInt8.toInt32)), .val (.ref ln), .unset] [(.int (u kq))]))
      refine own_go (fun t_ kt_ => XS.bipush X32.here hx rfl (hb hby at_289) kt_) ?_
      show own_Go p e below s _ _ _ (T32.setTop (mkF m 291 #[.val (.int p0), .val (.int p1), .val (.int p2), .val (.int p3), .val (.int p4), .val (.int kv), .val (.int wr), .val (.int (((p4.toUInt32 >>> ((8 : Int32) &&& 31).toUInt32).toInt32).toInt8.toInt32)), .val (.ref ln), .unset] [(.int (44 : Int32)), (.int (u kq))]))
      by_cases hc291 : (u kq) = (44 : Int32)
      · skip
        have hi291 : ((u kq)).toInt = 44 := congrArg Int32.toInt hc291
        refine own_go (fun t_ kt_ => XS.icmpNo X32.here hx rfl (hb hby at_291) rfl (teq hc291).2 kt_) ?_
        show own_Go p e below s _ _ _ (T32.setTop (mkF m 294 #[.val (.int p0), .val (.int p1), .val (.int p2), .val (.int p3), .val (.int p4), .val (.int kv), .val (.int wr), .val (.int (((p4.toUInt32 >>> ((8 : Int32) &&& 31).toUInt32).toInt32).toInt8.toInt32)), .val (.ref ln), .unset] []))
        refine own_go (fun t_ kt_ => XS.aload X32.here hx rfl (hb hby at_294) rfl rfl kt_) ?_
        show own_Go p e below s _ _ _ (T32.setTop (mkF m 296 #[.val (.int p0), .val (.int p1), .val (.int p2), .val (.int p3), .val (.int p4), .val (.int kv), .val (.int wr), .val (.int (((p4.toUInt32 >>> ((8 : Int32) &&& 31).toUInt32).toInt32).toInt8.toInt32)), .val (.ref ln), .unset] [(.ref ln)]))
        refine own_go (fun t_ kt_ => XS.iload X32.here hx rfl (hb hby at_296) rfl kt_) ?_
        show own_Go p e below s _ _ _ (T32.setTop (mkF m 298 #[.val (.int p0), .val (.int p1), .val (.int p2), .val (.int p3), .val (.int p4), .val (.int kv), .val (.int wr), .val (.int (((p4.toUInt32 >>> ((8 : Int32) &&& 31).toUInt32).toInt32).toInt8.toInt32)), .val (.ref ln), .unset] [(.int kv), (.ref ln)]))
        refine own_go (fun t_ kt_ => XS.iconst X32.here hx rfl (hb hby at_298) kt_) ?_
        show own_Go p e below s _ _ _ (T32.setTop (mkF m 299 #[.val (.int p0), .val (.int p1), .val (.int p2), .val (.int p3), .val (.int p4), .val (.int kv), .val (.int wr), .val (.int (((p4.toUInt32 >>> ((8 : Int32) &&& 31).toUInt32).toInt32).toInt8.toInt32)), .val (.ref ln), .unset] [(.int (1 : Int32)), (.int kv), (.ref ln)]))
        refine own_go (fun t_ kt_ => XS.iadd X32.here hx rfl (hb hby at_299) rfl kt_) ?_
        show own_Go p e below s _ _ _ (T32.setTop (mkF m 300 #[.val (.int p0), .val (.int p1), .val (.int p2), .val (.int p3), .val (.int p4), .val (.int kv), .val (.int wr), .val (.int (((p4.toUInt32 >>> ((8 : Int32) &&& 31).toUInt32).toInt32).toInt8.toInt32)), .val (.ref ln), .unset] [(.int (kv + (1 : Int32))), (.ref ln)]))
        refine own_go (fun t_ kt_ => XS.iloadN X32.here hx rfl (hb hby at_300) rfl kt_) ?_
        show own_Go p e below s _ _ _ (T32.setTop (mkF m 301 #[.val (.int p0), .val (.int p1), .val (.int p2), .val (.int p3), .val (.int p4), .val (.int kv), .val (.int wr), .val (.int (((p4.toUInt32 >>> ((8 : Int32) &&& 31).toUInt32).toInt32).toInt8.toInt32)), .val (.ref ln), .unset] [(.int p0), (.int (kv + (1 : Int32))), (.ref ln)]))
        refine own_go (fun t_ kt_ => XS.bipush X32.here hx rfl (hb hby at_301) kt_) ?_
        show own_Go p e below s _ _ _ (T32.setTop (mkF m 303 #[.val (.int p0), .val (.int p1), .val (.int p2), .val (.int p3), .val (.int p4), .val (.int kv), .val (.int wr), .val (.int (((p4.toUInt32 >>> ((8 : Int32) &&& 31).toUInt32).toInt32).toInt8.toInt32)), .val (.ref ln), .unset] [(.int (28 : Int32)), (.int p0), (.int (kv + (1 : Int32))), (.ref ln)]))
        obtain ⟨_, _, ⟨T37, L37, k37, n37⟩, -, X37, ⟨Lc37, hQ37, l37, y37, z37⟩, st37⟩ := Jvm.LawKit.callS X32 hx (y := (⟨"com/example/ledgerstrike/ledgerstrike/journal/JournalFormatSealedWithPinLaw", "at", "([BIII)Z"⟩ : MethodName)) hown (mvT hZ (hw _ (List.mem_of_getElem? (i := 6) rfl))) (mvT hZ (hw _ (List.mem_of_getElem? (i := 7) rfl))) (mvT hZ (hw _ (List.mem_of_getElem? (i := 3) rfl))) (mvT hZ (hw _ (List.mem_of_getElem? (i := 8) rfl))) (by decide) (backOf (W := 0) (rm2 l Z a0 hw [] (ln) ((kv + (1 : Int32))) (p0) ((28 : Int32)) (u) (kq + 1 + 0) h32 n0 F32_0 VU (by have := own_plus hkq (show (1 : Int32).toInt = ((1 : Nat) : Int) from by decide) (by omega); omega) (by omega)) hZ (hw _ (List.mem_of_getElem? (i := 8) rfl)) (hw _ (List.mem_of_getElem? (i := 3) rfl)) (by decide) (by decide)) (g := (mkF m 303 #[.val (.int p0), .val (.int p1), .val (.int p2), .val (.int p3), .val (.int p4), .val (.int kv), .val (.int wr), .val (.int (((p4.toUInt32 >>> ((8 : Int32) &&& 31).toUInt32).toInt32).toInt8.toInt32)), .val (.ref ln), .unset] [(.int (28 : Int32)), (.int p0), (.int (kv + (1 : Int32))), (.ref ln)])) rfl (by rw [hml]; rfl) (argsL := [(.ref ln), (.int (kv + (1 : Int32))), (.int p0), (.int (28 : Int32))]) (rest := []) (lenOf pd_2 rfl) rfl (by show 2 * 0 + _ ≤ _; exact Nat.le_of_eq rfl) (hb hby at_303) (fun _ _ => ⟨rfl, e32, (by decide : 1 + 0 ≤ _), (by decide : 12 + 0 ≤ _)⟩)
        dsimp only [Pt.U, Pt.locs, Pt.cells, Pt.slots] at X37 l37 y37 z37 st37 hQ37
        subst l37 y37 z37
        obtain ⟨rfl, Nq37, eh37⟩ := hQ37
        have N37 := Fr.app N32 Nq37
        refine own_go (fun t_ kt_ => st37 _ kt_) ?_
        obtain ⟨lo37, X37g, N37g⟩ : ∃ lo, Stand p l e room_1 s m #[(.int p0), (.int p1), (.int p2), (.int p3), (.int p4)] below meth c T37 lo 1 12 ∧ Fr n0 lo := ⟨_, X37, N37⟩
        have e37 : T37.heap = h32 := eh37
        show own_Go p e below s _ _ _ (T37.setTop (mkF m 306 #[.val (.int p0), .val (.int p1), .val (.int p2), .val (.int p3), .val (.int p4), .val (.int kv), .val (.int wr), .val (.int (((p4.toUInt32 >>> ((8 : Int32) &&& 31).toUInt32).toInt32).toInt8.toInt32)), .val (.ref ln), .unset] [(.int (own_at (u (kq + 1 + 0)) (own_nib p0 (28 : Int32))))]))
        by_cases hc306 : (own_at (u (kq + 1 + 0)) (own_nib p0 (28 : Int32))) = (0 : Int32)
        · skip
          have hi306 : ((own_at (u (kq + 1 + 0)) (own_nib p0 (28 : Int32)))).toInt = 0 := congrArg Int32.toInt hc306
          refine own_go (fun t_ kt_ => XS.ifYes X37g.here hx rfl (pc0 := 306) (pc' := 419) rfl (hb hby at_306) rfl ((if0 _ _).trans (teq hc306).1) (by decide) (by decide) kt_) ?_
          show own_Go p e below s _ _ _ (T37.setTop (mkF m 419 #[.val (.int p0), .val (.int p1), .val (.int p2), .val (.int p3), .val (.int p4), .val (.int kv), .val (.int wr), .val (.int (((p4.toUInt32 >>> ((8 : Int32) &&& 31).toUInt32).toInt32).toInt8.toInt32)), .val (.ref ln), .unset] []))
          have hfin : ¬ own_P u kq p0 := fun q => own_at0 hc306 (q.2 0 (by decide))
          exact J419 T37 _ X37g e37 N37g   (hfin)
        · skip
          have hi306 : ¬ ((own_at (u (kq + 1 + 0)) (own_nib p0 (28 : Int32)))).toInt = 0 := fun q => hc306 (Int32.toInt_inj.mp q)
          refine own_go (fun t_ kt_ => XS.ifNo X37g.here hx rfl (hb hby at_306) rfl ((if0 _ _).trans (feq hc306).1) kt_) ?_
          show own_Go p e below s _ _ _ (T37.setTop (mkF m 309 #[.val (.int p0), .val (.int p1), .val (.int p2), .val (.int p3), .val (.int p4), .val (.int kv), .val (.int wr), .val (.int (((p4.toUInt32 >>> ((8 : Int32) &&& 31).toUInt32).toInt32).toInt8.toInt32)), .val (.ref ln), .unset] []))
          have he0 := own_at1 hc306
          refine own_go (fun t_ kt_ => XS.aload X37g.here hx rfl (hb hby at_309) rfl rfl kt_) ?_
          show own_Go p e below s _ _ _ (T37.setTop (mkF m 311 #[.val (.int p0), .val (.int p1), .val (.int p2), .val (.int p3), .val (.int p4), .val (.int kv), .val (.int wr), .val (.int (((p4.toUInt32 >>> ((8 : Int32) &&& 31).toUInt32).toInt32).toInt8.toInt32)), .val (.ref ln), .unset] [(.ref ln)]))
          refine own_go (fun t_ kt_ => XS.iload X37g.here hx rfl (hb hby at_311) rfl kt_) ?_
          show own_Go p e below s _ _ _ (T37.setTop (mkF m 313 #[.val (.int p0), .val (.int p1), .val (.int p2), .val (.int p3), .val (.int p4), .val (.int kv), .val (.int wr), .val (.int (((p4.toUInt32 >>> ((8 : Int32) &&& 31).toUInt32).toInt32).toInt8.toInt32)), .val (.ref ln), .unset] [(.int kv), (.ref ln)]))
          refine own_go (fun t_ kt_ => XS.iconst X37g.here hx rfl (hb hby at_313) kt_) ?_
          show own_Go p e below s _ _ _ (T37.setTop (mkF m 314 #[.val (.int p0), .val (.int p1), .val (.int p2), .val (.int p3), .val (.int p4), .val (.int kv), .val (.int wr), .val (.int (((p4.toUInt32 >>> ((8 : Int32) &&& 31).toUInt32).toInt32).toInt8.toInt32)), .val (.ref ln), .unset] [(.int (2 : Int32)), (.int kv), (.ref ln)]))
          refine own_go (fun t_ kt_ => XS.iadd X37g.here hx rfl (hb hby at_314) rfl kt_) ?_
          show own_Go p e below s _ _ _ (T37.setTop (mkF m 315 #[.val (.int p0), .val (.int p1), .val (.int p2), .val (.int p3), .val (.int p4), .val (.int kv), .val (.int wr), .val (.int (((p4.toUInt32 >>> ((8 : Int32) &&& 31).toUInt32).toInt32).toInt8.toInt32)), .val (.ref ln), .unset] [(.int (kv + (2 : Int32))), (.ref ln)]))
          refine own_go (fun t_ kt_ => XS.iloadN X37g.here hx rfl (hb hby at_315) rfl kt_) ?_
          show own_Go p e below s _ _ _ (T37.setTop (mkF m 316 #[.val (.int p0), .val (.int p1), .val (.int p2), .val (.int p3), .val (.int p4), .val (.int kv), .val (.int wr), .val (.int (((p4.toUInt32 >>> ((8 : Int32) &&& 31).toUInt32).toInt32).toInt8.toInt32)), .val (.ref ln), .unset] [(.int p0), (.int (kv + (2 : Int32))), (.ref ln)]))
          refine own_go (fun t_ kt_ => XS.bipush X37g.here hx rfl (hb hby at_316) kt_) ?_
          show own_Go p e below s _ _ _ (T37.setTop (mkF m 318 #[.val (.int p0), .val (.int p1), .val (.int p2), .val (.int p3), .val (.int p4), .val (.int kv), .val (.int wr), .val (.int (((p4.toUInt32 >>> ((8 : Int32) &&& 31).toUInt32).toInt32).toInt8.toInt32)), .val (.ref ln), .unset] [(.int (24 : Int32)), (.int p0), (.int (kv + (2 : Int32))), (.ref ln)]))
          obtain ⟨_, _, ⟨T38, L38, k38, n38⟩, -, X38, ⟨Lc38, hQ38, l38, y38, z38⟩, st38⟩ := Jvm.LawKit.callS X37g hx (y := (⟨"com/example/ledgerstrike/ledgerstrike/journal/JournalFormatSealedWithPinLaw", "at", "([BIII)Z"⟩ : MethodName)) hown (mvT hZ (hw _ (List.mem_of_getElem? (i := 6) rfl))) (mvT hZ (hw _ (List.mem_of_getElem? (i := 7) rfl))) (mvT hZ (hw _ (List.mem_of_getElem? (i := 3) rfl))) (mvT hZ (hw _ (List.mem_of_getElem? (i := 8) rfl))) (by decide) (backOf (W := 0) (rm2 l Z a0 hw [] (ln) ((kv + (2 : Int32))) (p0) ((24 : Int32)) (u) (kq + 1 + 1) h32 n0 F32_0 VU (by have := own_plus hkq (show (2 : Int32).toInt = ((2 : Nat) : Int) from by decide) (by omega); omega) (by omega)) hZ (hw _ (List.mem_of_getElem? (i := 8) rfl)) (hw _ (List.mem_of_getElem? (i := 3) rfl)) (by decide) (by decide)) (g := (mkF m 318 #[.val (.int p0), .val (.int p1), .val (.int p2), .val (.int p3), .val (.int p4), .val (.int kv), .val (.int wr), .val (.int (((p4.toUInt32 >>> ((8 : Int32) &&& 31).toUInt32).toInt32).toInt8.toInt32)), .val (.ref ln), .unset] [(.int (24 : Int32)), (.int p0), (.int (kv + (2 : Int32))), (.ref ln)])) rfl (by rw [hml]; rfl) (argsL := [(.ref ln), (.int (kv + (2 : Int32))), (.int p0), (.int (24 : Int32))]) (rest := []) (lenOf pd_2 rfl) rfl (by show 2 * 0 + _ ≤ _; exact Nat.le_of_eq rfl) (hb hby at_318) (fun _ _ => ⟨rfl, e37, (by decide : 1 + 0 ≤ _), (by decide : 12 + 0 ≤ _)⟩)
          dsimp only [Pt.U, Pt.locs, Pt.cells, Pt.slots] at X38 l38 y38 z38 st38 hQ38
          subst l38 y38 z38
          obtain ⟨rfl, Nq38, eh38⟩ := hQ38
          have N38 := Fr.app N37g Nq38
          refine own_go (fun t_ kt_ => st38 _ kt_) ?_
          obtain ⟨lo38, X38g, N38g⟩ : ∃ lo, Stand p l e room_1 s m #[(.int p0), (.int p1), (.int p2), (.int p3), (.int p4)] below meth c T38 lo 1 12 ∧ Fr n0 lo := ⟨_, X38, N38⟩
          have e38 : T38.heap = h32 := eh38
          show own_Go p e below s _ _ _ (T38.setTop (mkF m 321 #[.val (.int p0), .val (.int p1), .val (.int p2), .val (.int p3), .val (.int p4), .val (.int kv), .val (.int wr), .val (.int (((p4.toUInt32 >>> ((8 : Int32) &&& 31).toUInt32).toInt32).toInt8.toInt32)), .val (.ref ln), .unset] [(.int (own_at (u (kq + 1 + 1)) (own_nib p0 (24 : Int32))))]))
          by_cases hc321 : (own_at (u (kq + 1 + 1)) (own_nib p0 (24 : Int32))) = (0 : Int32)
          · skip
            have hi321 : ((own_at (u (kq + 1 + 1)) (own_nib p0 (24 : Int32)))).toInt = 0 := congrArg Int32.toInt hc321
            refine own_go (fun t_ kt_ => XS.ifYes X38g.here hx rfl (pc0 := 321) (pc' := 419) rfl (hb hby at_321) rfl ((if0 _ _).trans (teq hc321).1) (by decide) (by decide) kt_) ?_
            show own_Go p e below s _ _ _ (T38.setTop (mkF m 419 #[.val (.int p0), .val (.int p1), .val (.int p2), .val (.int p3), .val (.int p4), .val (.int kv), .val (.int wr), .val (.int (((p4.toUInt32 >>> ((8 : Int32) &&& 31).toUInt32).toInt32).toInt8.toInt32)), .val (.ref ln), .unset] []))
            have hfin : ¬ own_P u kq p0 := fun q => own_at0 hc321 (q.2 1 (by decide))
            exact J419 T38 _ X38g e38 N38g   (hfin)
          · skip
            have hi321 : ¬ ((own_at (u (kq + 1 + 1)) (own_nib p0 (24 : Int32)))).toInt = 0 := fun q => hc321 (Int32.toInt_inj.mp q)
            refine own_go (fun t_ kt_ => XS.ifNo X38g.here hx rfl (hb hby at_321) rfl ((if0 _ _).trans (feq hc321).1) kt_) ?_
            show own_Go p e below s _ _ _ (T38.setTop (mkF m 324 #[.val (.int p0), .val (.int p1), .val (.int p2), .val (.int p3), .val (.int p4), .val (.int kv), .val (.int wr), .val (.int (((p4.toUInt32 >>> ((8 : Int32) &&& 31).toUInt32).toInt32).toInt8.toInt32)), .val (.ref ln), .unset] []))
            have he1 := own_at1 hc321
            refine own_go (fun t_ kt_ => XS.aload X38g.here hx rfl (hb hby at_324) rfl rfl kt_) ?_
            show own_Go p e below s _ _ _ (T38.setTop (mkF m 326 #[.val (.int p0), .val (.int p1), .val (.int p2), .val (.int p3), .val (.int p4), .val (.int kv), .val (.int wr), .val (.int (((p4.toUInt32 >>> ((8 : Int32) &&& 31).toUInt32).toInt32).toInt8.toInt32)), .val (.ref ln), .unset] [(.ref ln)]))
            refine own_go (fun t_ kt_ => XS.iload X38g.here hx rfl (hb hby at_326) rfl kt_) ?_
            show own_Go p e below s _ _ _ (T38.setTop (mkF m 328 #[.val (.int p0), .val (.int p1), .val (.int p2), .val (.int p3), .val (.int p4), .val (.int kv), .val (.int wr), .val (.int (((p4.toUInt32 >>> ((8 : Int32) &&& 31).toUInt32).toInt32).toInt8.toInt32)), .val (.ref ln), .unset] [(.int kv), (.ref ln)]))
            refine own_go (fun t_ kt_ => XS.iconst X38g.here hx rfl (hb hby at_328) kt_) ?_
            show own_Go p e below s _ _ _ (T38.setTop (mkF m 329 #[.val (.int p0), .val (.int p1), .val (.int p2), .val (.int p3), .val (.int p4), .val (.int kv), .val (.int wr), .val (.int (((p4.toUInt32 >>> ((8 : Int32) &&& 31).toUInt32).toInt32).toInt8.toInt32)), .val (.ref ln), .unset] [(.int (3 : Int32)), (.int kv), (.ref ln)]))
            refine own_go (fun t_ kt_ => XS.iadd X38g.here hx rfl (hb hby at_329) rfl kt_) ?_
            show own_Go p e below s _ _ _ (T38.setTop (mkF m 330 #[.val (.int p0), .val (.int p1), .val (.int p2), .val (.int p3), .val (.int p4), .val (.int kv), .val (.int wr), .val (.int (((p4.toUInt32 >>> ((8 : Int32) &&& 31).toUInt32).toInt32).toInt8.toInt32)), .val (.ref ln), .unset] [(.int (kv + (3 : Int32))), (.ref ln)]))
            refine own_go (fun t_ kt_ => XS.iloadN X38g.here hx rfl (hb hby at_330) rfl kt_) ?_
            show own_Go p e below s _ _ _ (T38.setTop (mkF m 331 #[.val (.int p0), .val (.int p1), .val (.int p2), .val (.int p3), .val (.int p4), .val (.int kv), .val (.int wr), .val (.int (((p4.toUInt32 >>> ((8 : Int32) &&& 31).toUInt32).toInt32).toInt8.toInt32)), .val (.ref ln), .unset] [(.int p0), (.int (kv + (3 : Int32))), (.ref ln)]))
            refine own_go (fun t_ kt_ => XS.bipush X38g.here hx rfl (hb hby at_331) kt_) ?_
            show own_Go p e below s _ _ _ (T38.setTop (mkF m 333 #[.val (.int p0), .val (.int p1), .val (.int p2), .val (.int p3), .val (.int p4), .val (.int kv), .val (.int wr), .val (.int (((p4.toUInt32 >>> ((8 : Int32) &&& 31).toUInt32).toInt32).toInt8.toInt32)), .val (.ref ln), .unset] [(.int (20 : Int32)), (.int p0), (.int (kv + (3 : Int32))), (.ref ln)]))
            obtain ⟨_, _, ⟨T39, L39, k39, n39⟩, -, X39, ⟨Lc39, hQ39, l39, y39, z39⟩, st39⟩ := Jvm.LawKit.callS X38g hx (y := (⟨"com/example/ledgerstrike/ledgerstrike/journal/JournalFormatSealedWithPinLaw", "at", "([BIII)Z"⟩ : MethodName)) hown (mvT hZ (hw _ (List.mem_of_getElem? (i := 6) rfl))) (mvT hZ (hw _ (List.mem_of_getElem? (i := 7) rfl))) (mvT hZ (hw _ (List.mem_of_getElem? (i := 3) rfl))) (mvT hZ (hw _ (List.mem_of_getElem? (i := 8) rfl))) (by decide) (backOf (W := 0) (rm2 l Z a0 hw [] (ln) ((kv + (3 : Int32))) (p0) ((20 : Int32)) (u) (kq + 1 + 2) h32 n0 F32_0 VU (by have := own_plus hkq (show (3 : Int32).toInt = ((3 : Nat) : Int) from by decide) (by omega); omega) (by omega)) hZ (hw _ (List.mem_of_getElem? (i := 8) rfl)) (hw _ (List.mem_of_getElem? (i := 3) rfl)) (by decide) (by decide)) (g := (mkF m 333 #[.val (.int p0), .val (.int p1), .val (.int p2), .val (.int p3), .val (.int p4), .val (.int kv), .val (.int wr), .val (.int (((p4.toUInt32 >>> ((8 : Int32) &&& 31).toUInt32).toInt32).toInt8.toInt32)), .val (.ref ln), .unset] [(.int (20 : Int32)), (.int p0), (.int (kv + (3 : Int32))), (.ref ln)])) rfl (by rw [hml]; rfl) (argsL := [(.ref ln), (.int (kv + (3 : Int32))), (.int p0), (.int (20 : Int32))]) (rest := []) (lenOf pd_2 rfl) rfl (by show 2 * 0 + _ ≤ _; exact Nat.le_of_eq rfl) (hb hby at_333) (fun _ _ => ⟨rfl, e38, (by decide : 1 + 0 ≤ _), (by decide : 12 + 0 ≤ _)⟩)
            dsimp only [Pt.U, Pt.locs, Pt.cells, Pt.slots] at X39 l39 y39 z39 st39 hQ39
            subst l39 y39 z39
            obtain ⟨rfl, Nq39, eh39⟩ := hQ39
            have N39 := Fr.app N38g Nq39
            refine own_go (fun t_ kt_ => st39 _ kt_) ?_
            obtain ⟨lo39, X39g, N39g⟩ : ∃ lo, Stand p l e room_1 s m #[(.int p0), (.int p1), (.int p2), (.int p3), (.int p4)] below meth c T39 lo 1 12 ∧ Fr n0 lo := ⟨_, X39, N39⟩
            have e39 : T39.heap = h32 := eh39
            show own_Go p e below s _ _ _ (T39.setTop (mkF m 336 #[.val (.int p0), .val (.int p1), .val (.int p2), .val (.int p3), .val (.int p4), .val (.int kv), .val (.int wr), .val (.int (((p4.toUInt32 >>> ((8 : Int32) &&& 31).toUInt32).toInt32).toInt8.toInt32)), .val (.ref ln), .unset] [(.int (own_at (u (kq + 1 + 2)) (own_nib p0 (20 : Int32))))]))
            by_cases hc336 : (own_at (u (kq + 1 + 2)) (own_nib p0 (20 : Int32))) = (0 : Int32)
            · skip
              have hi336 : ((own_at (u (kq + 1 + 2)) (own_nib p0 (20 : Int32)))).toInt = 0 := congrArg Int32.toInt hc336
              refine own_go (fun t_ kt_ => XS.ifYes X39g.here hx rfl (pc0 := 336) (pc' := 419) rfl (hb hby at_336) rfl ((if0 _ _).trans (teq hc336).1) (by decide) (by decide) kt_) ?_
              show own_Go p e below s _ _ _ (T39.setTop (mkF m 419 #[.val (.int p0), .val (.int p1), .val (.int p2), .val (.int p3), .val (.int p4), .val (.int kv), .val (.int wr), .val (.int (((p4.toUInt32 >>> ((8 : Int32) &&& 31).toUInt32).toInt32).toInt8.toInt32)), .val (.ref ln), .unset] []))
              have hfin : ¬ own_P u kq p0 := fun q => own_at0 hc336 (q.2 2 (by decide))
              exact J419 T39 _ X39g e39 N39g   (hfin)
            · skip
              have hi336 : ¬ ((own_at (u (kq + 1 + 2)) (own_nib p0 (20 : Int32)))).toInt = 0 := fun q => hc336 (Int32.toInt_inj.mp q)
              refine own_go (fun t_ kt_ => XS.ifNo X39g.here hx rfl (hb hby at_336) rfl ((if0 _ _).trans (feq hc336).1) kt_) ?_
              show own_Go p e below s _ _ _ (T39.setTop (mkF m 339 #[.val (.int p0), .val (.int p1), .val (.int p2), .val (.int p3), .val (.int p4), .val (.int kv), .val (.int wr), .val (.int (((p4.toUInt32 >>> ((8 : Int32) &&& 31).toUInt32).toInt32).toInt8.toInt32)), .val (.ref ln), .unset] []))
              have he2 := own_at1 hc336
              refine own_go (fun t_ kt_ => XS.aload X39g.here hx rfl (hb hby at_339) rfl rfl kt_) ?_
              show own_Go p e below s _ _ _ (T39.setTop (mkF m 341 #[.val (.int p0), .val (.int p1), .val (.int p2), .val (.int p3), .val (.int p4), .val (.int kv), .val (.int wr), .val (.int (((p4.toUInt32 >>> ((8 : Int32) &&& 31).toUInt32).toInt32).toInt8.toInt32)), .val (.ref ln), .unset] [(.ref ln)]))
              refine own_go (fun t_ kt_ => XS.iload X39g.here hx rfl (hb hby at_341) rfl kt_) ?_
              show own_Go p e below s _ _ _ (T39.setTop (mkF m 343 #[.val (.int p0), .val (.int p1), .val (.int p2), .val (.int p3), .val (.int p4), .val (.int kv), .val (.int wr), .val (.int (((p4.toUInt32 >>> ((8 : Int32) &&& 31).toUInt32).toInt32).toInt8.toInt32)), .val (.ref ln), .unset] [(.int kv), (.ref ln)]))
              refine own_go (fun t_ kt_ => XS.iconst X39g.here hx rfl (hb hby at_343) kt_) ?_
              show own_Go p e below s _ _ _ (T39.setTop (mkF m 344 #[.val (.int p0), .val (.int p1), .val (.int p2), .val (.int p3), .val (.int p4), .val (.int kv), .val (.int wr), .val (.int (((p4.toUInt32 >>> ((8 : Int32) &&& 31).toUInt32).toInt32).toInt8.toInt32)), .val (.ref ln), .unset] [(.int (4 : Int32)), (.int kv), (.ref ln)]))
              refine own_go (fun t_ kt_ => XS.iadd X39g.here hx rfl (hb hby at_344) rfl kt_) ?_
              show own_Go p e below s _ _ _ (T39.setTop (mkF m 345 #[.val (.int p0), .val (.int p1), .val (.int p2), .val (.int p3), .val (.int p4), .val (.int kv), .val (.int wr), .val (.int (((p4.toUInt32 >>> ((8 : Int32) &&& 31).toUInt32).toInt32).toInt8.toInt32)), .val (.ref ln), .unset] [(.int (kv + (4 : Int32))), (.ref ln)]))
              refine own_go (fun t_ kt_ => XS.iloadN X39g.here hx rfl (hb hby at_345) rfl kt_) ?_
              show own_Go p e below s _ _ _ (T39.setTop (mkF m 346 #[.val (.int p0), .val (.int p1), .val (.int p2), .val (.int p3), .val (.int p4), .val (.int kv), .val (.int wr), .val (.int (((p4.toUInt32 >>> ((8 : Int32) &&& 31).toUInt32).toInt32).toInt8.toInt32)), .val (.ref ln), .unset] [(.int p0), (.int (kv + (4 : Int32))), (.ref ln)]))
              refine own_go (fun t_ kt_ => XS.bipush X39g.here hx rfl (hb hby at_346) kt_) ?_
              show own_Go p e below s _ _ _ (T39.setTop (mkF m 348 #[.val (.int p0), .val (.int p1), .val (.int p2), .val (.int p3), .val (.int p4), .val (.int kv), .val (.int wr), .val (.int (((p4.toUInt32 >>> ((8 : Int32) &&& 31).toUInt32).toInt32).toInt8.toInt32)), .val (.ref ln), .unset] [(.int (16 : Int32)), (.int p0), (.int (kv + (4 : Int32))), (.ref ln)]))
              obtain ⟨_, _, ⟨T40, L40, k40, n40⟩, -, X40, ⟨Lc40, hQ40, l40, y40, z40⟩, st40⟩ := Jvm.LawKit.callS X39g hx (y := (⟨"com/example/ledgerstrike/ledgerstrike/journal/JournalFormatSealedWithPinLaw", "at", "([BIII)Z"⟩ : MethodName)) hown (mvT hZ (hw _ (List.mem_of_getElem? (i := 6) rfl))) (mvT hZ (hw _ (List.mem_of_getElem? (i := 7) rfl))) (mvT hZ (hw _ (List.mem_of_getElem? (i := 3) rfl))) (mvT hZ (hw _ (List.mem_of_getElem? (i := 8) rfl))) (by decide) (backOf (W := 0) (rm2 l Z a0 hw [] (ln) ((kv + (4 : Int32))) (p0) ((16 : Int32)) (u) (kq + 1 + 3) h32 n0 F32_0 VU (by have := own_plus hkq (show (4 : Int32).toInt = ((4 : Nat) : Int) from by decide) (by omega); omega) (by omega)) hZ (hw _ (List.mem_of_getElem? (i := 8) rfl)) (hw _ (List.mem_of_getElem? (i := 3) rfl)) (by decide) (by decide)) (g := (mkF m 348 #[.val (.int p0), .val (.int p1), .val (.int p2), .val (.int p3), .val (.int p4), .val (.int kv), .val (.int wr), .val (.int (((p4.toUInt32 >>> ((8 : Int32) &&& 31).toUInt32).toInt32).toInt8.toInt32)), .val (.ref ln), .unset] [(.int (16 : Int32)), (.int p0), (.int (kv + (4 : Int32))), (.ref ln)])) rfl (by rw [hml]; rfl) (argsL := [(.ref ln), (.int (kv + (4 : Int32))), (.int p0), (.int (16 : Int32))]) (rest := []) (lenOf pd_2 rfl) rfl (by show 2 * 0 + _ ≤ _; exact Nat.le_of_eq rfl) (hb hby at_348) (fun _ _ => ⟨rfl, e39, (by decide : 1 + 0 ≤ _), (by decide : 12 + 0 ≤ _)⟩)
              dsimp only [Pt.U, Pt.locs, Pt.cells, Pt.slots] at X40 l40 y40 z40 st40 hQ40
              subst l40 y40 z40
              obtain ⟨rfl, Nq40, eh40⟩ := hQ40
              have N40 := Fr.app N39g Nq40
              refine own_go (fun t_ kt_ => st40 _ kt_) ?_
              obtain ⟨lo40, X40g, N40g⟩ : ∃ lo, Stand p l e room_1 s m #[(.int p0), (.int p1), (.int p2), (.int p3), (.int p4)] below meth c T40 lo 1 12 ∧ Fr n0 lo := ⟨_, X40, N40⟩
              have e40 : T40.heap = h32 := eh40
              show own_Go p e below s _ _ _ (T40.setTop (mkF m 351 #[.val (.int p0), .val (.int p1), .val (.int p2), .val (.int p3), .val (.int p4), .val (.int kv), .val (.int wr), .val (.int (((p4.toUInt32 >>> ((8 : Int32) &&& 31).toUInt32).toInt32).toInt8.toInt32)), .val (.ref ln), .unset] [(.int (own_at (u (kq + 1 + 3)) (own_nib p0 (16 : Int32))))]))
              by_cases hc351 : (own_at (u (kq + 1 + 3)) (own_nib p0 (16 : Int32))) = (0 : Int32)
              · skip
                have hi351 : ((own_at (u (kq + 1 + 3)) (own_nib p0 (16 : Int32)))).toInt = 0 := congrArg Int32.toInt hc351
                refine own_go (fun t_ kt_ => XS.ifYes X40g.here hx rfl (pc0 := 351) (pc' := 419) rfl (hb hby at_351) rfl ((if0 _ _).trans (teq hc351).1) (by decide) (by decide) kt_) ?_
                show own_Go p e below s _ _ _ (T40.setTop (mkF m 419 #[.val (.int p0), .val (.int p1), .val (.int p2), .val (.int p3), .val (.int p4), .val (.int kv), .val (.int wr), .val (.int (((p4.toUInt32 >>> ((8 : Int32) &&& 31).toUInt32).toInt32).toInt8.toInt32)), .val (.ref ln), .unset] []))
                have hfin : ¬ own_P u kq p0 := fun q => own_at0 hc351 (q.2 3 (by decide))
                exact J419 T40 _ X40g e40 N40g   (hfin)
              · skip
                have hi351 : ¬ ((own_at (u (kq + 1 + 3)) (own_nib p0 (16 : Int32)))).toInt = 0 := fun q => hc351 (Int32.toInt_inj.mp q)
                refine own_go (fun t_ kt_ => XS.ifNo X40g.here hx rfl (hb hby at_351) rfl ((if0 _ _).trans (feq hc351).1) kt_) ?_
                show own_Go p e below s _ _ _ (T40.setTop (mkF m 354 #[.val (.int p0), .val (.int p1), .val (.int p2), .val (.int p3), .val (.int p4), .val (.int kv), .val (.int wr), .val (.int (((p4.toUInt32 >>> ((8 : Int32) &&& 31).toUInt32).toInt32).toInt8.toInt32)), .val (.ref ln), .unset] []))
                have he3 := own_at1 hc351
                refine own_go (fun t_ kt_ => XS.aload X40g.here hx rfl (hb hby at_354) rfl rfl kt_) ?_
                show own_Go p e below s _ _ _ (T40.setTop (mkF m 356 #[.val (.int p0), .val (.int p1), .val (.int p2), .val (.int p3), .val (.int p4), .val (.int kv), .val (.int wr), .val (.int (((p4.toUInt32 >>> ((8 : Int32) &&& 31).toUInt32).toInt32).toInt8.toInt32)), .val (.ref ln), .unset] [(.ref ln)]))
                refine own_go (fun t_ kt_ => XS.iload X40g.here hx rfl (hb hby at_356) rfl kt_) ?_
                show own_Go p e below s _ _ _ (T40.setTop (mkF m 358 #[.val (.int p0), .val (.int p1), .val (.int p2), .val (.int p3), .val (.int p4), .val (.int kv), .val (.int wr), .val (.int (((p4.toUInt32 >>> ((8 : Int32) &&& 31).toUInt32).toInt32).toInt8.toInt32)), .val (.ref ln), .unset] [(.int kv), (.ref ln)]))
                refine own_go (fun t_ kt_ => XS.iconst X40g.here hx rfl (hb hby at_358) kt_) ?_
                show own_Go p e below s _ _ _ (T40.setTop (mkF m 359 #[.val (.int p0), .val (.int p1), .val (.int p2), .val (.int p3), .val (.int p4), .val (.int kv), .val (.int wr), .val (.int (((p4.toUInt32 >>> ((8 : Int32) &&& 31).toUInt32).toInt32).toInt8.toInt32)), .val (.ref ln), .unset] [(.int (5 : Int32)), (.int kv), (.ref ln)]))
                refine own_go (fun t_ kt_ => XS.iadd X40g.here hx rfl (hb hby at_359) rfl kt_) ?_
                show own_Go p e below s _ _ _ (T40.setTop (mkF m 360 #[.val (.int p0), .val (.int p1), .val (.int p2), .val (.int p3), .val (.int p4), .val (.int kv), .val (.int wr), .val (.int (((p4.toUInt32 >>> ((8 : Int32) &&& 31).toUInt32).toInt32).toInt8.toInt32)), .val (.ref ln), .unset] [(.int (kv + (5 : Int32))), (.ref ln)]))
                refine own_go (fun t_ kt_ => XS.iloadN X40g.here hx rfl (hb hby at_360) rfl kt_) ?_
                show own_Go p e below s _ _ _ (T40.setTop (mkF m 361 #[.val (.int p0), .val (.int p1), .val (.int p2), .val (.int p3), .val (.int p4), .val (.int kv), .val (.int wr), .val (.int (((p4.toUInt32 >>> ((8 : Int32) &&& 31).toUInt32).toInt32).toInt8.toInt32)), .val (.ref ln), .unset] [(.int p0), (.int (kv + (5 : Int32))), (.ref ln)]))
                refine own_go (fun t_ kt_ => XS.bipush X40g.here hx rfl (hb hby at_361) kt_) ?_
                show own_Go p e below s _ _ _ (T40.setTop (mkF m 363 #[.val (.int p0), .val (.int p1), .val (.int p2), .val (.int p3), .val (.int p4), .val (.int kv), .val (.int wr), .val (.int (((p4.toUInt32 >>> ((8 : Int32) &&& 31).toUInt32).toInt32).toInt8.toInt32)), .val (.ref ln), .unset] [(.int (12 : Int32)), (.int p0), (.int (kv + (5 : Int32))), (.ref ln)]))
                obtain ⟨_, _, ⟨T41, L41, k41, n41⟩, -, X41, ⟨Lc41, hQ41, l41, y41, z41⟩, st41⟩ := Jvm.LawKit.callS X40g hx (y := (⟨"com/example/ledgerstrike/ledgerstrike/journal/JournalFormatSealedWithPinLaw", "at", "([BIII)Z"⟩ : MethodName)) hown (mvT hZ (hw _ (List.mem_of_getElem? (i := 6) rfl))) (mvT hZ (hw _ (List.mem_of_getElem? (i := 7) rfl))) (mvT hZ (hw _ (List.mem_of_getElem? (i := 3) rfl))) (mvT hZ (hw _ (List.mem_of_getElem? (i := 8) rfl))) (by decide) (backOf (W := 0) (rm2 l Z a0 hw [] (ln) ((kv + (5 : Int32))) (p0) ((12 : Int32)) (u) (kq + 1 + 4) h32 n0 F32_0 VU (by have := own_plus hkq (show (5 : Int32).toInt = ((5 : Nat) : Int) from by decide) (by omega); omega) (by omega)) hZ (hw _ (List.mem_of_getElem? (i := 8) rfl)) (hw _ (List.mem_of_getElem? (i := 3) rfl)) (by decide) (by decide)) (g := (mkF m 363 #[.val (.int p0), .val (.int p1), .val (.int p2), .val (.int p3), .val (.int p4), .val (.int kv), .val (.int wr), .val (.int (((p4.toUInt32 >>> ((8 : Int32) &&& 31).toUInt32).toInt32).toInt8.toInt32)), .val (.ref ln), .unset] [(.int (12 : Int32)), (.int p0), (.int (kv + (5 : Int32))), (.ref ln)])) rfl (by rw [hml]; rfl) (argsL := [(.ref ln), (.int (kv + (5 : Int32))), (.int p0), (.int (12 : Int32))]) (rest := []) (lenOf pd_2 rfl) rfl (by show 2 * 0 + _ ≤ _; exact Nat.le_of_eq rfl) (hb hby at_363) (fun _ _ => ⟨rfl, e40, (by decide : 1 + 0 ≤ _), (by decide : 12 + 0 ≤ _)⟩)
                dsimp only [Pt.U, Pt.locs, Pt.cells, Pt.slots] at X41 l41 y41 z41 st41 hQ41
                subst l41 y41 z41
                obtain ⟨rfl, Nq41, eh41⟩ := hQ41
                have N41 := Fr.app N40g Nq41
                refine own_go (fun t_ kt_ => st41 _ kt_) ?_
                obtain ⟨lo41, X41g, N41g⟩ : ∃ lo, Stand p l e room_1 s m #[(.int p0), (.int p1), (.int p2), (.int p3), (.int p4)] below meth c T41 lo 1 12 ∧ Fr n0 lo := ⟨_, X41, N41⟩
                have e41 : T41.heap = h32 := eh41
                show own_Go p e below s _ _ _ (T41.setTop (mkF m 366 #[.val (.int p0), .val (.int p1), .val (.int p2), .val (.int p3), .val (.int p4), .val (.int kv), .val (.int wr), .val (.int (((p4.toUInt32 >>> ((8 : Int32) &&& 31).toUInt32).toInt32).toInt8.toInt32)), .val (.ref ln), .unset] [(.int (own_at (u (kq + 1 + 4)) (own_nib p0 (12 : Int32))))]))
                by_cases hc366 : (own_at (u (kq + 1 + 4)) (own_nib p0 (12 : Int32))) = (0 : Int32)
                · skip
                  have hi366 : ((own_at (u (kq + 1 + 4)) (own_nib p0 (12 : Int32)))).toInt = 0 := congrArg Int32.toInt hc366
                  refine own_go (fun t_ kt_ => XS.ifYes X41g.here hx rfl (pc0 := 366) (pc' := 419) rfl (hb hby at_366) rfl ((if0 _ _).trans (teq hc366).1) (by decide) (by decide) kt_) ?_
                  show own_Go p e below s _ _ _ (T41.setTop (mkF m 419 #[.val (.int p0), .val (.int p1), .val (.int p2), .val (.int p3), .val (.int p4), .val (.int kv), .val (.int wr), .val (.int (((p4.toUInt32 >>> ((8 : Int32) &&& 31).toUInt32).toInt32).toInt8.toInt32)), .val (.ref ln), .unset] []))
                  have hfin : ¬ own_P u kq p0 := fun q => own_at0 hc366 (q.2 4 (by decide))
                  exact J419 T41 _ X41g e41 N41g   (hfin)
                · skip
                  have hi366 : ¬ ((own_at (u (kq + 1 + 4)) (own_nib p0 (12 : Int32)))).toInt = 0 := fun q => hc366 (Int32.toInt_inj.mp q)
                  refine own_go (fun t_ kt_ => XS.ifNo X41g.here hx rfl (hb hby at_366) rfl ((if0 _ _).trans (feq hc366).1) kt_) ?_
                  show own_Go p e below s _ _ _ (T41.setTop (mkF m 369 #[.val (.int p0), .val (.int p1), .val (.int p2), .val (.int p3), .val (.int p4), .val (.int kv), .val (.int wr), .val (.int (((p4.toUInt32 >>> ((8 : Int32) &&& 31).toUInt32).toInt32).toInt8.toInt32)), .val (.ref ln), .unset] []))
                  have he4 := own_at1 hc366
                  refine own_go (fun t_ kt_ => XS.aload X41g.here hx rfl (hb hby at_369) rfl rfl kt_) ?_
                  show own_Go p e below s _ _ _ (T41.setTop (mkF m 371 #[.val (.int p0), .val (.int p1), .val (.int p2), .val (.int p3), .val (.int p4), .val (.int kv), .val (.int wr), .val (.int (((p4.toUInt32 >>> ((8 : Int32) &&& 31).toUInt32).toInt32).toInt8.toInt32)), .val (.ref ln), .unset] [(.ref ln)]))
                  refine own_go (fun t_ kt_ => XS.iload X41g.here hx rfl (hb hby at_371) rfl kt_) ?_
                  show own_Go p e below s _ _ _ (T41.setTop (mkF m 373 #[.val (.int p0), .val (.int p1), .val (.int p2), .val (.int p3), .val (.int p4), .val (.int kv), .val (.int wr), .val (.int (((p4.toUInt32 >>> ((8 : Int32) &&& 31).toUInt32).toInt32).toInt8.toInt32)), .val (.ref ln), .unset] [(.int kv), (.ref ln)]))
                  refine own_go (fun t_ kt_ => XS.bipush X41g.here hx rfl (hb hby at_373) kt_) ?_
                  show own_Go p e below s _ _ _ (T41.setTop (mkF m 375 #[.val (.int p0), .val (.int p1), .val (.int p2), .val (.int p3), .val (.int p4), .val (.int kv), .val (.int wr), .val (.int (((p4.toUInt32 >>> ((8 : Int32) &&& 31).toUInt32).toInt32).toInt8.toInt32)), .val (.ref ln), .unset] [(.int (6 : Int32)), (.int kv), (.ref ln)]))
                  refine own_go (fun t_ kt_ => XS.iadd X41g.here hx rfl (hb hby at_375) rfl kt_) ?_
                  show own_Go p e below s _ _ _ (T41.setTop (mkF m 376 #[.val (.int p0), .val (.int p1), .val (.int p2), .val (.int p3), .val (.int p4), .val (.int kv), .val (.int wr), .val (.int (((p4.toUInt32 >>> ((8 : Int32) &&& 31).toUInt32).toInt32).toInt8.toInt32)), .val (.ref ln), .unset] [(.int (kv + (6 : Int32))), (.ref ln)]))
                  refine own_go (fun t_ kt_ => XS.iloadN X41g.here hx rfl (hb hby at_376) rfl kt_) ?_
                  show own_Go p e below s _ _ _ (T41.setTop (mkF m 377 #[.val (.int p0), .val (.int p1), .val (.int p2), .val (.int p3), .val (.int p4), .val (.int kv), .val (.int wr), .val (.int (((p4.toUInt32 >>> ((8 : Int32) &&& 31).toUInt32).toInt32).toInt8.toInt32)), .val (.ref ln), .unset] [(.int p0), (.int (kv + (6 : Int32))), (.ref ln)]))
                  refine own_go (fun t_ kt_ => XS.bipush X41g.here hx rfl (hb hby at_377) kt_) ?_
                  show own_Go p e below s _ _ _ (T41.setTop (mkF m 379 #[.val (.int p0), .val (.int p1), .val (.int p2), .val (.int p3), .val (.int p4), .val (.int kv), .val (.int wr), .val (.int (((p4.toUInt32 >>> ((8 : Int32) &&& 31).toUInt32).toInt32).toInt8.toInt32)), .val (.ref ln), .unset] [(.int (8 : Int32)), (.int p0), (.int (kv + (6 : Int32))), (.ref ln)]))
                  obtain ⟨_, _, ⟨T42, L42, k42, n42⟩, -, X42, ⟨Lc42, hQ42, l42, y42, z42⟩, st42⟩ := Jvm.LawKit.callS X41g hx (y := (⟨"com/example/ledgerstrike/ledgerstrike/journal/JournalFormatSealedWithPinLaw", "at", "([BIII)Z"⟩ : MethodName)) hown (mvT hZ (hw _ (List.mem_of_getElem? (i := 6) rfl))) (mvT hZ (hw _ (List.mem_of_getElem? (i := 7) rfl))) (mvT hZ (hw _ (List.mem_of_getElem? (i := 3) rfl))) (mvT hZ (hw _ (List.mem_of_getElem? (i := 8) rfl))) (by decide) (backOf (W := 0) (rm2 l Z a0 hw [] (ln) ((kv + (6 : Int32))) (p0) ((8 : Int32)) (u) (kq + 1 + 5) h32 n0 F32_0 VU (by have := own_plus hkq (show (6 : Int32).toInt = ((6 : Nat) : Int) from by decide) (by omega); omega) (by omega)) hZ (hw _ (List.mem_of_getElem? (i := 8) rfl)) (hw _ (List.mem_of_getElem? (i := 3) rfl)) (by decide) (by decide)) (g := (mkF m 379 #[.val (.int p0), .val (.int p1), .val (.int p2), .val (.int p3), .val (.int p4), .val (.int kv), .val (.int wr), .val (.int (((p4.toUInt32 >>> ((8 : Int32) &&& 31).toUInt32).toInt32).toInt8.toInt32)), .val (.ref ln), .unset] [(.int (8 : Int32)), (.int p0), (.int (kv + (6 : Int32))), (.ref ln)])) rfl (by rw [hml]; rfl) (argsL := [(.ref ln), (.int (kv + (6 : Int32))), (.int p0), (.int (8 : Int32))]) (rest := []) (lenOf pd_2 rfl) rfl (by show 2 * 0 + _ ≤ _; exact Nat.le_of_eq rfl) (hb hby at_379) (fun _ _ => ⟨rfl, e41, (by decide : 1 + 0 ≤ _), (by decide : 12 + 0 ≤ _)⟩)
                  dsimp only [Pt.U, Pt.locs, Pt.cells, Pt.slots] at X42 l42 y42 z42 st42 hQ42
                  subst l42 y42 z42
                  obtain ⟨rfl, Nq42, eh42⟩ := hQ42
                  have N42 := Fr.app N41g Nq42
                  refine own_go (fun t_ kt_ => st42 _ kt_) ?_
                  obtain ⟨lo42, X42g, N42g⟩ : ∃ lo, Stand p l e room_1 s m #[(.int p0), (.int p1), (.int p2), (.int p3), (.int p4)] below meth c T42 lo 1 12 ∧ Fr n0 lo := ⟨_, X42, N42⟩
                  have e42 : T42.heap = h32 := eh42
                  show own_Go p e below s _ _ _ (T42.setTop (mkF m 382 #[.val (.int p0), .val (.int p1), .val (.int p2), .val (.int p3), .val (.int p4), .val (.int kv), .val (.int wr), .val (.int (((p4.toUInt32 >>> ((8 : Int32) &&& 31).toUInt32).toInt32).toInt8.toInt32)), .val (.ref ln), .unset] [(.int (own_at (u (kq + 1 + 5)) (own_nib p0 (8 : Int32))))]))
                  by_cases hc382 : (own_at (u (kq + 1 + 5)) (own_nib p0 (8 : Int32))) = (0 : Int32)
                  · skip
                    have hi382 : ((own_at (u (kq + 1 + 5)) (own_nib p0 (8 : Int32)))).toInt = 0 := congrArg Int32.toInt hc382
                    refine own_go (fun t_ kt_ => XS.ifYes X42g.here hx rfl (pc0 := 382) (pc' := 419) rfl (hb hby at_382) rfl ((if0 _ _).trans (teq hc382).1) (by decide) (by decide) kt_) ?_
                    show own_Go p e below s _ _ _ (T42.setTop (mkF m 419 #[.val (.int p0), .val (.int p1), .val (.int p2), .val (.int p3), .val (.int p4), .val (.int kv), .val (.int wr), .val (.int (((p4.toUInt32 >>> ((8 : Int32) &&& 31).toUInt32).toInt32).toInt8.toInt32)), .val (.ref ln), .unset] []))
                    have hfin : ¬ own_P u kq p0 := fun q => own_at0 hc382 (q.2 5 (by decide))
                    exact J419 T42 _ X42g e42 N42g   (hfin)
                  · skip
                    have hi382 : ¬ ((own_at (u (kq + 1 + 5)) (own_nib p0 (8 : Int32)))).toInt = 0 := fun q => hc382 (Int32.toInt_inj.mp q)
                    refine own_go (fun t_ kt_ => XS.ifNo X42g.here hx rfl (hb hby at_382) rfl ((if0 _ _).trans (feq hc382).1) kt_) ?_
                    show own_Go p e below s _ _ _ (T42.setTop (mkF m 385 #[.val (.int p0), .val (.int p1), .val (.int p2), .val (.int p3), .val (.int p4), .val (.int kv), .val (.int wr), .val (.int (((p4.toUInt32 >>> ((8 : Int32) &&& 31).toUInt32).toInt32).toInt8.toInt32)), .val (.ref ln), .unset] []))
                    have he5 := own_at1 hc382
                    refine own_go (fun t_ kt_ => XS.aload X42g.here hx rfl (hb hby at_385) rfl rfl kt_) ?_
                    show own_Go p e below s _ _ _ (T42.setTop (mkF m 387 #[.val (.int p0), .val (.int p1), .val (.int p2), .val (.int p3), .val (.int p4), .val (.int kv), .val (.int wr), .val (.int (((p4.toUInt32 >>> ((8 : Int32) &&& 31).toUInt32).toInt32).toInt8.toInt32)), .val (.ref ln), .unset] [(.ref ln)]))
                    refine own_go (fun t_ kt_ => XS.iload X42g.here hx rfl (hb hby at_387) rfl kt_) ?_
                    show own_Go p e below s _ _ _ (T42.setTop (mkF m 389 #[.val (.int p0), .val (.int p1), .val (.int p2), .val (.int p3), .val (.int p4), .val (.int kv), .val (.int wr), .val (.int (((p4.toUInt32 >>> ((8 : Int32) &&& 31).toUInt32).toInt32).toInt8.toInt32)), .val (.ref ln), .unset] [(.int kv), (.ref ln)]))
                    refine own_go (fun t_ kt_ => XS.bipush X42g.here hx rfl (hb hby at_389) kt_) ?_
                    show own_Go p e below s _ _ _ (T42.setTop (mkF m 391 #[.val (.int p0), .val (.int p1), .val (.int p2), .val (.int p3), .val (.int p4), .val (.int kv), .val (.int wr), .val (.int (((p4.toUInt32 >>> ((8 : Int32) &&& 31).toUInt32).toInt32).toInt8.toInt32)), .val (.ref ln), .unset] [(.int (7 : Int32)), (.int kv), (.ref ln)]))
                    refine own_go (fun t_ kt_ => XS.iadd X42g.here hx rfl (hb hby at_391) rfl kt_) ?_
                    show own_Go p e below s _ _ _ (T42.setTop (mkF m 392 #[.val (.int p0), .val (.int p1), .val (.int p2), .val (.int p3), .val (.int p4), .val (.int kv), .val (.int wr), .val (.int (((p4.toUInt32 >>> ((8 : Int32) &&& 31).toUInt32).toInt32).toInt8.toInt32)), .val (.ref ln), .unset] [(.int (kv + (7 : Int32))), (.ref ln)]))
                    refine own_go (fun t_ kt_ => XS.iloadN X42g.here hx rfl (hb hby at_392) rfl kt_) ?_
                    show own_Go p e below s _ _ _ (T42.setTop (mkF m 393 #[.val (.int p0), .val (.int p1), .val (.int p2), .val (.int p3), .val (.int p4), .val (.int kv), .val (.int wr), .val (.int (((p4.toUInt32 >>> ((8 : Int32) &&& 31).toUInt32).toInt32).toInt8.toInt32)), .val (.ref ln), .unset] [(.int p0), (.int (kv + (7 : Int32))), (.ref ln)]))
                    refine own_go (fun t_ kt_ => XS.iconst X42g.here hx rfl (hb hby at_393) kt_) ?_
                    show own_Go p e below s _ _ _ (T42.setTop (mkF m 394 #[.val (.int p0), .val (.int p1), .val (.int p2), .val (.int p3), .val (.int p4), .val (.int kv), .val (.int wr), .val (.int (((p4.toUInt32 >>> ((8 : Int32) &&& 31).toUInt32).toInt32).toInt8.toInt32)), .val (.ref ln), .unset] [(.int (4 : Int32)), (.int p0), (.int (kv + (7 : Int32))), (.ref ln)]))
                    obtain ⟨_, _, ⟨T43, L43, k43, n43⟩, -, X43, ⟨Lc43, hQ43, l43, y43, z43⟩, st43⟩ := Jvm.LawKit.callS X42g hx (y := (⟨"com/example/ledgerstrike/ledgerstrike/journal/JournalFormatSealedWithPinLaw", "at", "([BIII)Z"⟩ : MethodName)) hown (mvT hZ (hw _ (List.mem_of_getElem? (i := 6) rfl))) (mvT hZ (hw _ (List.mem_of_getElem? (i := 7) rfl))) (mvT hZ (hw _ (List.mem_of_getElem? (i := 3) rfl))) (mvT hZ (hw _ (List.mem_of_getElem? (i := 8) rfl))) (by decide) (backOf (W := 0) (rm2 l Z a0 hw [] (ln) ((kv + (7 : Int32))) (p0) ((4 : Int32)) (u) (kq + 1 + 6) h32 n0 F32_0 VU (by have := own_plus hkq (show (7 : Int32).toInt = ((7 : Nat) : Int) from by decide) (by omega); omega) (by omega)) hZ (hw _ (List.mem_of_getElem? (i := 8) rfl)) (hw _ (List.mem_of_getElem? (i := 3) rfl)) (by decide) (by decide)) (g := (mkF m 394 #[.val (.int p0), .val (.int p1), .val (.int p2), .val (.int p3), .val (.int p4), .val (.int kv), .val (.int wr), .val (.int (((p4.toUInt32 >>> ((8 : Int32) &&& 31).toUInt32).toInt32).toInt8.toInt32)), .val (.ref ln), .unset] [(.int (4 : Int32)), (.int p0), (.int (kv + (7 : Int32))), (.ref ln)])) rfl (by rw [hml]; rfl) (argsL := [(.ref ln), (.int (kv + (7 : Int32))), (.int p0), (.int (4 : Int32))]) (rest := []) (lenOf pd_2 rfl) rfl (by show 2 * 0 + _ ≤ _; exact Nat.le_of_eq rfl) (hb hby at_394) (fun _ _ => ⟨rfl, e42, (by decide : 1 + 0 ≤ _), (by decide : 12 + 0 ≤ _)⟩)
                    dsimp only [Pt.U, Pt.locs, Pt.cells, Pt.slots] at X43 l43 y43 z43 st43 hQ43
                    subst l43 y43 z43
                    obtain ⟨rfl, Nq43, eh43⟩ := hQ43
                    have N43 := Fr.app N42g Nq43
                    refine own_go (fun t_ kt_ => st43 _ kt_) ?_
                    obtain ⟨lo43, X43g, N43g⟩ : ∃ lo, Stand p l e room_1 s m #[(.int p0), (.int p1), (.int p2), (.int p3), (.int p4)] below meth c T43 lo 1 12 ∧ Fr n0 lo := ⟨_, X43, N43⟩
                    have e43 : T43.heap = h32 := eh43
                    show own_Go p e below s _ _ _ (T43.setTop (mkF m 397 #[.val (.int p0), .val (.int p1), .val (.int p2), .val (.int p3), .val (.int p4), .val (.int kv), .val (.int wr), .val (.int (((p4.toUInt32 >>> ((8 : Int32) &&& 31).toUInt32).toInt32).toInt8.toInt32)), .val (.ref ln), .unset] [(.int (own_at (u (kq + 1 + 6)) (own_nib p0 (4 : Int32))))]))
                    by_cases hc397 : (own_at (u (kq + 1 + 6)) (own_nib p0 (4 : Int32))) = (0 : Int32)
                    · skip
                      have hi397 : ((own_at (u (kq + 1 + 6)) (own_nib p0 (4 : Int32)))).toInt = 0 := congrArg Int32.toInt hc397
                      refine own_go (fun t_ kt_ => XS.ifYes X43g.here hx rfl (pc0 := 397) (pc' := 419) rfl (hb hby at_397) rfl ((if0 _ _).trans (teq hc397).1) (by decide) (by decide) kt_) ?_
                      show own_Go p e below s _ _ _ (T43.setTop (mkF m 419 #[.val (.int p0), .val (.int p1), .val (.int p2), .val (.int p3), .val (.int p4), .val (.int kv), .val (.int wr), .val (.int (((p4.toUInt32 >>> ((8 : Int32) &&& 31).toUInt32).toInt32).toInt8.toInt32)), .val (.ref ln), .unset] []))
                      have hfin : ¬ own_P u kq p0 := fun q => own_at0 hc397 (q.2 6 (by decide))
                      exact J419 T43 _ X43g e43 N43g   (hfin)
                    · skip
                      have hi397 : ¬ ((own_at (u (kq + 1 + 6)) (own_nib p0 (4 : Int32)))).toInt = 0 := fun q => hc397 (Int32.toInt_inj.mp q)
                      refine own_go (fun t_ kt_ => XS.ifNo X43g.here hx rfl (hb hby at_397) rfl ((if0 _ _).trans (feq hc397).1) kt_) ?_
                      show own_Go p e below s _ _ _ (T43.setTop (mkF m 400 #[.val (.int p0), .val (.int p1), .val (.int p2), .val (.int p3), .val (.int p4), .val (.int kv), .val (.int wr), .val (.int (((p4.toUInt32 >>> ((8 : Int32) &&& 31).toUInt32).toInt32).toInt8.toInt32)), .val (.ref ln), .unset] []))
                      have he6 := own_at1 hc397
                      refine own_go (fun t_ kt_ => XS.aload X43g.here hx rfl (hb hby at_400) rfl rfl kt_) ?_
                      show own_Go p e below s _ _ _ (T43.setTop (mkF m 402 #[.val (.int p0), .val (.int p1), .val (.int p2), .val (.int p3), .val (.int p4), .val (.int kv), .val (.int wr), .val (.int (((p4.toUInt32 >>> ((8 : Int32) &&& 31).toUInt32).toInt32).toInt8.toInt32)), .val (.ref ln), .unset] [(.ref ln)]))
                      refine own_go (fun t_ kt_ => XS.iload X43g.here hx rfl (hb hby at_402) rfl kt_) ?_
                      show own_Go p e below s _ _ _ (T43.setTop (mkF m 404 #[.val (.int p0), .val (.int p1), .val (.int p2), .val (.int p3), .val (.int p4), .val (.int kv), .val (.int wr), .val (.int (((p4.toUInt32 >>> ((8 : Int32) &&& 31).toUInt32).toInt32).toInt8.toInt32)), .val (.ref ln), .unset] [(.int kv), (.ref ln)]))
                      refine own_go (fun t_ kt_ => XS.bipush X43g.here hx rfl (hb hby at_404) kt_) ?_
                      show own_Go p e below s _ _ _ (T43.setTop (mkF m 406 #[.val (.int p0), .val (.int p1), .val (.int p2), .val (.int p3), .val (.int p4), .val (.int kv), .val (.int wr), .val (.int (((p4.toUInt32 >>> ((8 : Int32) &&& 31).toUInt32).toInt32).toInt8.toInt32)), .val (.ref ln), .unset] [(.int (8 : Int32)), (.int kv), (.ref ln)]))
                      refine own_go (fun t_ kt_ => XS.iadd X43g.here hx rfl (hb hby at_406) rfl kt_) ?_
                      show own_Go p e below s _ _ _ (T43.setTop (mkF m 407 #[.val (.int p0), .val (.int p1), .val (.int p2), .val (.int p3), .val (.int p4), .val (.int kv), .val (.int wr), .val (.int (((p4.toUInt32 >>> ((8 : Int32) &&& 31).toUInt32).toInt32).toInt8.toInt32)), .val (.ref ln), .unset] [(.int (kv + (8 : Int32))), (.ref ln)]))
                      refine own_go (fun t_ kt_ => XS.iloadN X43g.here hx rfl (hb hby at_407) rfl kt_) ?_
                      show own_Go p e below s _ _ _ (T43.setTop (mkF m 408 #[.val (.int p0), .val (.int p1), .val (.int p2), .val (.int p3), .val (.int p4), .val (.int kv), .val (.int wr), .val (.int (((p4.toUInt32 >>> ((8 : Int32) &&& 31).toUInt32).toInt32).toInt8.toInt32)), .val (.ref ln), .unset] [(.int p0), (.int (kv + (8 : Int32))), (.ref ln)]))
                      refine own_go (fun t_ kt_ => XS.iconst X43g.here hx rfl (hb hby at_408) kt_) ?_
                      show own_Go p e below s _ _ _ (T43.setTop (mkF m 409 #[.val (.int p0), .val (.int p1), .val (.int p2), .val (.int p3), .val (.int p4), .val (.int kv), .val (.int wr), .val (.int (((p4.toUInt32 >>> ((8 : Int32) &&& 31).toUInt32).toInt32).toInt8.toInt32)), .val (.ref ln), .unset] [(.int (0 : Int32)), (.int p0), (.int (kv + (8 : Int32))), (.ref ln)]))
                      obtain ⟨_, _, ⟨T44, L44, k44, n44⟩, -, X44, ⟨Lc44, hQ44, l44, y44, z44⟩, st44⟩ := Jvm.LawKit.callS X43g hx (y := (⟨"com/example/ledgerstrike/ledgerstrike/journal/JournalFormatSealedWithPinLaw", "at", "([BIII)Z"⟩ : MethodName)) hown (mvT hZ (hw _ (List.mem_of_getElem? (i := 6) rfl))) (mvT hZ (hw _ (List.mem_of_getElem? (i := 7) rfl))) (mvT hZ (hw _ (List.mem_of_getElem? (i := 3) rfl))) (mvT hZ (hw _ (List.mem_of_getElem? (i := 8) rfl))) (by decide) (backOf (W := 0) (rm2 l Z a0 hw [] (ln) ((kv + (8 : Int32))) (p0) ((0 : Int32)) (u) (kq + 1 + 7) h32 n0 F32_0 VU (by have := own_plus hkq (show (8 : Int32).toInt = ((8 : Nat) : Int) from by decide) (by omega); omega) (by omega)) hZ (hw _ (List.mem_of_getElem? (i := 8) rfl)) (hw _ (List.mem_of_getElem? (i := 3) rfl)) (by decide) (by decide)) (g := (mkF m 409 #[.val (.int p0), .val (.int p1), .val (.int p2), .val (.int p3), .val (.int p4), .val (.int kv), .val (.int wr), .val (.int (((p4.toUInt32 >>> ((8 : Int32) &&& 31).toUInt32).toInt32).toInt8.toInt32)), .val (.ref ln), .unset] [(.int (0 : Int32)), (.int p0), (.int (kv + (8 : Int32))), (.ref ln)])) rfl (by rw [hml]; rfl) (argsL := [(.ref ln), (.int (kv + (8 : Int32))), (.int p0), (.int (0 : Int32))]) (rest := []) (lenOf pd_2 rfl) rfl (by show 2 * 0 + _ ≤ _; exact Nat.le_of_eq rfl) (hb hby at_409) (fun _ _ => ⟨rfl, e43, (by decide : 1 + 0 ≤ _), (by decide : 12 + 0 ≤ _)⟩)
                      dsimp only [Pt.U, Pt.locs, Pt.cells, Pt.slots] at X44 l44 y44 z44 st44 hQ44
                      subst l44 y44 z44
                      obtain ⟨rfl, Nq44, eh44⟩ := hQ44
                      have N44 := Fr.app N43g Nq44
                      refine own_go (fun t_ kt_ => st44 _ kt_) ?_
                      obtain ⟨lo44, X44g, N44g⟩ : ∃ lo, Stand p l e room_1 s m #[(.int p0), (.int p1), (.int p2), (.int p3), (.int p4)] below meth c T44 lo 1 12 ∧ Fr n0 lo := ⟨_, X44, N44⟩
                      have e44 : T44.heap = h32 := eh44
                      show own_Go p e below s _ _ _ (T44.setTop (mkF m 412 #[.val (.int p0), .val (.int p1), .val (.int p2), .val (.int p3), .val (.int p4), .val (.int kv), .val (.int wr), .val (.int (((p4.toUInt32 >>> ((8 : Int32) &&& 31).toUInt32).toInt32).toInt8.toInt32)), .val (.ref ln), .unset] [(.int (own_at (u (kq + 1 + 7)) (own_nib p0 (0 : Int32))))]))
                      by_cases hc412 : (own_at (u (kq + 1 + 7)) (own_nib p0 (0 : Int32))) = (0 : Int32)
                      · skip
                        have hi412 : ((own_at (u (kq + 1 + 7)) (own_nib p0 (0 : Int32)))).toInt = 0 := congrArg Int32.toInt hc412
                        refine own_go (fun t_ kt_ => XS.ifYes X44g.here hx rfl (pc0 := 412) (pc' := 419) rfl (hb hby at_412) rfl ((if0 _ _).trans (teq hc412).1) (by decide) (by decide) kt_) ?_
                        show own_Go p e below s _ _ _ (T44.setTop (mkF m 419 #[.val (.int p0), .val (.int p1), .val (.int p2), .val (.int p3), .val (.int p4), .val (.int kv), .val (.int wr), .val (.int (((p4.toUInt32 >>> ((8 : Int32) &&& 31).toUInt32).toInt32).toInt8.toInt32)), .val (.ref ln), .unset] []))
                        have hfin : ¬ own_P u kq p0 := fun q => own_at0 hc412 (q.2 7 (by decide))
                        exact J419 T44 _ X44g e44 N44g   (hfin)
                      · skip
                        have hi412 : ¬ ((own_at (u (kq + 1 + 7)) (own_nib p0 (0 : Int32)))).toInt = 0 := fun q => hc412 (Int32.toInt_inj.mp q)
                        refine own_go (fun t_ kt_ => XS.ifNo X44g.here hx rfl (hb hby at_412) rfl ((if0 _ _).trans (feq hc412).1) kt_) ?_
                        show own_Go p e below s _ _ _ (T44.setTop (mkF m 415 #[.val (.int p0), .val (.int p1), .val (.int p2), .val (.int p3), .val (.int p4), .val (.int kv), .val (.int wr), .val (.int (((p4.toUInt32 >>> ((8 : Int32) &&& 31).toUInt32).toInt32).toInt8.toInt32)), .val (.ref ln), .unset] []))
                        have he7 := own_at1 hc412
                        have hfin : own_P u kq p0 := ⟨hc291, own_all8 he0 he1 he2 he3 he4 he5 he6 he7⟩
                        refine own_go (fun t_ kt_ => XS.iconst X44g.here hx rfl (hb hby at_415) kt_) ?_
                        show own_Go p e below s _ _ _ (T44.setTop (mkF m 416 #[.val (.int p0), .val (.int p1), .val (.int p2), .val (.int p3), .val (.int p4), .val (.int kv), .val (.int wr), .val (.int (((p4.toUInt32 >>> ((8 : Int32) &&& 31).toUInt32).toInt32).toInt8.toInt32)), .val (.ref ln), .unset] [(.int (1 : Int32))]))
                        refine own_go (fun t_ kt_ => XS.goto X44g.here hx rfl (pc0 := 416) (pc' := 420) rfl (hb hby at_416) (by decide) (by decide) kt_) ?_
                        show own_Go p e below s _ _ _ (T44.setTop (mkF m 420 #[.val (.int p0), .val (.int p1), .val (.int p2), .val (.int p3), .val (.int p4), .val (.int kv), .val (.int wr), .val (.int (((p4.toUInt32 >>> ((8 : Int32) &&& 31).toUInt32).toInt32).toInt8.toInt32)), .val (.ref ln), .unset] [(.int (1 : Int32))]))
                        exact J420 T44 _ X44g e44 N44g ((1 : Int32))  (by first | exact Or.inl ⟨rfl, hfin⟩ | exact Or.inr ⟨rfl, hfin⟩)
      · skip
        have hi291 : ¬ ((u kq)).toInt = 44 := fun q => hc291 (Int32.toInt_inj.mp q)
        refine own_go (fun t_ kt_ => XS.icmpYes X32.here hx rfl (pc0 := 291) (pc' := 419) rfl (hb hby at_291) rfl (feq hc291).2 (by decide) (by decide) kt_) ?_
        show own_Go p e below s _ _ _ (T32.setTop (mkF m 419 #[.val (.int p0), .val (.int p1), .val (.int p2), .val (.int p3), .val (.int p4), .val (.int kv), .val (.int wr), .val (.int (((p4.toUInt32 >>> ((8 : Int32) &&& 31).toUInt32).toInt32).toInt8.toInt32)), .val (.ref ln), .unset] []))
        have hfin : ¬ own_P u kq p0 := fun q => hc291 q.1
        exact J419 T32 _ X32 e32 N32   (hfin)
    refine own_go (fun t_ kt_ => XS.iloadN X31g.here hx rfl (hb hby at_262) rfl kt_) ?_
    show own_Go p e below s _ _ _ (T31.setTop (mkF m 263 #[.val (.int p0), .val (.int p1), .val (.int p2), .val (.int p3), .val (.int p4), .val (.int kv), .val (.int wr), .val (.int (((p4.toUInt32 >>> ((8 : Int32) &&& 31).toUInt32).toInt32).toInt8.toInt32)), .val (.ref ln), .unset] [(.int p2)]))
    refine own_go (fun t_ kt_ => XS.iconst X31g.here hx rfl (hb hby at_263) kt_) ?_
    show own_Go p e below s _ _ _ (T31.setTop (mkF m 264 #[.val (.int p0), .val (.int p1), .val (.int p2), .val (.int p3), .val (.int p4), .val (.int kv), .val (.int wr), .val (.int (((p4.toUInt32 >>> ((8 : Int32) &&& 31).toUInt32).toInt32).toInt8.toInt32)), .val (.ref ln), .unset] [(.int (2 : Int32)), (.int p2)]))
    refine own_go (fun t_ kt_ => XS.iand X31g.here hx rfl (hb hby at_264) rfl kt_) ?_
    show own_Go p e below s _ _ _ (T31.setTop (mkF m 265 #[.val (.int p0), .val (.int p1), .val (.int p2), .val (.int p3), .val (.int p4), .val (.int kv), .val (.int wr), .val (.int (((p4.toUInt32 >>> ((8 : Int32) &&& 31).toUInt32).toInt32).toInt8.toInt32)), .val (.ref ln), .unset] [(.int (p2 &&& (2 : Int32)))]))
    by_cases hc265 : (p2 &&& (2 : Int32)) = (0 : Int32)
    · skip
      have hi265 : ((p2 &&& (2 : Int32))).toInt = 0 := congrArg Int32.toInt hc265
      refine own_go (fun t_ kt_ => XS.ifYes X31g.here hx rfl (pc0 := 265) (pc' := 284) rfl (hb hby at_265) rfl ((if0 _ _).trans (teq hc265).1) (by decide) (by decide) kt_) ?_
      show own_Go p e below s _ _ _ (T31.setTop (mkF m 284 #[.val (.int p0), .val (.int p1), .val (.int p2), .val (.int p3), .val (.int p4), .val (.int kv), .val (.int wr), .val (.int (((p4.toUInt32 >>> ((8 : Int32) &&& 31).toUInt32).toInt32).toInt8.toInt32)), .val (.ref ln), .unset] []))
      exact J284 T31 _ X31g h31 e31 N31g (f0) ZZ_31 VF0 S_HEX_VALUES_31 VH_31 (by repeat (first | exact own_by0 | exact hf0 | apply own_by1))
    · skip
      have hi265 : ¬ ((p2 &&& (2 : Int32))).toInt = 0 := fun q => hc265 (Int32.toInt_inj.mp q)
      refine own_go (fun t_ kt_ => XS.ifNo X31g.here hx rfl (hb hby at_265) rfl ((if0 _ _).trans (feq hc265).1) kt_) ?_
      show own_Go p e below s _ _ _ (T31.setTop (mkF m 268 #[.val (.int p0), .val (.int p1), .val (.int p2), .val (.int p3), .val (.int p4), .val (.int kv), .val (.int wr), .val (.int (((p4.toUInt32 >>> ((8 : Int32) &&& 31).toUInt32).toInt32).toInt8.toInt32)), .val (.ref ln), .unset] []))
      refine own_go (fun t_ kt_ => XS.aload X31g.here hx rfl (hb hby at_268) rfl rfl kt_) ?_
      show own_Go p e below s _ _ _ (T31.setTop (mkF m 270 #[.val (.int p0), .val (.int p1), .val (.int p2), .val (.int p3), .val (.int p4), .val (.int kv), .val (.int wr), .val (.int (((p4.toUInt32 >>> ((8 : Int32) &&& 31).toUInt32).toInt32).toInt8.toInt32)), .val (.ref ln), .unset] [(.ref ln)]))
      refine own_go (fun t_ kt_ => XS.iload X31g.here hx rfl (hb hby at_270) rfl kt_) ?_
      show own_Go p e below s _ _ _ (T31.setTop (mkF m 272 #[.val (.int p0), .val (.int p1), .val (.int p2), .val (.int p3), .val (.int p4), .val (.int kv), .val (.int wr), .val (.int (((p4.toUInt32 >>> ((8 : Int32) &&& 31).toUInt32).toInt32).toInt8.toInt32)), .val (.ref ln), .unset] [(.int kv), (.ref ln)]))
      refine own_go (fun t_ kt_ => XS.iloadN X31g.here hx rfl (hb hby at_272) rfl kt_) ?_
      show own_Go p e below s _ _ _ (T31.setTop (mkF m 273 #[.val (.int p0), .val (.int p1), .val (.int p2), .val (.int p3), .val (.int p4), .val (.int kv), .val (.int wr), .val (.int (((p4.toUInt32 >>> ((8 : Int32) &&& 31).toUInt32).toInt32).toInt8.toInt32)), .val (.ref ln), .unset] [(.int p3), (.int kv), (.ref ln)]))
      refine own_go (fun t_ kt_ => X31g.ldcInt hx hown (mvT hZ (hw _ (List.mem_of_getElem? (i := 5) rfl))) (g := (mkF m 273 #[.val (.int p0), .val (.int p1), .val (.int p2), .val (.int p3), .val (.int p4), .val (.int kv), .val (.int wr), .val (.int (((p4.toUInt32 >>> ((8 : Int32) &&& 31).toUInt32).toInt32).toInt8.toInt32)), .val (.ref ln), .unset] [(.int p3), (.int kv), (.ref ln)])) rfl (hb hby at_273) _ kt_) ?_
      show own_Go p e below s _ _ _ (T31.setTop (mkF m 275 #[.val (.int p0), .val (.int p1), .val (.int p2), .val (.int p3), .val (.int p4), .val (.int kv), .val (.int wr), .val (.int (((p4.toUInt32 >>> ((8 : Int32) &&& 31).toUInt32).toInt32).toInt8.toInt32)), .val (.ref ln), .unset] [(.int (2147483647 : Int32)), (.int p3), (.int kv), (.ref ln)]))
      refine own_go (fun t_ kt_ => XS.iand X31g.here hx rfl (hb hby at_275) rfl kt_) ?_
      show own_Go p e below s _ _ _ (T31.setTop (mkF m 276 #[.val (.int p0), .val (.int p1), .val (.int p2), .val (.int p3), .val (.int p4), .val (.int kv), .val (.int wr), .val (.int (((p4.toUInt32 >>> ((8 : Int32) &&& 31).toUInt32).toInt32).toInt8.toInt32)), .val (.ref ln), .unset] [(.int (p3 &&& (2147483647 : Int32))), (.int kv), (.ref ln)]))
      refine own_go (fun t_ kt_ => XS.bipush X31g.here hx rfl (hb hby at_276) kt_) ?_
      show own_Go p e below s _ _ _ (T31.setTop (mkF m 278 #[.val (.int p0), .val (.int p1), .val (.int p2), .val (.int p3), .val (.int p4), .val (.int kv), .val (.int wr), .val (.int (((p4.toUInt32 >>> ((8 : Int32) &&& 31).toUInt32).toInt32).toInt8.toInt32)), .val (.ref ln), .unset] [(.int (9 : Int32)), (.int (p3 &&& (2147483647 : Int32))), (.int kv), (.ref ln)]))
      refine own_go (fun t_ kt_ => iremM X31g hx rfl (hb hby at_278) rfl (by decide) kt_) ?_
      show own_Go p e below s _ _ _ (T31.setTop (mkF m 279 #[.val (.int p0), .val (.int p1), .val (.int p2), .val (.int p3), .val (.int p4), .val (.int kv), .val (.int wr), .val (.int (((p4.toUInt32 >>> ((8 : Int32) &&& 31).toUInt32).toInt32).toInt8.toInt32)), .val (.ref ln), .unset] [(.int ((p3 &&& (2147483647 : Int32)) % (9 : Int32))), (.int kv), (.ref ln)]))
      refine own_go (fun t_ kt_ => XS.iadd X31g.here hx rfl (hb hby at_279) rfl kt_) ?_
      show own_Go p e below s _ _ _ (T31.setTop (mkF m 280 #[.val (.int p0), .val (.int p1), .val (.int p2), .val (.int p3), .val (.int p4), .val (.int kv), .val (.int wr), .val (.int (((p4.toUInt32 >>> ((8 : Int32) &&& 31).toUInt32).toInt32).toInt8.toInt32)), .val (.ref ln), .unset] [(.int (kv + ((p3 &&& (2147483647 : Int32)) % (9 : Int32)))), (.ref ln)]))
      refine own_go (fun t_ kt_ => XS.iload X31g.here hx rfl (hb hby at_280) rfl kt_) ?_
      show own_Go p e below s _ _ _ (T31.setTop (mkF m 282 #[.val (.int p0), .val (.int p1), .val (.int p2), .val (.int p3), .val (.int p4), .val (.int kv), .val (.int wr), .val (.int (((p4.toUInt32 >>> ((8 : Int32) &&& 31).toUInt32).toInt32).toInt8.toInt32)), .val (.ref ln), .unset] [(.int p4), (.int (kv + ((p3 &&& (2147483647 : Int32)) % (9 : Int32)))), (.ref ln)]))
      refine own_go (fun t_ kt_ => XS.i2b X31g.here hx rfl (hb hby at_282) rfl kt_) ?_
      show own_Go p e below s _ _ _ (T31.setTop (mkF m 283 #[.val (.int p0), .val (.int p1), .val (.int p2), .val (.int p3), .val (.int p4), .val (.int kv), .val (.int wr), .val (.int (((p4.toUInt32 >>> ((8 : Int32) &&& 31).toUInt32).toInt32).toInt8.toInt32)), .val (.ref ln), .unset] [(.int (p4.toInt8.toInt32)), (.int (kv + ((p3 &&& (2147483647 : Int32)) % (9 : Int32)))), (.ref ln)]))
      obtain ⟨pq, hpq, hp8⟩ := own_pos p3
      obtain ⟨ce45, Ar45, S45, G45⟩ := id VF0
      obtain ⟨T45, h45, X45, e45, W45, st45⟩ := stB X31g hx hZ e31 Ar45 (j := (kv + ((p3 &&& (2147483647 : Int32)) % (9 : Int32)))) (own_in (i := (kq + pq)) S45 (own_plus hkq hpq (by omega)) (by omega)) (g := (mkF m 283 #[.val (.int p0), .val (.int p1), .val (.int p2), .val (.int p3), .val (.int p4), .val (.int kv), .val (.int wr), .val (.int (((p4.toUInt32 >>> ((8 : Int32) &&& 31).toUInt32).toInt32).toInt8.toInt32)), .val (.ref ln), .unset] [(.int (p4.toInt8.toInt32)), (.int (kv + ((p3 &&& (2147483647 : Int32)) % (9 : Int32)))), (.ref ln)])) rfl rfl (hb hby at_283)
      rw [own_cl (j := (kv + ((p3 &&& (2147483647 : Int32)) % (9 : Int32)))) (i := (kq + pq)) (own_plus hkq hpq (by omega))] at W45 X45
      refine own_go (fun t_ kt_ => st45 _ kt_) ?_
      have N45 := Fr.snoc X45 N31g gt_ln
      obtain ⟨lo45, X45g, N45g⟩ : ∃ lo, Stand p l e room_1 s m #[(.int p0), (.int p1), (.int p2), (.int p3), (.int p4)] below meth c T45 lo 1 12 ∧ Fr n0 lo := ⟨_, X45, N45⟩
      have ZZ_45 : n0 ≤ h45.size := Nat.le_trans ZZ_31 (Nat.le_of_eq W45.size.symm)
      have S_HEX_VALUES_45 : Sta Z h45 "com/example/ledgerstrike/ledgerstrike/journal/JournalFormat" "HEX_VALUES" "[B" (.ref hxa) := S_HEX_VALUES_31.wr W45
      have VH_45 : own_Ary Z h45 hxa .byte 256 (fun j => .int (own_hv j)) := VH_31.other W45 ne_hxa_ln
      have V_ln_45 : own_Ary Z h45 ln .byte 12 (own_set f0 (kq + pq) (.int (nar .byte (p4.toInt8.toInt32)))) := own_Ary.set Ar45 S45 G45 W45
      show own_Go p e below s _ _ _ (T45.setTop (mkF m 284 #[.val (.int p0), .val (.int p1), .val (.int p2), .val (.int p3), .val (.int p4), .val (.int kv), .val (.int wr), .val (.int (((p4.toUInt32 >>> ((8 : Int32) &&& 31).toUInt32).toInt32).toInt8.toInt32)), .val (.ref ln), .unset] []))
      exact J284 T45 _ X45g h45 e45 N45g ((own_set f0 (kq + pq) (.int (nar .byte (p4.toInt8.toInt32))))) ZZ_45 V_ln_45 S_HEX_VALUES_45 VH_45 (by repeat (first | exact own_by0 | exact hf0 | apply own_by1))
  by_cases hc10 : (p2 &&& (1 : Int32)) = (0 : Int32)
  · skip
    have hi10 : ((p2 &&& (1 : Int32))).toInt = 0 := congrArg Int32.toInt hc10
    refine own_go (fun t_ kt_ => XS.ifYes X0.here hx rfl (pc0 := 10) (pc' := 17) rfl (hb hby at_10) rfl ((if0 _ _).trans (teq hc10).1) (by decide) (by decide) kt_) ?_
    show own_Go p e below s _ _ _ (s₁.setTop (mkF m 17 #[.val (.int p0), .val (.int p1), .val (.int p2), .val (.int p3), .val (.int p4), .val (.int kv), .unset, .unset, .unset, .unset] []))
    refine own_go (fun t_ kt_ => XS.iloadN X0.here hx rfl (hb hby at_17) rfl kt_) ?_
    show own_Go p e below s _ _ _ (s₁.setTop (mkF m 18 #[.val (.int p0), .val (.int p1), .val (.int p2), .val (.int p3), .val (.int p4), .val (.int kv), .unset, .unset, .unset, .unset] [(.int p1)]))
    exact J18 s₁ _ X0 e0 N0 (p1)  
  · skip
    have hi10 : ¬ ((p2 &&& (1 : Int32))).toInt = 0 := fun q => hc10 (Int32.toInt_inj.mp q)
    refine own_go (fun t_ kt_ => XS.ifNo X0.here hx rfl (hb hby at_10) rfl ((if0 _ _).trans (feq hc10).1) kt_) ?_
    show own_Go p e below s _ _ _ (s₁.setTop (mkF m 13 #[.val (.int p0), .val (.int p1), .val (.int p2), .val (.int p3), .val (.int p4), .val (.int kv), .unset, .unset, .unset, .unset] []))
    refine own_go (fun t_ kt_ => XS.iloadN X0.here hx rfl (hb hby at_13) rfl kt_) ?_
    show own_Go p e below s _ _ _ (s₁.setTop (mkF m 14 #[.val (.int p0), .val (.int p1), .val (.int p2), .val (.int p3), .val (.int p4), .val (.int kv), .unset, .unset, .unset, .unset] [(.int p0)]))
    refine own_go (fun t_ kt_ => XS.goto X0.here hx rfl (pc0 := 14) (pc' := 18) rfl (hb hby at_14) (by decide) (by decide) kt_) ?_
    show own_Go p e below s _ _ _ (s₁.setTop (mkF m 18 #[.val (.int p0), .val (.int p1), .val (.int p2), .val (.int p3), .val (.int p4), .val (.int kv), .unset, .unset, .unset, .unset] [(.int p0)]))
    exact J18 s₁ _ X0 e0 N0 (p0)  
set_option maxRecDepth 65536 in
set_option maxHeartbeats 40000000 in
theorem comes_1 {Post : Tables → Env → Array Value → State → Outcome → State → Prop} (hpost : ∀ tb e args s v u, (limb_1_1.after args s (.returned v) u = true ∧ limb_1_2.after args s (.returned v) u = true ∧ True) → FrameEnd s (.returned v) u (Jvm.fieldLocs frame_1_writes args s ++ Jvm.arrayLocs frame_1_arrays args s ++ Jvm.staticLocs frame_1_statics s) 16 128 → Post tb e args s (.returned v) u) :
    ArmFor flags0 classFile x code maxLocals ret World_1 tables_1 room_1 Calls_1 rest_1 Pre_1 Post := by
  intro l hfl _ _ p e ha hc hk s m args below hf hA hF happ hP
  obtain ⟨hcalls, hrest, hpre⟩ := hP
  obtain ⟨-, -, -, hnamed, -, -, -, hat⟩ := (Spec.applies_iff hf).mp happ
  obtain ⟨hg, hn⟩ := and_e (Cond.before_iff.mp (show (Jvm.Cond.and given_1 narrow_1).before args s = true from hpre))
  obtain ⟨g1, g2⟩ := and_e hg
  obtain ⟨g3, g4⟩ := and_e g2
  obtain ⟨g5, g6⟩ := and_e g4
  obtain ⟨g7, g8⟩ := and_e g6
  obtain ⟨g9, g10⟩ := and_e g8
  obtain ⟨w0, w1, w2, w3, w4, rfl⟩ : ∃ w0 w1 w2 w3 w4 : Value, args = #[w0, w1, w2, w3, w4] := by
    have hs : args.size = 5 := by simpa [Cond.value, given_1] using g1
    obtain ⟨L⟩ := args
    match L, hs with
    | [w0, w1, w2, w3, w4], _ => exact ⟨w0, w1, w2, w3, w4, rfl⟩
  have hw := fun d (hd : d ∈ tables_1) => atoms_spec (ws := Jvm.Cond.code x code maxLocals ret :: tables_1) hat d (List.mem_cons_of_mem _ hd)
  have hfit : Fit s := fun {y c} hc i hi => by
    obtain ⟨ha, rfl⟩ := Array.getElem?_eq_some_iff.mp hc
    have q := List.all_eq_true.mp ((Array.all_eq_true_iff_forall_mem.mp hF) _ (Array.getElem_mem ha)) i (List.mem_range.mpr hi)
    simpa [Array.getElem?_eq_getElem hi] using q
  obtain ⟨i0, ei0⟩ := is_v g3
  obtain rfl : w0 = (.int i0) := Option.some.inj ei0
  obtain ⟨i1, ei1⟩ := is_v g5
  obtain rfl : w1 = (.int i1) := Option.some.inj ei1
  obtain ⟨i2, ei2⟩ := is_v g7
  obtain rfl : w2 = (.int i2) := Option.some.inj ei2
  obtain ⟨i3, ei3⟩ := is_v g9
  obtain rfl : w3 = (.int i3) := Option.some.inj ei3
  obtain ⟨i4, ei4⟩ := is_v g10
  obtain rfl : w4 = (.int i4) := Option.some.inj ei4
  obtain ⟨m1, m2⟩ := and_e hn
  obtain ⟨hxa, eS⟩ := arr_v m1
  obtain ⟨cH, ArH⟩ := Arr.start eS m1
  obtain ⟨m3, m4⟩ := and_e m2
  obtain ⟨m5, m6⟩ := and_e m4
  obtain ⟨m7, m8⟩ := and_e m6
  obtain ⟨m9, m10⟩ := and_e m8
  obtain ⟨m11, m12⟩ := and_e m10
  have SH := Sta.start eS (Or.inr ⟨hw _ (List.mem_of_getElem? (i := 11) rfl), hw _ (List.mem_of_getElem? (i := 14) rfl)⟩)
  have szH := own_size (n := 256) eS ArH m3 (by decide)
  have AH : own_Ary s s.heap hxa .byte 256 (fun j => .int (own_hv j)) := ⟨cH, ArH, szH, fun j hj => own_tab (fun _ => eS) ArH szH hj (Cond.all_elim eS (ArH.fin (Vm.Alike.refl _)) m5 j (by omega)) (Cond.all_elim eS (ArH.fin (Vm.Alike.refl _)) m7 j (by omega)) (Cond.all_elim eS (ArH.fin (Vm.Alike.refl _)) m9 j (by omega)) (Cond.all_elim eS (ArH.fin (Vm.Alike.refl _)) m11 j (by omega)) (Cond.all_elim eS (ArH.fin (Vm.Alike.refl _)) m12 j (by omega))⟩
  obtain ⟨n, o, h1, h2, h3, _, L, rfl, ⟨rfl, N⟩, hq⟩ := rm0 l s _ hw tables_1 i0 i1 i2 i3 i4 hxa s.heap s.heap.size (Nat.le_refl _) SH AH p e ha hc hk s m _ below hf ((Spec.applies_iff_loose hf).mp happ).1 ⟨rfl, State.Warmed39.refl s, rfl⟩ trivial
  refine ⟨n, _, h1, h2, h3, hpost _ _ _ _ _ _ ⟨Cond.after_iff.mpr rfl, Cond.after_iff.mpr (eq_i res_at (Term.int_eval (1)) rfl), trivial⟩ ⟨hq.1, hq.2.1, (hq.2.2.sift fun y hy => Or.inr (N y hy)).mono (by decide) (by decide)⟩⟩
theorem main_1_1 : Claimed_1_1 := comes_1 fun _ _ _ _ _ _ h hF => ⟨h.1, hF⟩
theorem main_1_2 : Claimed_1_2 := comes_1 fun _ _ _ _ _ _ h hF => ⟨h.2.1, hF⟩
end Jvm.Pilot.@@N@@
namespace Jvm.Pilot.@@N@@
open Jvm Jvm.ClassFile Sem Op Lib Jvm.Free Jvm.Stand Jvm.Pilot.@@N@@.Jvm.D
/-! MADE BY PROGRAM (witnessworld.py) out of the Statement's table words and the real class files: 9 classes; the members and pool entries that the words name. The judged class is class 1, her method 3. -/
namespace start1
open Jvm.ClassFile
def u (s : String) : CpInfo := .utf8 (stringToUtf16 s)
/-- a pool by its gaps: so many unusable entries, then the entry; so many at the end -/
def gap : Nat → List CpInfo → List CpInfo
  | 0, r => r
  | n + 1, r => .unusable :: gap n r
def poolList (es : List (Nat × CpInfo)) (last : Nat) : List CpInfo := es.foldr (fun e r => gap e.1 (e.2 :: r)) (gap last [])
def pool (es : List (Nat × CpInfo)) (last : Nat) : Array CpInfo := ⟨poolList es last⟩
def fileOf (pool : Array CpInfo) (this : Nat) (attrs : Array Attribute := #[]) (ms : Array MethodInfo := #[]) (fl : Nat := 33) (sup : Nat := 0) (ifs : Array Nat := #[]) (fds : Array FieldInfo := #[]) : ClassFile where
  minorVersion := 0
  majorVersion := 65
  constantPool := pool
  accessFlags := fl
  thisClass := this
  superClass := sup
  interfaces := ifs
  fields := fds
  methods := ms
  attributes := attrs
def plain (name : String) (sup : Option ClassId) : Class where
  name := name
  kind := .ordinary
  loader := none
  accessFlags := 33
  super := sup
  interfaces := #[]
  cf := none
  fields := #[]
  methods := #[]
  instanceTypes := #[]
  staticTypes := #[]
  resolved := #[]
  callSites := []
  init := .initialized
  statics := none
  mirror := none

def pool0 : Array CpInfo := pool [(5, u "<init>"), (0, u "()V"), (1, .class_ 10), (1, u "java/lang/Object")] 113

def k0m0 : Method := { name := "<init>", desc := "()V", sig := { parameters := [], returnType := none }, accessFlags := 1, code := none }
/-- java/lang/Object -/
def k0 : Class := { plain "java/lang/Object" none with
  accessFlags := 33
  interfaces := #[]
  cf := some (fileOf pool0 8 #[] #[{ accessFlags := 1, nameIndex := 5, descriptorIndex := 6, attributes := #[] }] 33 0 #[] #[])
  fields := #[]
  methods := #[k0m0]
  instanceTypes := #[]
  staticTypes := #[]
  resolved := Array.replicate 124 none
  statics := none }

def pool1 : Array CpInfo := pool [(2, .class_ 4), (1, u "java/lang/Object"), (0, u "<init>"), (0, u "()V"), (0, .methodref 8 9), (0, .class_ 10), (0, .nameAndType 11 12), (0, u "com/example/ledgerstrike/ledgerstrike/journal/JournalFormatSealedWithPinLaw"), (0, u "hex"), (0, u "(I)B"), (0, .integer 2147483647), (0, .methodref 8 15), (0, .nameAndType 16 17), (0, u "at"), (0, u "([BIII)Z"), (0, .methodref 19 20), (0, .class_ 21), (0, .nameAndType 22 23), (0, u "com/example/ledgerstrike/ledgerstrike/journal/JournalFormat"), (0, u "sealedWith"), (0, u "(I[BI)Z"), (3, u "law"), (0, u "(IIIII)Z")] 4

def k1m0 : Method := { name := "<init>", desc := "()V", sig := { parameters := [], returnType := none }, accessFlags := 2, code := none }
def k1c1 : Code := { maxStack := 2, maxLocals := 1, code := method_2_code, exceptionTable := #[], attributes := #[] }
def k1m1 : Method := { name := "hex", desc := "(I)B", sig := { parameters := [.int], returnType := some .byte }, accessFlags := 10, code := some k1c1 }
def k1c2 : Code := { maxStack := 3, maxLocals := 4, code := method_3_code, exceptionTable := #[], attributes := #[] }
def k1m2 : Method := { name := "at", desc := "([BIII)Z", sig := { parameters := [(.array .byte), .int, .int, .int], returnType := some .boolean }, accessFlags := 10, code := some k1c2 }
def k1c3 : Code := { maxStack := 4, maxLocals := 10, code := code, exceptionTable := #[], attributes := #[] }
def k1m3 : Method := { name := "law", desc := "(IIIII)Z", sig := { parameters := [.int, .int, .int, .int, .int], returnType := some .boolean }, accessFlags := 9, code := some k1c3 }
/-- com/example/ledgerstrike/ledgerstrike/journal/JournalFormatSealedWithPinLaw -/
def k1 : Class := { plain "com/example/ledgerstrike/ledgerstrike/journal/JournalFormatSealedWithPinLaw" (some 0) with
  accessFlags := 49
  interfaces := #[]
  cf := some (fileOf pool1 8 #[] #[{ accessFlags := 2, nameIndex := 5, descriptorIndex := 6, attributes := #[] }, { accessFlags := 10, nameIndex := 11, descriptorIndex := 12, attributes := #[] }, { accessFlags := 10, nameIndex := 16, descriptorIndex := 17, attributes := #[] }, { accessFlags := 9, nameIndex := 27, descriptorIndex := 28, attributes := #[] }] 49 2 #[] #[])
  fields := #[]
  methods := #[k1m0, k1m1, k1m2, k1m3]
  instanceTypes := #[]
  staticTypes := #[]
  resolved := Array.replicate 33 none
  statics := none }

def pool2 : Array CpInfo := pool [(2, .class_ 4), (1, u "java/lang/Object"), (3, .class_ 10), (1, u "com/example/ledgerstrike/ledgerstrike/journal/JournalFormat"), (0, u "fileName"), (0, u "Ljava/lang/String;"), (2, u "kind"), (2, u "version"), (48, u "sealedWith"), (0, u "(I[BI)Z"), (32, .fieldref 8 102), (0, .nameAndType 103 104), (0, u "HEX_VALUES"), (0, u "[B"), (38, u "REQUESTS"), (0, u "Lcom/example/ledgerstrike/ledgerstrike/journal/JournalFormat;"), (8, u "RESULTS"), (6, u "ORDERS"), (3, u "LOCK_FILE_NAME"), (3, u "CHECKSUM_MISMATCH"), (0, u "PROGRAM"), (2, u "CHECKSUM_DIGITS"), (0, u "I")] 37

def k2c0 : Code := { maxStack := 4, maxLocals := 6, code := prog_24_method_11_code, exceptionTable := #[], attributes := #[] }
def k2m0 : Method := { name := "sealedWith", desc := "(I[BI)Z", sig := { parameters := [.int, (.array .byte), .int], returnType := some .boolean }, accessFlags := 8, code := some k2c0 }
/-- com/example/ledgerstrike/ledgerstrike/journal/JournalFormat -/
def k2 : Class := { plain "com/example/ledgerstrike/ledgerstrike/journal/JournalFormat" (some 0) with
  accessFlags := 48
  interfaces := #[]
  cf := some (fileOf pool2 8 #[] #[{ accessFlags := 8, nameIndex := 67, descriptorIndex := 68, attributes := #[] }] 48 2 #[] #[{ accessFlags := 24, nameIndex := 164, descriptorIndex := 12, attributes := #[] }, { accessFlags := 24, nameIndex := 143, descriptorIndex := 144, attributes := #[] }, { accessFlags := 24, nameIndex := 153, descriptorIndex := 144, attributes := #[] }, { accessFlags := 24, nameIndex := 160, descriptorIndex := 144, attributes := #[] }, { accessFlags := 24, nameIndex := 168, descriptorIndex := 12, attributes := #[] }, { accessFlags := 26, nameIndex := 169, descriptorIndex := 12, attributes := #[] }, { accessFlags := 26, nameIndex := 172, descriptorIndex := 173, attributes := #[] }, { accessFlags := 26, nameIndex := 103, descriptorIndex := 104, attributes := #[] }, { accessFlags := 18, nameIndex := 11, descriptorIndex := 12, attributes := #[] }, { accessFlags := 18, nameIndex := 15, descriptorIndex := 12, attributes := #[] }, { accessFlags := 18, nameIndex := 18, descriptorIndex := 12, attributes := #[] }])
  fields := #[{ name := "LOCK_FILE_NAME", type := (.object "java/lang/String"), accessFlags := 24, slot := 0, constantValue := 0 }, { name := "REQUESTS", type := (.object "com/example/ledgerstrike/ledgerstrike/journal/JournalFormat"), accessFlags := 24, slot := 1, constantValue := 0 }, { name := "RESULTS", type := (.object "com/example/ledgerstrike/ledgerstrike/journal/JournalFormat"), accessFlags := 24, slot := 2, constantValue := 0 }, { name := "ORDERS", type := (.object "com/example/ledgerstrike/ledgerstrike/journal/JournalFormat"), accessFlags := 24, slot := 3, constantValue := 0 }, { name := "CHECKSUM_MISMATCH", type := (.object "java/lang/String"), accessFlags := 24, slot := 4, constantValue := 0 }, { name := "PROGRAM", type := (.object "java/lang/String"), accessFlags := 26, slot := 5, constantValue := 0 }, { name := "CHECKSUM_DIGITS", type := .int, accessFlags := 26, slot := 6, constantValue := 0 }, { name := "HEX_VALUES", type := (.array .byte), accessFlags := 26, slot := 7, constantValue := 0 }, { name := "fileName", type := (.object "java/lang/String"), accessFlags := 18, slot := 0, constantValue := 0 }, { name := "kind", type := (.object "java/lang/String"), accessFlags := 18, slot := 1, constantValue := 0 }, { name := "version", type := (.object "java/lang/String"), accessFlags := 18, slot := 2, constantValue := 0 }]
  methods := #[k2m0]
  instanceTypes := #[(.object "java/lang/String"), (.object "java/lang/String"), (.object "java/lang/String")]
  staticTypes := #[(.object "java/lang/String"), (.object "com/example/ledgerstrike/ledgerstrike/journal/JournalFormat"), (.object "com/example/ledgerstrike/ledgerstrike/journal/JournalFormat"), (.object "com/example/ledgerstrike/ledgerstrike/journal/JournalFormat"), (.object "java/lang/String"), (.object "java/lang/String"), .int, (.array .byte)]
  resolved := Array.replicate 211 none
  statics := some 0 }

def pool3 : Array CpInfo := pool [(1, u "java/lang/Cloneable"), (0, .class_ 1), (0, u "java/lang/Object"), (0, .class_ 3)] 3

/-- java/lang/Cloneable -/
def k3 : Class := { plain "java/lang/Cloneable" (some 0) with
  accessFlags := 1537
  interfaces := #[]
  cf := some (fileOf pool3 2 #[] #[] 1537 4 #[] #[])
  fields := #[]
  methods := #[]
  instanceTypes := #[]
  staticTypes := #[]
  resolved := Array.replicate 8 none
  statics := none }

def pool4 : Array CpInfo := pool [(1, u "java/io/Serializable"), (0, .class_ 1), (0, u "java/lang/Object"), (0, .class_ 3)] 3

/-- java/io/Serializable -/
def k4 : Class := { plain "java/io/Serializable" (some 0) with
  accessFlags := 1537
  interfaces := #[]
  cf := some (fileOf pool4 2 #[] #[] 1537 4 #[] #[])
  fields := #[]
  methods := #[]
  instanceTypes := #[]
  staticTypes := #[]
  resolved := Array.replicate 8 none
  statics := none }

/-- the primitive byte -/
def k5 : Class := { plain "byte" none with kind := .primitive 'B', accessFlags := 0x411 }
/-- [B -/
def k6 : Class := { plain "[B" (some 0) with kind := .array 5 .byte, interfaces := #[3, 4], accessFlags := 1041 }

/-- the primitive int -/
def k7 : Class := { plain "int" none with kind := .primitive 'I', accessFlags := 0x411 }
/-- [I -/
def k8 : Class := { plain "[I" (some 0) with kind := .array 7 .int, interfaces := #[3, 4], accessFlags := 1041 }

def heap : Heap := #[{ cls := 2, slots := #[.null, .null, .null, .null, .null, .null, .int 0, .ref 1], vm := .statics 2 },
  { cls := 6, slots := #[.int (-1), .int (-1), .int (-1), .int (-1), .int (-1), .int (-1), .int (-1), .int (-1), .int (-1), .int (-1), .int (-1), .int (-1), .int (-1), .int (-1), .int (-1), .int (-1), .int (-1), .int (-1), .int (-1), .int (-1), .int (-1), .int (-1), .int (-1), .int (-1), .int (-1), .int (-1), .int (-1), .int (-1), .int (-1), .int (-1), .int (-1), .int (-1), .int (-1), .int (-1), .int (-1), .int (-1), .int (-1), .int (-1), .int (-1), .int (-1), .int (-1), .int (-1), .int (-1), .int (-1), .int (-1), .int (-1), .int (-1), .int (-1), .int 0, .int 1, .int 2, .int 3, .int 4, .int 5, .int 6, .int 7, .int 8, .int 9, .int (-1), .int (-1), .int (-1), .int (-1), .int (-1), .int (-1), .int (-1), .int (-1), .int (-1), .int (-1), .int (-1), .int (-1), .int (-1), .int (-1), .int (-1), .int (-1), .int (-1), .int (-1), .int (-1), .int (-1), .int (-1), .int (-1), .int (-1), .int (-1), .int (-1), .int (-1), .int (-1), .int (-1), .int (-1), .int (-1), .int (-1), .int (-1), .int (-1), .int (-1), .int (-1), .int (-1), .int (-1), .int (-1), .int (-1), .int 10, .int 11, .int 12, .int 13, .int 14, .int 15, .int (-1), .int (-1), .int (-1), .int (-1), .int (-1), .int (-1), .int (-1), .int (-1), .int (-1), .int (-1), .int (-1), .int (-1), .int (-1), .int (-1), .int (-1), .int (-1), .int (-1), .int (-1), .int (-1), .int (-1), .int (-1), .int (-1), .int (-1), .int (-1), .int (-1), .int (-1), .int (-1), .int (-1), .int (-1), .int (-1), .int (-1), .int (-1), .int (-1), .int (-1), .int (-1), .int (-1), .int (-1), .int (-1), .int (-1), .int (-1), .int (-1), .int (-1), .int (-1), .int (-1), .int (-1), .int (-1), .int (-1), .int (-1), .int (-1), .int (-1), .int (-1), .int (-1), .int (-1), .int (-1), .int (-1), .int (-1), .int (-1), .int (-1), .int (-1), .int (-1), .int (-1), .int (-1), .int (-1), .int (-1), .int (-1), .int (-1), .int (-1), .int (-1), .int (-1), .int (-1), .int (-1), .int (-1), .int (-1), .int (-1), .int (-1), .int (-1), .int (-1), .int (-1), .int (-1), .int (-1), .int (-1), .int (-1), .int (-1), .int (-1), .int (-1), .int (-1), .int (-1), .int (-1), .int (-1), .int (-1), .int (-1), .int (-1), .int (-1), .int (-1), .int (-1), .int (-1), .int (-1), .int (-1), .int (-1), .int (-1), .int (-1), .int (-1), .int (-1), .int (-1), .int (-1), .int (-1), .int (-1), .int (-1), .int (-1), .int (-1), .int (-1), .int (-1), .int (-1), .int (-1), .int (-1), .int (-1), .int (-1), .int (-1), .int (-1), .int (-1), .int (-1), .int (-1), .int (-1), .int (-1), .int (-1), .int (-1), .int (-1), .int (-1), .int (-1), .int (-1), .int (-1), .int (-1), .int (-1), .int (-1), .int (-1), .int (-1), .int (-1), .int (-1), .int (-1), .int (-1), .int (-1), .int (-1), .int (-1), .int (-1), .int (-1), .int (-1), .int (-1), .int (-1), .int (-1), .int (-1), .int (-1), .int (-1), .int (-1)], vm := .none }]
def classes : Array Class := #[k0, k1, k2, k3, k4, k5, k6, k7, k8]
def interned : List (Array UInt16 × Addr) := []
def slotsUsed : Nat := 264
def theMethod : MethodId := ⟨1, 3⟩
def args0 : Array Value := #[.int 5, .int 3, .int 2, .int 1, .int 7]
def aboutOver (below : List Frame) : State where
  vm := { classes := classes, interned := interned.toArray }
  heap := heap
  slotsUsed := slotsUsed
  threads := #[{ frames := .invoking theMethod args0 :: below }]
def below0 : List Frame := [.native { method := ⟨0, 0⟩, args := #[] }]
def about1 : State := aboutOver below0
def p0 : Program := .bare "" "" ""
def e0 : Env := launch0.env 0 0 0
theorem w_frames : about1.frames = Frame.invoking theMethod args0 :: below0 := rfl
set_option maxRecDepth 65536 in
theorem w_args : argsFit about1.vm theMethod args0 = true := by decide +kernel
set_option maxRecDepth 65536 in
theorem w_heap : heapFits about1 = true := by decide +kernel
set_option maxRecDepth 65536 in
theorem w_runnable : about1.curStatus? = some .runnable := by decide +kernel
set_option maxRecDepth 65536 in
theorem w_alone : about1.alone = true := by decide +kernel
set_option maxRecDepth 65536 in
theorem w_named : about1.methodNamed? x = some theMethod := by decide +kernel
set_option maxRecDepth 65536 in
theorem w_hears : about1.hears theMethod below0 = true := by decide +kernel
set_option maxRecDepth 65536 in
theorem w_ripe : about1.ripe theMethod args0 below0 = true := by decide +kernel
theorem w_running : about1.status = .running := rfl
set_option maxRecDepth 65536 in
theorem w_room : about1.hasRoom e0.platform room_1 = true :=
  launch0.hasRoom_least _ room_1 (by decide +kernel) (by decide +kernel) (by decide +kernel) (by decide +kernel) (by decide +kernel) (by decide +kernel)
theorem allAtoms_all (ts : List Jvm.Cond) (a : Array Jvm.Value) (st : Jvm.State) : (allAtoms ts).before a st = ts.all (fun c => c.before a st) := by
  induction ts with
  | nil => rfl
  | cons c t ih =>
    show (Jvm.Cond.and c (allAtoms t)).before a st = _
    rw [Jvm.Cond.before_and, ih, List.all_cons]
def words1 : List Jvm.Cond := Jvm.Cond.code x code maxLocals ret :: tables_1
/-- a 'code' word, met by the world's own term for the bytes: nothing is compared byte by byte -/
theorem code_word {y : MethodName} {bytes : ByteArray} {mx : Nat} {rt : Option FieldType} {a : Array Value} {s : State} {m : MethodId} {meth : Method} {c : Code} (h1 : s.methodNamed? y = some m) (h2 : s.vm.method? m = some meth) (h3 : meth.code = some c) (h4 : c.code = bytes)
    (h5 : (c.maxLocals == mx && c.exceptionTable.isEmpty && decide (c.maxStack ≤ mostOperands) && decide (meth.sig.returnType = rt) && !meth.locks && decide (parseMethodDescriptor y.desc = some meth.sig)) = true) : (Jvm.Cond.code y bytes mx rt).before a s = true := by
  simp only [Bool.and_eq_true, beq_iff_eq, Bool.not_eq_true', decide_eq_true_eq] at h5
  obtain ⟨⟨⟨⟨⟨g1, g2⟩, g3⟩, g4⟩, g5⟩, g6⟩ := h5
  simp [Cond.before, Cond.holds, Cond.value, h1, h2, h3, h4, g1, g2, g3, g4, g5, g6]
def isCode : Jvm.Cond → Bool
  | .code _ _ _ _ => true
  | _ => false
theorem all_split {L : List Jvm.Cond} {P : Jvm.Cond → Bool} (h1 : L.all (fun c => isCode c || P c) = true) (h2 : ∀ c ∈ L.filter isCode, P c = true) : L.all P = true := by
  refine List.all_eq_true.mpr fun c hc => ?_
  have h := List.all_eq_true.mp h1 c hc
  rcases Bool.eq_false_or_eq_true (isCode c) with hi | hi
  · exact h2 c (List.mem_filter.mpr ⟨hc, hi⟩)
  · simpa [hi] using h
set_option maxRecDepth 65536 in
theorem w_c0 : (Jvm.Cond.code x code maxLocals ret).before args0 about1 = true := code_word (m := ⟨1, 3⟩) (meth := k1m3) (c := k1c3) (by decide +kernel) rfl rfl rfl (by decide +kernel)
set_option maxRecDepth 65536 in
theorem w_c1 : (Jvm.Cond.code ({ cls := "com/example/ledgerstrike/ledgerstrike/journal/JournalFormatSealedWithPinLaw", name := "hex", desc := "(I)B" } : Jvm.MethodName) method_2_code (1 : Nat) (Option.some Jvm.ClassFile.FieldType.byte)).before args0 about1 = true := code_word (m := ⟨1, 1⟩) (meth := k1m1) (c := k1c1) (by decide +kernel) rfl rfl rfl (by decide +kernel)
set_option maxRecDepth 65536 in
theorem w_c2 : (Jvm.Cond.code ({ cls := "com/example/ledgerstrike/ledgerstrike/journal/JournalFormatSealedWithPinLaw", name := "at", desc := "([BIII)Z" } : Jvm.MethodName) method_3_code (4 : Nat) (Option.some Jvm.ClassFile.FieldType.boolean)).before args0 about1 = true := code_word (m := ⟨1, 2⟩) (meth := k1m2) (c := k1c2) (by decide +kernel) rfl rfl rfl (by decide +kernel)
set_option maxRecDepth 65536 in
theorem w_c3 : (Jvm.Cond.code ({ cls := "com/example/ledgerstrike/ledgerstrike/journal/JournalFormat", name := "sealedWith", desc := "(I[BI)Z" } : Jvm.MethodName) prog_24_method_11_code (6 : Nat) (Option.some Jvm.ClassFile.FieldType.boolean)).before args0 about1 = true := code_word (m := ⟨2, 0⟩) (meth := k2m0) (c := k2c0) (by decide +kernel) rfl rfl rfl (by decide +kernel)
def codes1 : List Jvm.Cond := [Jvm.Cond.code x code maxLocals ret, Jvm.Cond.code ({ cls := "com/example/ledgerstrike/ledgerstrike/journal/JournalFormatSealedWithPinLaw", name := "hex", desc := "(I)B" } : Jvm.MethodName) method_2_code (1 : Nat) (Option.some Jvm.ClassFile.FieldType.byte), Jvm.Cond.code ({ cls := "com/example/ledgerstrike/ledgerstrike/journal/JournalFormatSealedWithPinLaw", name := "at", desc := "([BIII)Z" } : Jvm.MethodName) method_3_code (4 : Nat) (Option.some Jvm.ClassFile.FieldType.boolean), Jvm.Cond.code ({ cls := "com/example/ledgerstrike/ledgerstrike/journal/JournalFormat", name := "sealedWith", desc := "(I[BI)Z" } : Jvm.MethodName) prog_24_method_11_code (6 : Nat) (Option.some Jvm.ClassFile.FieldType.boolean)]
set_option maxRecDepth 65536 in
theorem codes_eq : words1.filter isCode = codes1 := rfl
theorem w_codes : ∀ c ∈ words1.filter isCode, c.before args0 about1 = true := by
  rw [codes_eq]
  intro c hc
  simp only [codes1, List.mem_cons, List.not_mem_nil, or_false] at hc
  rcases hc with rfl | rfl | rfl | rfl
  · exact w_c0
  · exact w_c1
  · exact w_c2
  · exact w_c3
set_option maxRecDepth 65536 in
theorem w_t1 : words1.all (fun c => isCode c || c.before args0 about1) = true := by decide +kernel
theorem w_tables : (allAtoms (Jvm.Cond.code x code maxLocals ret :: tables_1)).before args0 about1 = true := by
  rw [allAtoms_all]
  show words1.all (fun c => c.before args0 about1) = true
  refine all_split ?_ w_codes
  rw [w_t1]
set_option maxRecDepth 65536 in
theorem w_case : (Jvm.Cond.and given_1 narrow_1).before args0 about1 = true := by decide +kernel
theorem w_applies : (headSpec (Jvm.Cond.code x code maxLocals ret :: tables_1) room_1).applies x e0.platform about1 = true :=
  (Spec.applies_iff w_frames).mpr ⟨w_running, w_runnable, w_alone, w_named, w_hears, w_ripe, w_room, w_tables⟩
theorem atStart : AtStart classFile x code maxLocals ret World_1 tables_1 room_1 Calls_1 rest_1 Pre_1 launch0 p0 e0 about1 theMethod args0 below0 :=
  ⟨lists_1, trivial, launch0.admits_env _ _ _, launch0.least_env, fairChoices_fair.cas, fairChoices_fair.clock, w_frames, w_args, w_heap, w_applies, trivial, trivial, w_case⟩
end start1
theorem witness_1 : WitnessClaimed_1 := ⟨start1.p0, start1.e0, start1.about1, start1.theMethod, start1.args0, start1.below0, start1.atStart⟩
end Jvm.Pilot.@@N@@
