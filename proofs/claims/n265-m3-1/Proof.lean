import JvmDerived
import JvmDerived.Pilot.@@N@@Statement
import JvmDerived.Pilot.@@N@@Code
set_option linter.unusedVariables false
set_option linter.unusedSimpArgs false
namespace Jvm.RoadKit
open Sem ClassFile Op Lib Jvm.Stand Jvm.Free Jvm.LawKit
section New
variable {p : Program} {l : Launch} {e : Env} {R : Room} {s : State} {m : MethodId} {args : Array Value} {below : List Frame} {meth : Method} {c : Code} {T : State} {locs : List Loc} {cells slots : Nat}
theorem retI (X : Stand p l e R s m args below meth c T locs cells slots) (hx : p.tables.exec = Jvm.exec) {pc : Nat} {Ls : Array Slot} {z : Int32} {rest : List Value} (hret : meth.sig.returnType = some .int) (hd : decode c.code pc = .ok (.ireturn, 1)) {fs : List Frame}
    (hl : ∀ (f : JFrame) (acts : List Action), f.method = m → f.locked = none → f.entered = [] → (doReturn e (T.setTop f) acts (some (.int z))).1 = T.setFrames fs) : Steps p.tables e below (T.setTop (mkF m pc Ls (.int z :: rest))) (T.setFrames fs) := by
  have hm' : T.vm.method? m = some meth := X.method'
  have hn : narrow .int (.int z) = .int z := rfl
  show Steps p.tables e below (T.setTop { method := m, pc := pc, locals := Ls, stack := _ :: rest, locked := none }) _
  jvm_step X.here [X.here.top, hx, hd, hm', hret, hn]
  first | (intro acts; rw [hl _ acts rfl rfl rfl]) | rw [hl _ _ rfl rfl rfl]
  exact Steps.refl _
theorem own_lrem {g : JFrame} {target : State} (X : Stand p l e R s m args below meth c T locs cells slots) (hx : p.tables.exec = Jvm.exec) (hg : g.method = m) {x y : Int64} {rest : List Value} (hd : decode c.code g.pc = .ok (.lrem, 1)) (hs : g.stack = .long y :: .long x :: rest) (hy : y ≠ 0)
    (hr : Steps p.tables e below (T.setTop { g with pc := g.pc + 1, stack := .long (x % y) :: rest }) target) : Steps p.tables e below (T.setTop g) target :=
  XS.lrem X.here hx hg hd hs hy (by first | exact hr | (rw [lrem_mod]; exact hr))
end New
end Jvm.RoadKit
namespace Jvm.Pilot.@@N@@
open Jvm Jvm.ClassFile Sem Op Lib Jvm.Free Jvm.Stand Jvm.LawKit Jvm.RoadKit Bundle Jvm.Pilot.@@N@@.Jvm.D
/-- from the state A the body returns with QQ -/
def own_Go (p : Program) (e : Env) (below : List Frame) (s : State) (QQ : Option Value → Heap → List Loc → Prop) (k n : Nat) (A : State) : Prop :=
  ∃ U o, Steps p.tables e below A U ∧ U.status = .running ∧ Ended U below o ∧ ∃ v L, o = .returned v ∧ QQ v U.heap L ∧ FrameEnd s o U L k n
theorem own_go {p : Program} {e : Env} {below : List Frame} {s : State} {QQ : Option Value → Heap → List Loc → Prop} {k n : Nat} {A B : State} (h : ∀ t, Steps p.tables e below B t → Steps p.tables e below A t) (g : own_Go p e below s QQ k n B) : own_Go p e below s QQ k n A := by
  obtain ⟨U, o, h1, r⟩ := g
  exact ⟨U, o, h U h1, r⟩
theorem own_ret {p : Program} {l : Launch} {e : Env} {R : Room} {s : State} {m : MethodId} {args : Array Value} {below : List Frame} {meth : Method} {c : Code} {T : State} {locs : List Loc} {cells slots : Nat} {QQ : Option Value → Heap → List Loc → Prop} {k n : Nat} {A : State}
    (X : Stand p l e R s m args below meth c T locs cells slots) {v : Option Value} (hv : meth.sig.returnType = none → v = none) (hlk : meth.locks = false) (hQ : QQ v T.heap locs) (hk : cells ≤ k) (hn : slots ≤ n)
    (st : ∀ fs, (∀ (f : JFrame) (acts : List Action), f.method = m → f.locked = none → f.entered = [] → (doReturn e (T.setTop f) acts v).1 = T.setFrames fs) → Steps p.tables e below A (T.setFrames fs)) : own_Go p e below s QQ k n A := by
  obtain ⟨fs, hr, hrun, hended, hW, hsame⟩ := X.leave hv hlk
  exact ⟨_, _, st fs hr, hrun, hended, _, _, rfl, hQ, ⟨_, rfl⟩, hW, hsame.mono hk hn⟩
def own_GoW (p : Program) (e : Env) (below : List Frame) (s : State) (QQ : Option Value → Heap → List Loc → Prop) (k n : Nat) (A : State) : Prop :=
  ∃ U o, Steps p.tables e below A U ∧ U.status = .running ∧ Ended U below o ∧ ∃ v L, o = .returned v ∧ QQ v U.heap L ∧ ReturnedEndW s o U L k n
theorem own_goW {p : Program} {e : Env} {below : List Frame} {s : State} {QQ : Option Value → Heap → List Loc → Prop} {k n : Nat} {A B : State} (h : ∀ t, Steps p.tables e below B t → Steps p.tables e below A t) (g : own_GoW p e below s QQ k n B) : own_GoW p e below s QQ k n A := by
  obtain ⟨U, o, h1, r⟩ := g
  exact ⟨U, o, h U h1, r⟩
theorem own_retW {p : Program} {l : Launch} {e : Env} {R : Room} {s : State} {vm₁ : Vm} {m : MethodId} {args : Array Value} {below : List Frame} {meth : Method} {c : Code} {T : State} {locs : List Loc} {cells slots : Nat} {QQ : Option Value → Heap → List Loc → Prop} {k n : Nat} {A : State}
    (X : Stand p l e R (s.setVm vm₁) m args below meth c T locs cells slots) {n1 : Nat} (hS : s.Since vm₁ n1) (hn1 : n1 ≤ T.heap.size) {v : Option Value} (hv : meth.sig.returnType = none → v = none) (hlk : meth.locks = false) (hQ : QQ v T.heap locs) (hk : cells ≤ k) (hn : slots ≤ n)
    (st : ∀ fs, (∀ (f : JFrame) (acts : List Action), f.method = m → f.locked = none → f.entered = [] → (doReturn e (T.setTop f) acts v).1 = T.setFrames fs) → Steps p.tables e below A (T.setFrames fs)) : own_GoW p e below s QQ k n A := by
  obtain ⟨fs, hr, hrun, hended, hq⟩ := X.leaveW hS hn1 hv hlk
  exact ⟨_, _, st fs hr, hrun, hended, _, _, rfl, hQ, hq.1, hq.2.1, hq.2.2.1, hq.2.2.2.mono hk hn⟩
/-- an array by what its places hold -/
def own_Ary (Z : State) (h : Heap) (a : Addr) (ty : FieldType) (n : Nat) (f : Nat → Value) : Prop := ∃ c : Cell, Arr Z h a c ty ∧ c.slots.size = n ∧ ∀ j, j < n → c.slots[j]? = some (f j)
def own_set (f : Nat → Value) (i : Nat) (v : Value) : Nat → Value := fun j => if j = i then v else f j
section
variable {Z : State} {h h' : Heap} {a b : Addr} {ty : FieldType} {n : Nat} {f : Nat → Value}
theorem own_Ary.lt (F : own_Ary Z h a ty n f) : a < h.size := by obtain ⟨c, A, -⟩ := F; exact A.lt
theorem own_Ary.ext (F : own_Ary Z h a ty n f) (E : Ext h h') : own_Ary Z h' a ty n f := by obtain ⟨c, A, r⟩ := F; exact ⟨c, A.ext E, r⟩
theorem own_Ary.other {sl : Nat} {v : Value} (F : own_Ary Z h b ty n f) (W : Wr h h' a sl v) (q : b ≠ a) : own_Ary Z h' b ty n f := by obtain ⟨c, A, r⟩ := F; exact ⟨c, A.other W q, r⟩
theorem own_Ary.keep {ws : List Addr} (F : own_Ary Z h a ty n f) (K : Keep h h' ws) (q : a ∉ ws) : own_Ary Z h' a ty n f := by obtain ⟨c, A, r⟩ := F; exact ⟨c, ⟨K.2.1 a c A.1 q, A.2⟩, r⟩
theorem own_Ary.new {k : ClassId} {z : Int32} (A : Arr Z h a (newA k ty z) ty) (hz : z.toNatClampNeg = n) : own_Ary Z h a ty n (fun _ => defaultValue ty) :=
  ⟨_, A, by rw [sz_new]; exact hz, fun j hj => by simp [newA, hz, hj]⟩
theorem own_Ary.set {c : Cell} {i : Nat} {v : Value} (A : Arr Z h a c ty) (S : c.slots.size = n) (G : ∀ j, j < n → c.slots[j]? = some (f j)) (W : Wr h h' a i v) : own_Ary Z h' a ty n (own_set f i v) := by
  refine ⟨_, A.same W, by rw [sz_set]; exact S, fun j hj => ?_⟩
  simp only [Cell.setSlot, Array.getElem?_setIfInBounds, own_set]
  by_cases q : j = i
  · subst q; simp [S, hj]
  · have q' : ¬ i = j := fun z => q z.symm
    simp [q, q', G j hj]
theorem own_Ary.congr {g : Nat → Value} (F : own_Ary Z h a ty n f) (q : ∀ j, j < n → f j = g j) : own_Ary Z h a ty n g := by
  obtain ⟨c, A, S, G⟩ := F; exact ⟨c, A, S, fun j hj => by rw [G j hj, q j hj]⟩
theorem own_sta_keep {C m d : String} {v : Value} (F : Sta Z h C m d v) (K : Keep h h' []) : Sta Z h' C m d v := by
  obtain ⟨cf, i, k, g, st, cell, h1, h2, h3, h4, h5, r⟩ := F
  exact ⟨cf, i, k, g, st, cell, h1, h2, h3, h4, K.2.1 _ _ h5 nin0, r⟩
theorem own_cl {j : Int32} {i : Nat} (q : j.toInt = (i : Int)) : j.toNatClampNeg = i := by
  show j.toInt.toNat = i
  rw [q]; rfl
theorem own_in {c : Cell} {j : Int32} {i : Nat} (S : c.slots.size = n) (q : j.toInt = (i : Int)) (hi : i < n) : ¬ (j < 0 ∨ c.slots.size ≤ j.toNatClampNeg) := by
  rw [own_cl q, S]
  have h0 : (0 : Int32).toInt = 0 := by decide
  intro z
  rcases z with z | z
  · have := Int32.lt_iff_toInt_lt.mp z; omega
  · omega
end
theorem own_ge {x : Int32} (h : 0 ≤ x.toInt) : ¬ x < (0 : Int32) := fun q => by have := Int32.lt_iff_toInt_lt.mp q; have e : (0 : Int32).toInt = 0 := by decide
                                                                                omega
theorem own_le {x : Int32} (h : x.toInt ≤ 255) : ¬ (255 : Int32) < x := fun q => by have := Int32.lt_iff_toInt_lt.mp q; have e : (255 : Int32).toInt = 255 := by decide
                                                                                    omega
def own_b (f : Int32) : Int32 := if (f &&& (2 : Int32)) = (0 : Int32) then 0 else 1
def own_e (f : Int32) : Int32 := if ((f / (2 : Int32)) % (2 : Int32)) = (1 : Int32) then 1 else 0
def own_ok (f : Int32) : Bool := decide (own_b f = own_e f) && decide (own_b (f ^^^ (2 : Int32)) = (if own_e f = 0 then 1 else 0)) && decide (own_e f = 0 ∨ own_e f = 1) && decide (0 ≤ (f ^^^ (2 : Int32)).toInt) && decide ((f ^^^ (2 : Int32)).toInt ≤ 255)
theorem own_all : (List.range 256).all (fun n => own_ok (Int32.ofNat n)) = true := by decide +kernel
theorem own_f (f : Int32) (h0 : 0 ≤ f.toInt) (h1 : f.toInt ≤ 255) : own_b f = own_e f ∧ own_b (f ^^^ (2 : Int32)) = (if own_e f = 0 then 1 else 0) ∧ (own_e f = 0 ∨ own_e f = 1) ∧ 0 ≤ (f ^^^ (2 : Int32)).toInt ∧ (f ^^^ (2 : Int32)).toInt ≤ 255 := by
  have e : f = Int32.ofNat f.toInt.toNat := by
    apply Int32.toInt_inj.mp
    rw [Int32.toInt_ofNat_of_lt (by omega)]
    omega
  have q := List.all_eq_true.mp own_all f.toInt.toNat (List.mem_range.mpr (by omega))
  rw [← e] at q
  simpa [own_ok, and_assoc] using q
theorem own_m (x : Int32) : 0 ≤ (x &&& (255 : Int32)).toInt ∧ (x &&& (255 : Int32)).toInt ≤ 255 := by
  have := c_mask x 255 8 (by decide) (by decide)
  rw [this]
  omega
theorem pn_0 : plainName "com/example/framer/framer/chunk/InitChunk" = true := by first | (simp [plainName, overriddenIn]; done) | decide +kernel
theorem d1_0 : decode prog_14_method_1_code 0 = .ok (.aload_n 0, 1) := by decide +kernel
theorem d1_1 : decode prog_14_method_1_code 1 = .ok (.invokespecial 3, 3) := by decide +kernel
theorem d1_4 : decode prog_14_method_1_code 4 = .ok (.iload_n 1, 1) := by decide +kernel
theorem d1_5 : decode prog_14_method_1_code 5 = .ok (.ifCond .lt 10, 3) := by decide +kernel
theorem d1_8 : decode prog_14_method_1_code 8 = .ok (.iload_n 1, 1) := by decide +kernel
theorem d1_9 : decode prog_14_method_1_code 9 = .ok (.sipush 255, 3) := by decide +kernel
theorem d1_12 : decode prog_14_method_1_code 12 = .ok (.if_icmp .le 17, 3) := by decide +kernel
theorem d1_29 : decode prog_14_method_1_code 29 = .ok (.aload_n 0, 1) := by decide +kernel
theorem d1_30 : decode prog_14_method_1_code 30 = .ok (.iload_n 1, 1) := by decide +kernel
theorem d1_31 : decode prog_14_method_1_code 31 = .ok (.putfield 18, 3) := by decide +kernel
theorem d1_34 : decode prog_14_method_1_code 34 = .ok (.return_, 1) := by decide +kernel
theorem ef_1 (m : MethodId) (r0 : Addr) (p1 : Int32) : entryFrame m #[(.ref r0), (.int p1)] 2 = mkF m 0 #[.val (.ref r0), .val (.int p1)] [] := by first | (simp [entryFrame, mkF, argsToLocals, Value.category]; done) | rfl
def Q1 (Z : State) (r0 : Addr) (p1 : Int32) (h0 : Heap) (n0 : Nat) (v : Option Value) (h : Heap) (L : List Loc) : Prop := v = none ∧ Fr n0 L ∧ Keep h0 h [r0] ∧ Fld Z h r0 "com/example/framer/framer/chunk/InitChunk" "flags" "I" (.int p1)
set_option maxRecDepth 65536 in
set_option maxHeartbeats 40000000 in
theorem rm1 (l : Launch) (Z : State) (a0 : Array Value) (hw : ∀ d ∈ tables_1, d.before a0 Z = true) (ws : List Jvm.Cond) (r0 : Addr) (p1 : Int32) (h0 : Heap) (n0 : Nat) (Z0 : n0 ≤ h0.size) (F0 : Fld Z h0 r0 "com/example/framer/framer/chunk/InitChunk" "flags" "I" (.int (0 : Int32))) (E0 : Exa Z h0 r0 "com/example/framer/framer/chunk/InitChunk") (g0 : n0 ≤ r0) (k0 : 0 ≤ p1.toInt) (k1 : p1.toInt ≤ 255) :
    MetFree l (⟨"com/example/framer/framer/chunk/InitChunk", "<init>", "(I)V"⟩ : MethodName) (head1 (Jvm.Cond.code (⟨"com/example/framer/framer/chunk/InitChunk", "<init>", "(I)V"⟩ : MethodName) prog_14_method_1_code 2 none :: ws) ({ frames := 1, cells := 0, slots := 0, locals := 12 } : Room)) (fun a U => a = #[(.ref r0), (.int p1)] ∧ Z.Warmed39 U.vm ∧ U.heap = h0) (fun _ _ _ _ _ => True) (fun _ U o U' => ∃ v L, o = .returned v ∧ Q1 Z r0 p1 h0 n0 v U'.heap L ∧ FrameEnd U o U' L (({ frames := 1, cells := 0, slots := 0, locals := 12 } : Room)).cells (({ frames := 1, cells := 0, slots := 0, locals := 12 } : Room)).slots) := by
  refine MetFree.of_bodySF (plainFor_of_name pn_0) hisR ?_
  intro p e s m args below meth c s₁ Bd hml0 hP hK
  obtain ⟨rfl, hZ, hh⟩ := hP
  have hx := Bd.exec
  have hby := Bd.bytes
  have hml : c.maxLocals = 2 := hml0
  have hown : s.vm.findClass "com/example/framer/framer/chunk/InitChunk" = some m.cls := findClass_of_methodNamed Bd.named
  have hnm := (name_of_methodNamed Bd.named Bd.method).1
  have hlk : meth.locks = false := Bd.notSynchronized
  have X0 : Stand p l e ({ frames := 1, cells := 0, slots := 0, locals := 12 } : Room) s m #[(.ref r0), (.int p1)] below meth c s₁ [] 0 0 := Stand.of_body Bd
  have e0 : s₁.heap = h0 := by rw [← hh, Bd.state]; rfl
  have N0 := Fr.nil n0
  have hret := Bd.returns
  show own_Go p e below s (Q1 Z r0 p1 h0 n0) _ _ (s₁.setTop (entryFrame m #[(.ref r0), (.int p1)] 2))
  refine own_go (fun t k => castTop (ef_1 m r0 p1) k) ?_
  show own_Go p e below s _ _ _ (s₁.setTop (mkF m 0 #[.val (.ref r0), .val (.int p1)] []))
  refine own_go (fun t k => XS.aloadN X0.here hx rfl (hb hby d1_0) rfl rfl k) ?_
  show own_Go p e below s _ _ _ (s₁.setTop (mkF m 1 #[.val (.ref r0), .val (.int p1)] [(.ref r0)]))
  obtain ⟨T1, X1, e1, st1⟩ := initO X0 hx hZ hown (hw _ (List.mem_of_getElem? (i := 6) rfl)) (hw _ (List.mem_of_getElem? (i := 7) rfl)) (hw _ (List.mem_of_getElem? (i := 8) rfl)) e0 (g := (mkF m 1 #[.val (.ref r0), .val (.int p1)] [(.ref r0)])) rfl (by rw [hml]; rfl) rfl (hb hby d1_1) (by decide) (W := 0) (by show 2 * 0 + _ ≤ _; exact Nat.le_of_eq rfl) (by decide)
  refine own_go (fun t k => st1 _ k) ?_
  show own_Go p e below s _ _ _ (T1.setTop (mkF m 4 #[.val (.ref r0), .val (.int p1)] []))
  refine own_go (fun t k => XS.iloadN X1.here hx rfl (hb hby d1_4) rfl k) ?_
  show own_Go p e below s _ _ _ (T1.setTop (mkF m 5 #[.val (.ref r0), .val (.int p1)] [(.int p1)]))
  refine own_go (fun t k => XS.ifNo X1.here hx rfl (hb hby d1_5) rfl ((if0 _ _).trans (flt (own_ge k0)).1) k) ?_
  show own_Go p e below s _ _ _ (T1.setTop (mkF m 8 #[.val (.ref r0), .val (.int p1)] []))
  refine own_go (fun t k => XS.iloadN X1.here hx rfl (hb hby d1_8) rfl k) ?_
  show own_Go p e below s _ _ _ (T1.setTop (mkF m 9 #[.val (.ref r0), .val (.int p1)] [(.int p1)]))
  refine own_go (fun t k => XS.sipush X1.here hx rfl (hb hby d1_9) k) ?_
  show own_Go p e below s _ _ _ (T1.setTop (mkF m 12 #[.val (.ref r0), .val (.int p1)] [(.int (255 : Int32)), (.int p1)]))
  refine own_go (fun t k => XS.icmpYes X1.here hx rfl (pc0 := 12) (pc' := 29) rfl (hb hby d1_12) rfl (flt (own_le k1)).2.2.2 (by decide) (by decide) k) ?_
  show own_Go p e below s _ _ _ (T1.setTop (mkF m 29 #[.val (.ref r0), .val (.int p1)] []))
  refine own_go (fun t k => XS.aloadN X1.here hx rfl (hb hby d1_29) rfl rfl k) ?_
  show own_Go p e below s _ _ _ (T1.setTop (mkF m 30 #[.val (.ref r0), .val (.int p1)] [(.ref r0)]))
  refine own_go (fun t k => XS.iloadN X1.here hx rfl (hb hby d1_30) rfl k) ?_
  show own_Go p e below s _ _ _ (T1.setTop (mkF m 31 #[.val (.ref r0), .val (.int p1)] [(.int p1), (.ref r0)]))
  obtain ⟨T2, h2, X2, e2, W2, st2⟩ := putF X1 hx hZ hown (host := "") (Or.inl (hw _ (List.mem_of_getElem? (i := 9) rfl))) Via.refl e1 F0 E0 (Or.inr ⟨(hw _ (List.mem_of_getElem? (i := 10) rfl)), rfl, hnm⟩) (hw _ (List.mem_of_getElem? (i := 1) rfl)) (ty := .int) (by decide) rfl rfl (g := (mkF m 31 #[.val (.ref r0), .val (.int p1)] [(.int p1), (.ref r0)])) rfl rfl (hb hby d1_31)
  refine own_go (fun t k => st2 _ k) ?_
  have N2 := Fr.snoc X2 N0 g0
  have ZZ_2 : n0 ≤ h2.size := Nat.le_trans Z0 (Nat.le_of_eq W2.size.symm)
  have EE_2 : Exa Z h2 r0 "com/example/framer/framer/chunk/InitChunk" := E0.wr W2
  have FF_2 : Fld Z h2 r0 "com/example/framer/framer/chunk/InitChunk" "flags" "I" (.int p1) := F0.same W2
  have K2 : Keep h0 h2 [r0] := (Keep.refl h0 [r0]).wr W2 (Or.inl (by simp))
  show own_Go p e below s _ _ _ (T2.setTop (mkF m 34 #[.val (.ref r0), .val (.int p1)] []))
  refine own_ret X2 (v := none) (fun _ => rfl) hlk ?_ (by decide) (by decide) (fun fs hr => X2.returnOut hx hret (hb hby d1_34) hr)
  show Q1 Z r0 p1 h0 n0 (none) T2.heap _
  rw [e2]
  exact ⟨rfl, N2, K2, FF_2⟩
theorem d3_0 : decode prog_14_method_5_code 0 = .ok (.aload_n 0, 1) := by decide +kernel
theorem d3_1 : decode prog_14_method_5_code 1 = .ok (.getfield 18, 3) := by decide +kernel
theorem d3_4 : decode prog_14_method_5_code 4 = .ok (.iconst 2, 1) := by decide +kernel
theorem d3_5 : decode prog_14_method_5_code 5 = .ok (.iand, 1) := by decide +kernel
theorem d3_6 : decode prog_14_method_5_code 6 = .ok (.ifCond .eq 7, 3) := by decide +kernel
theorem d3_13 : decode prog_14_method_5_code 13 = .ok (.iconst 0, 1) := by decide +kernel
theorem d3_14 : decode prog_14_method_5_code 14 = .ok (.ireturn, 1) := by decide +kernel
theorem d3_9 : decode prog_14_method_5_code 9 = .ok (.iconst 1, 1) := by decide +kernel
theorem d3_10 : decode prog_14_method_5_code 10 = .ok (.goto 4, 3) := by decide +kernel
theorem ef_3 (m : MethodId) (r0 : Addr) : entryFrame m #[(.ref r0)] 1 = mkF m 0 #[.val (.ref r0)] [] := by first | (simp [entryFrame, mkF, argsToLocals, Value.category]; done) | rfl
def Q3 (Z : State) (r0 : Addr) (w3 : Int32) (h0 : Heap) (n0 : Nat) (v : Option Value) (h : Heap) (L : List Loc) : Prop := v = some (.int (own_b w3)) ∧ Fr n0 L ∧ h = h0
set_option maxRecDepth 65536 in
set_option maxHeartbeats 40000000 in
theorem rm3 (l : Launch) (Z : State) (a0 : Array Value) (hw : ∀ d ∈ tables_1, d.before a0 Z = true) (ws : List Jvm.Cond) (r0 : Addr) (w3 : Int32) (h0 : Heap) (n0 : Nat) (Z0 : n0 ≤ h0.size) (F0 : Fld Z h0 r0 "com/example/framer/framer/chunk/InitChunk" "flags" "I" (.int w3)) :
    MetFree l (⟨"com/example/framer/framer/chunk/InitChunk", "omitsStream", "()Z"⟩ : MethodName) (head1 (Jvm.Cond.code (⟨"com/example/framer/framer/chunk/InitChunk", "omitsStream", "()Z"⟩ : MethodName) prog_14_method_5_code 1 (some .boolean) :: ws) ({ frames := 0, cells := 0, slots := 0, locals := 0 } : Room)) (fun a U => a = #[(.ref r0)] ∧ Z.Warmed39 U.vm ∧ U.heap = h0) (fun _ _ _ _ _ => True) (fun _ U o U' => ∃ v L, o = .returned v ∧ Q3 Z r0 w3 h0 n0 v U'.heap L ∧ FrameEnd U o U' L (({ frames := 0, cells := 0, slots := 0, locals := 0 } : Room)).cells (({ frames := 0, cells := 0, slots := 0, locals := 0 } : Room)).slots) := by
  refine MetFree.of_bodySF (plainFor_of_name pn_0) hisR ?_
  intro p e s m args below meth c s₁ Bd hml0 hP hK
  obtain ⟨rfl, hZ, hh⟩ := hP
  have hx := Bd.exec
  have hby := Bd.bytes
  have hml : c.maxLocals = 1 := hml0
  have hown : s.vm.findClass "com/example/framer/framer/chunk/InitChunk" = some m.cls := findClass_of_methodNamed Bd.named
  have hnm := (name_of_methodNamed Bd.named Bd.method).1
  have hlk : meth.locks = false := Bd.notSynchronized
  have X0 : Stand p l e ({ frames := 0, cells := 0, slots := 0, locals := 0 } : Room) s m #[(.ref r0)] below meth c s₁ [] 0 0 := Stand.of_body Bd
  have e0 : s₁.heap = h0 := by rw [← hh, Bd.state]; rfl
  have N0 := Fr.nil n0
  have hret := Bd.returns
  show own_Go p e below s (Q3 Z r0 w3 h0 n0) _ _ (s₁.setTop (entryFrame m #[(.ref r0)] 1))
  refine own_go (fun t k => castTop (ef_3 m r0) k) ?_
  show own_Go p e below s _ _ _ (s₁.setTop (mkF m 0 #[.val (.ref r0)] []))
  refine own_go (fun t k => XS.aloadN X0.here hx rfl (hb hby d3_0) rfl rfl k) ?_
  show own_Go p e below s _ _ _ (s₁.setTop (mkF m 1 #[.val (.ref r0)] [(.ref r0)]))
  obtain ⟨T1, X1, e1, st1⟩ := getF X0 hx hZ hown (host := "") (Or.inl (hw _ (List.mem_of_getElem? (i := 9) rfl))) Via.refl e0 F0 (g := (mkF m 1 #[.val (.ref r0)] [(.ref r0)])) rfl rfl (hb hby d3_1)
  refine own_go (fun t k => st1 _ k) ?_
  show own_Go p e below s _ _ _ (T1.setTop (mkF m 4 #[.val (.ref r0)] [(.int w3)]))
  refine own_go (fun t k => XS.iconst X1.here hx rfl (hb hby d3_4) k) ?_
  show own_Go p e below s _ _ _ (T1.setTop (mkF m 5 #[.val (.ref r0)] [(.int (2 : Int32)), (.int w3)]))
  refine own_go (fun t k => XS.iand X1.here hx rfl (hb hby d3_5) rfl k) ?_
  show own_Go p e below s _ _ _ (T1.setTop (mkF m 6 #[.val (.ref r0)] [(.int (w3 &&& (2 : Int32)))]))
  by_cases hc6 : (w3 &&& (2 : Int32)) = (0 : Int32)
  · skip
    have hi6 : ((w3 &&& (2 : Int32))).toInt = 0 := congrArg Int32.toInt hc6
    refine own_go (fun t k => XS.ifYes X1.here hx rfl (pc0 := 6) (pc' := 13) rfl (hb hby d3_6) rfl ((if0 _ _).trans (teq hc6).1) (by decide) (by decide) k) ?_
    show own_Go p e below s _ _ _ (T1.setTop (mkF m 13 #[.val (.ref r0)] []))
    refine own_go (fun t k => XS.iconst X1.here hx rfl (hb hby d3_13) k) ?_
    show own_Go p e below s _ _ _ (T1.setTop (mkF m 14 #[.val (.ref r0)] [(.int (0 : Int32))]))
    refine own_ret X1 (v := some (.int (0 : Int32))) (fun h => by rw [hret] at h; cases h) hlk ?_ (by decide) (by decide) (fun fs hr => retN X1 hx (t := .boolean) hret (by simp) (hb hby d3_14) hr)
    show Q3 Z r0 w3 h0 n0 (some (.int (0 : Int32))) T1.heap _
    rw [e1]
    exact ⟨congrArg (fun z => some (Value.int z)) (by unfold own_b; simp [hc6]), N0, rfl⟩
  · skip
    have hi6 : ¬ ((w3 &&& (2 : Int32))).toInt = 0 := fun q => hc6 (Int32.toInt_inj.mp q)
    refine own_go (fun t k => XS.ifNo X1.here hx rfl (hb hby d3_6) rfl ((if0 _ _).trans (feq hc6).1) k) ?_
    show own_Go p e below s _ _ _ (T1.setTop (mkF m 9 #[.val (.ref r0)] []))
    refine own_go (fun t k => XS.iconst X1.here hx rfl (hb hby d3_9) k) ?_
    show own_Go p e below s _ _ _ (T1.setTop (mkF m 10 #[.val (.ref r0)] [(.int (1 : Int32))]))
    refine own_go (fun t k => XS.goto X1.here hx rfl (pc0 := 10) (pc' := 14) rfl (hb hby d3_10) (by decide) (by decide) k) ?_
    show own_Go p e below s _ _ _ (T1.setTop (mkF m 14 #[.val (.ref r0)] [(.int (1 : Int32))]))
    refine own_ret X1 (v := some (.int (1 : Int32))) (fun h => by rw [hret] at h; cases h) hlk ?_ (by decide) (by decide) (fun fs hr => retN X1 hx (t := .boolean) hret (by simp) (hb hby d3_14) hr)
    show Q3 Z r0 w3 h0 n0 (some (.int (1 : Int32))) T1.heap _
    rw [e1]
    exact ⟨congrArg (fun z => some (Value.int z)) (by unfold own_b; simp [hc6]), N0, rfl⟩
theorem pn_1 : plainName "com/example/framer/framer/chunk/InitChunkOmitsStreamPinLaw" = true := by first | (simp [plainName, overriddenIn]; done) | decide +kernel
theorem pd_0 : parseMethodDescriptor "(I)V" = some ⟨[.int], none⟩ := by decide +kernel
theorem pd_1 : parseMethodDescriptor "()Z" = some ⟨[], some .boolean⟩ := by decide +kernel
theorem ef_0 (m : MethodId) (p0 : Int32) : entryFrame m #[(.int p0)] maxLocals = mkF m 0 #[.val (.int p0), .unset, .unset, .unset, .unset, .unset, .unset] [] := by first | (simp [entryFrame, mkF, argsToLocals, Value.category, maxLocals]; done) | rfl
def Q0 (Z : State) (p0 : Int32) (h0 : Heap) (n0 : Nat) (v : Option Value) (h : Heap) (L : List Loc) : Prop := v = some (.int 1) ∧ Fr n0 L
set_option maxRecDepth 65536 in
set_option maxHeartbeats 40000000 in
theorem rm0 (l : Launch) (Z : State) (a0 : Array Value) (hw : ∀ d ∈ tables_1, d.before a0 Z = true) (ws : List Jvm.Cond) (p0 : Int32) (h0 : Heap) (n0 : Nat) (Z0 : n0 ≤ h0.size) :
    MetFree l x (head1 (Jvm.Cond.code x code maxLocals ret :: ws) room_1) (fun a U => a = #[(.int p0)] ∧ Z.Warmed39 U.vm ∧ U.heap = h0) (fun _ _ _ _ _ => True) (fun _ U o U' => ∃ v L, o = .returned v ∧ Q0 Z p0 h0 n0 v U'.heap L ∧ FrameEnd U o U' L (room_1).cells (room_1).slots) := by
  refine MetFree.of_bodySF (plainFor_of_name pn_1) hisR ?_
  intro p e s m args below meth c s₁ Bd hml0 hP hK
  obtain ⟨rfl, hZ, hh⟩ := hP
  have hx := Bd.exec
  have hby := Bd.bytes
  have hml : c.maxLocals = 7 := hml0
  have hown : s.vm.findClass "com/example/framer/framer/chunk/InitChunkOmitsStreamPinLaw" = some m.cls := findClass_of_methodNamed Bd.named
  have hnm := (name_of_methodNamed Bd.named Bd.method).1
  have hlk : meth.locks = false := Bd.notSynchronized
  have X0 : Stand p l e room_1 s m #[(.int p0)] below meth c s₁ [] 0 0 := Stand.of_body Bd
  have e0 : s₁.heap = h0 := by rw [← hh, Bd.state]; rfl
  have N0 := Fr.nil n0
  have hret := Bd.returns
  show own_Go p e below s (Q0 Z p0 h0 n0) _ _ (s₁.setTop (entryFrame m #[(.int p0)] maxLocals))
  refine own_go (fun t k => castTop (ef_0 m p0) k) ?_
  show own_Go p e below s _ _ _ (s₁.setTop (mkF m 0 #[.val (.int p0), .unset, .unset, .unset, .unset, .unset, .unset] []))
  refine own_go (fun t k => XS.iloadN X0.here hx rfl (hb hby at_0) rfl k) ?_
  show own_Go p e below s _ _ _ (s₁.setTop (mkF m 1 #[.val (.int p0), .unset, .unset, .unset, .unset, .unset, .unset] [(.int p0)]))
  refine own_go (fun t k => XS.sipush X0.here hx rfl (hb hby at_1) k) ?_
  show own_Go p e below s _ _ _ (s₁.setTop (mkF m 4 #[.val (.int p0), .unset, .unset, .unset, .unset, .unset, .unset] [(.int (255 : Int32)), (.int p0)]))
  refine own_go (fun t k => XS.iand X0.here hx rfl (hb hby at_4) rfl k) ?_
  show own_Go p e below s _ _ _ (s₁.setTop (mkF m 5 #[.val (.int p0), .unset, .unset, .unset, .unset, .unset, .unset] [(.int (p0 &&& (255 : Int32)))]))
  refine own_go (fun t k => XS.istoreN X0.here hx rfl (hb hby at_5) rfl (l' := #[.val (.int p0), .val (.int (p0 &&& (255 : Int32))), .unset, .unset, .unset, .unset, .unset]) rfl k) ?_
  show own_Go p e below s _ _ _ (s₁.setTop (mkF m 6 #[.val (.int p0), .val (.int (p0 &&& (255 : Int32))), .unset, .unset, .unset, .unset, .unset] []))
  obtain ⟨ff, hff⟩ : ∃ z, z = (p0 &&& (255 : Int32)) := ⟨_, rfl⟩
  rw [← hff]
  show own_Go p e below s _ _ _ (s₁.setTop (mkF m 6 #[.val (.int p0), .val (.int ff), .unset, .unset, .unset, .unset, .unset] []))
  obtain ⟨k0, k1, k2, k3, k4⟩ := own_f ff (by rw [hff]; exact (own_m p0).1) (by rw [hff]; exact (own_m p0).2)
  obtain ⟨T1, h1, X1, e1, E1, A1, D1, U1, st1⟩ := newO X0 hx hZ hown (hw _ (List.mem_of_getElem? (i := 0) rfl)) (hw _ (List.mem_of_getElem? (i := 1) rfl)) (hw _ (List.mem_of_getElem? (i := 2) rfl)) e0 (g := (mkF m 6 #[.val (.int p0), .val (.int ff), .unset, .unset, .unset, .unset, .unset] [])) rfl (hb hby at_6) (by decide) (by decide)
  obtain ⟨b1, g1⟩ : ∃ z, z = h0.size := ⟨_, rfl⟩
  rw [← g1] at A1 D1 U1 st1
  refine own_go (fun t k => st1 _ k) ?_
  have gt_b1 : n0 ≤ b1 := Nat.le_trans Z0 (Nat.le_of_eq g1.symm)
  have ZZ_1 : n0 ≤ h1.size := Nat.le_trans Z0 E1.1
  have F_flags_b1 : Fld Z h1 b1 "com/example/framer/framer/chunk/InitChunk" "flags" "I" (.int (0 : Int32)) := D1 (Or.inr (hw _ (List.mem_of_getElem? (i := 10) rfl))) (ty := .int) (by decide)
  show own_Go p e below s _ _ _ (T1.setTop (mkF m 9 #[.val (.int p0), .val (.int ff), .unset, .unset, .unset, .unset, .unset] [(.ref b1)]))
  refine own_go (fun t k => XS.dup X1.here hx rfl (hb hby at_9) rfl rfl k) ?_
  show own_Go p e below s _ _ _ (T1.setTop (mkF m 10 #[.val (.int p0), .val (.int ff), .unset, .unset, .unset, .unset, .unset] [(.ref b1), (.ref b1)]))
  refine own_go (fun t k => XS.iloadN X1.here hx rfl (hb hby at_10) rfl k) ?_
  show own_Go p e below s _ _ _ (T1.setTop (mkF m 11 #[.val (.int p0), .val (.int ff), .unset, .unset, .unset, .unset, .unset] [(.int ff), (.ref b1), (.ref b1)]))
  obtain ⟨_, _, ⟨T2, L2, k2, n2⟩, -, X2, ⟨Lc2, hQ2, l2, y2, z2⟩, st2⟩ := X1.specialBack hx (y := (⟨"com/example/framer/framer/chunk/InitChunk", "<init>", "(I)V"⟩ : MethodName)) rfl hown (mvT hZ (hw _ (List.mem_of_getElem? (i := 3) rfl))) (mvT hZ (hw _ (List.mem_of_getElem? (i := 4) rfl))) (mvT hZ (hw _ (List.mem_of_getElem? (i := 5) rfl))) (by decide) (backOf (W := 1) (rm1 l Z a0 hw [] (b1) (ff) h1 n0 ZZ_1 F_flags_b1 A1 gt_b1 (by rw [hff]; exact (own_m p0).1) (by rw [hff]; exact (own_m p0).2)) hZ (hw _ (List.mem_of_getElem? (i := 5) rfl)) (hw _ (List.mem_of_getElem? (i := 2) rfl)) (by decide) (by decide)) (g := (mkF m 11 #[.val (.int p0), .val (.int ff), .unset, .unset, .unset, .unset, .unset] [(.int ff), (.ref b1), (.ref b1)])) rfl (by rw [hml]; rfl) (Steps.refl _) (a := b1) (argsL := [(.int ff)]) (rest := [(.ref b1)]) (lenOf pd_0 rfl) rfl (by show 2 * 0 + _ ≤ _; exact Nat.le_of_eq rfl) (hb hby at_11) (fun _ _ => ⟨rfl, e1, (by decide : 1 + 0 ≤ _), (by decide : 1 + 0 ≤ _)⟩)
  dsimp only [Pt.U, Pt.locs, Pt.cells, Pt.slots] at X2 l2 y2 z2 st2 hQ2
  subst l2 y2 z2
  obtain ⟨rfl, Nq2, Kq2, Fq2⟩ := hQ2
  have N2 := Fr.app N0 Nq2
  refine own_go (fun t k => st2.trans k) ?_
  obtain ⟨h2, e2⟩ : ∃ z, T2.heap = z := ⟨_, rfl⟩
  rw [e2] at Kq2 Fq2
  have ZZ_2 : n0 ≤ h2.size := Nat.le_trans ZZ_1 Kq2.1
  have E_b1_2 : Exa Z h2 b1 "com/example/framer/framer/chunk/InitChunk" := A1.keep Kq2
  show own_Go p e below s _ _ _ (T2.setTop (mkF m 14 #[.val (.int p0), .val (.int ff), .unset, .unset, .unset, .unset, .unset] [(.ref b1)]))
  refine own_go (fun t k => XS.astoreN X2.here hx rfl (hb hby at_14) rfl rfl (l' := #[.val (.int p0), .val (.int ff), .val (.ref b1), .unset, .unset, .unset, .unset]) rfl k) ?_
  show own_Go p e below s _ _ _ (T2.setTop (mkF m 15 #[.val (.int p0), .val (.int ff), .val (.ref b1), .unset, .unset, .unset, .unset] []))
  obtain ⟨T3, h3, X3, e3, E3, A3, D3, U3, st3⟩ := newO X2 hx hZ hown (hw _ (List.mem_of_getElem? (i := 0) rfl)) (hw _ (List.mem_of_getElem? (i := 1) rfl)) (hw _ (List.mem_of_getElem? (i := 2) rfl)) e2 (g := (mkF m 15 #[.val (.int p0), .val (.int ff), .val (.ref b1), .unset, .unset, .unset, .unset] [])) rfl (hb hby at_15) (by decide) (by decide)
  obtain ⟨b3, g3⟩ : ∃ z, z = h2.size := ⟨_, rfl⟩
  rw [← g3] at A3 D3 U3 st3
  refine own_go (fun t k => st3 _ k) ?_
  have gt_b3 : n0 ≤ b3 := Nat.le_trans ZZ_2 (Nat.le_of_eq g3.symm)
  have ne_b1_b3 : b1 ≠ b3 := Nat.ne_of_lt (Nat.lt_of_lt_of_le E_b1_2.lt (Nat.le_of_eq g3.symm))
  have ZZ_3 : n0 ≤ h3.size := Nat.le_trans ZZ_2 E3.1
  have E_b1_3 : Exa Z h3 b1 "com/example/framer/framer/chunk/InitChunk" := E_b1_2.ext E3
  have F_flags_b1_3 : Fld Z h3 b1 "com/example/framer/framer/chunk/InitChunk" "flags" "I" (.int ff) := Fq2.ext E3
  have F_flags_b3 : Fld Z h3 b3 "com/example/framer/framer/chunk/InitChunk" "flags" "I" (.int (0 : Int32)) := D3 (Or.inr (hw _ (List.mem_of_getElem? (i := 10) rfl))) (ty := .int) (by decide)
  show own_Go p e below s _ _ _ (T3.setTop (mkF m 18 #[.val (.int p0), .val (.int ff), .val (.ref b1), .unset, .unset, .unset, .unset] [(.ref b3)]))
  refine own_go (fun t k => XS.dup X3.here hx rfl (hb hby at_18) rfl rfl k) ?_
  show own_Go p e below s _ _ _ (T3.setTop (mkF m 19 #[.val (.int p0), .val (.int ff), .val (.ref b1), .unset, .unset, .unset, .unset] [(.ref b3), (.ref b3)]))
  refine own_go (fun t k => XS.iloadN X3.here hx rfl (hb hby at_19) rfl k) ?_
  show own_Go p e below s _ _ _ (T3.setTop (mkF m 20 #[.val (.int p0), .val (.int ff), .val (.ref b1), .unset, .unset, .unset, .unset] [(.int ff), (.ref b3), (.ref b3)]))
  refine own_go (fun t k => XS.iconst X3.here hx rfl (hb hby at_20) k) ?_
  show own_Go p e below s _ _ _ (T3.setTop (mkF m 21 #[.val (.int p0), .val (.int ff), .val (.ref b1), .unset, .unset, .unset, .unset] [(.int (2 : Int32)), (.int ff), (.ref b3), (.ref b3)]))
  refine own_go (fun t k => XS.ixor X3.here hx rfl (hb hby at_21) rfl k) ?_
  show own_Go p e below s _ _ _ (T3.setTop (mkF m 22 #[.val (.int p0), .val (.int ff), .val (.ref b1), .unset, .unset, .unset, .unset] [(.int (ff ^^^ (2 : Int32))), (.ref b3), (.ref b3)]))
  obtain ⟨_, _, ⟨T4, L4, k4, n4⟩, -, X4, ⟨Lc4, hQ4, l4, y4, z4⟩, st4⟩ := X3.specialBack hx (y := (⟨"com/example/framer/framer/chunk/InitChunk", "<init>", "(I)V"⟩ : MethodName)) rfl hown (mvT hZ (hw _ (List.mem_of_getElem? (i := 3) rfl))) (mvT hZ (hw _ (List.mem_of_getElem? (i := 4) rfl))) (mvT hZ (hw _ (List.mem_of_getElem? (i := 5) rfl))) (by decide) (backOf (W := 1) (rm1 l Z a0 hw [] (b3) ((ff ^^^ (2 : Int32))) h3 n0 ZZ_3 F_flags_b3 A3 gt_b3 k3 k4) hZ (hw _ (List.mem_of_getElem? (i := 5) rfl)) (hw _ (List.mem_of_getElem? (i := 2) rfl)) (by decide) (by decide)) (g := (mkF m 22 #[.val (.int p0), .val (.int ff), .val (.ref b1), .unset, .unset, .unset, .unset] [(.int (ff ^^^ (2 : Int32))), (.ref b3), (.ref b3)])) rfl (by rw [hml]; rfl) (Steps.refl _) (a := b3) (argsL := [(.int (ff ^^^ (2 : Int32)))]) (rest := [(.ref b3)]) (lenOf pd_0 rfl) rfl (by show 2 * 0 + _ ≤ _; exact Nat.le_of_eq rfl) (hb hby at_22) (fun _ _ => ⟨rfl, e3, (by decide : 2 + 0 ≤ _), (by decide : 2 + 0 ≤ _)⟩)
  dsimp only [Pt.U, Pt.locs, Pt.cells, Pt.slots] at X4 l4 y4 z4 st4 hQ4
  subst l4 y4 z4
  obtain ⟨rfl, Nq4, Kq4, Fq4⟩ := hQ4
  have N4 := Fr.app N2 Nq4
  refine own_go (fun t k => st4.trans k) ?_
  obtain ⟨h4, e4⟩ : ∃ z, T4.heap = z := ⟨_, rfl⟩
  rw [e4] at Kq4 Fq4
  have ZZ_4 : n0 ≤ h4.size := Nat.le_trans ZZ_3 Kq4.1
  have E_b1_4 : Exa Z h4 b1 "com/example/framer/framer/chunk/InitChunk" := E_b1_3.keep Kq4
  have F_flags_b1_4 : Fld Z h4 b1 "com/example/framer/framer/chunk/InitChunk" "flags" "I" (.int ff) := F_flags_b1_3.keep Kq4 (ninS ne_b1_b3 nin0)
  have E_b3_4 : Exa Z h4 b3 "com/example/framer/framer/chunk/InitChunk" := A3.keep Kq4
  show own_Go p e below s _ _ _ (T4.setTop (mkF m 25 #[.val (.int p0), .val (.int ff), .val (.ref b1), .unset, .unset, .unset, .unset] [(.ref b3)]))
  refine own_go (fun t k => XS.astoreN X4.here hx rfl (hb hby at_25) rfl rfl (l' := #[.val (.int p0), .val (.int ff), .val (.ref b1), .val (.ref b3), .unset, .unset, .unset]) rfl k) ?_
  show own_Go p e below s _ _ _ (T4.setTop (mkF m 26 #[.val (.int p0), .val (.int ff), .val (.ref b1), .val (.ref b3), .unset, .unset, .unset] []))
  refine own_go (fun t k => XS.iloadN X4.here hx rfl (hb hby at_26) rfl k) ?_
  show own_Go p e below s _ _ _ (T4.setTop (mkF m 27 #[.val (.int p0), .val (.int ff), .val (.ref b1), .val (.ref b3), .unset, .unset, .unset] [(.int ff)]))
  refine own_go (fun t k => XS.iconst X4.here hx rfl (hb hby at_27) k) ?_
  show own_Go p e below s _ _ _ (T4.setTop (mkF m 28 #[.val (.int p0), .val (.int ff), .val (.ref b1), .val (.ref b3), .unset, .unset, .unset] [(.int (2 : Int32)), (.int ff)]))
  refine own_go (fun t k => XS.idiv X4.here hx rfl (hb hby at_28) rfl (by decide) k) ?_
  show own_Go p e below s _ _ _ (T4.setTop (mkF m 29 #[.val (.int p0), .val (.int ff), .val (.ref b1), .val (.ref b3), .unset, .unset, .unset] [(.int (ff / (2 : Int32)))]))
  refine own_go (fun t k => XS.iconst X4.here hx rfl (hb hby at_29) k) ?_
  show own_Go p e below s _ _ _ (T4.setTop (mkF m 30 #[.val (.int p0), .val (.int ff), .val (.ref b1), .val (.ref b3), .unset, .unset, .unset] [(.int (2 : Int32)), (.int (ff / (2 : Int32)))]))
  refine own_go (fun t k => iremM X4 hx rfl (hb hby at_30) rfl (by decide) k) ?_
  show own_Go p e below s _ _ _ (T4.setTop (mkF m 31 #[.val (.int p0), .val (.int ff), .val (.ref b1), .val (.ref b3), .unset, .unset, .unset] [(.int ((ff / (2 : Int32)) % (2 : Int32)))]))
  refine own_go (fun t k => XS.iconst X4.here hx rfl (hb hby at_31) k) ?_
  show own_Go p e below s _ _ _ (T4.setTop (mkF m 32 #[.val (.int p0), .val (.int ff), .val (.ref b1), .val (.ref b3), .unset, .unset, .unset] [(.int (1 : Int32)), (.int ((ff / (2 : Int32)) % (2 : Int32)))]))
  have J40 : ∀ (T5 : State) (locs5 : List Loc) (X5 : Stand p l e room_1 s m #[(.int p0)] below meth c T5 locs5 2 2) (e5 : T5.heap = h4) (N5 : Fr n0 locs5) (z : Int32) (hz : z = own_e ff), own_Go p e below s (Q0 Z p0 h0 n0) (room_1).cells (room_1).slots (T5.setTop (mkF m 40 #[.val (.int p0), .val (.int ff), .val (.ref b1), .val (.ref b3), .unset, .unset, .unset] [(.int z)])) := by
    intro T5 locs5 X5 e5 N5 z hz
    refine own_go (fun t k => XS.istore X5.here hx rfl (hb hby at_40) rfl (l' := #[.val (.int p0), .val (.int ff), .val (.ref b1), .val (.ref b3), .val (.int z), .unset, .unset]) rfl k) ?_
    show own_Go p e below s _ _ _ (T5.setTop (mkF m 42 #[.val (.int p0), .val (.int ff), .val (.ref b1), .val (.ref b3), .val (.int z), .unset, .unset] []))
    refine own_go (fun t k => XS.aloadN X5.here hx rfl (hb hby at_42) rfl rfl k) ?_
    show own_Go p e below s _ _ _ (T5.setTop (mkF m 43 #[.val (.int p0), .val (.int ff), .val (.ref b1), .val (.ref b3), .val (.int z), .unset, .unset] [(.ref b1)]))
    obtain ⟨cq6, kq6, q6a, q6b, q6c⟩ := isOf hZ e5 E_b1_4
    obtain ⟨_, _, ⟨T6, L6, k6, n6⟩, -, X6, ⟨Lc6, hQ6, l6, y6, z6⟩, st6⟩ := X5.virtualBack hx (y := (⟨"com/example/framer/framer/chunk/InitChunk", "omitsStream", "()Z"⟩ : MethodName)) (z := (⟨"com/example/framer/framer/chunk/InitChunk", "omitsStream", "()Z"⟩ : MethodName)) hown (mvT hZ (hw _ (List.mem_of_getElem? (i := 11) rfl))) (mvT hZ (hw _ (List.mem_of_getElem? (i := 12) rfl))) (notFace_of_selects (args := #[]) (mvT hZ (hw _ (List.mem_of_getElem? (i := 14) rfl)))) (mvT hZ (hw _ (List.mem_of_getElem? (i := 14) rfl))) (mvT hZ (hw _ (List.mem_of_getElem? (i := 13) rfl))) (by decide) (backOf (W := 0) (rm3 l Z a0 hw [] (b1) (ff) h4 n0 ZZ_4 F_flags_b1_4) hZ (hw _ (List.mem_of_getElem? (i := 15) rfl)) (hw _ (List.mem_of_getElem? (i := 2) rfl)) (by decide) (by decide)) q6a q6c (g := (mkF m 43 #[.val (.int p0), .val (.int ff), .val (.ref b1), .val (.ref b3), .val (.int z), .unset, .unset] [(.ref b1)])) rfl (by rw [hml]; rfl) (Steps.refl _) (argsL := []) (rest := []) (lenOf pd_1 rfl) rfl (by show 2 * 0 + _ ≤ _; exact Nat.le_of_eq rfl) (hb hby at_43) (fun _ _ => ⟨rfl, e5, (by decide : 2 + 0 ≤ _), (by decide : 2 + 0 ≤ _)⟩)
    dsimp only [Pt.U, Pt.locs, Pt.cells, Pt.slots] at X6 l6 y6 z6 st6 hQ6
    subst l6 y6 z6
    obtain ⟨rfl, Nq6, eh6⟩ := hQ6
    have N6 := Fr.app N5 Nq6
    refine own_go (fun t k => st6.trans k) ?_
    have e6 : T6.heap = h4 := eh6
    show own_Go p e below s _ _ _ (T6.setTop (mkF m 46 #[.val (.int p0), .val (.int ff), .val (.ref b1), .val (.ref b3), .val (.int z), .unset, .unset] [(.int (own_b ff))]))
    refine own_go (fun t k => XS.istore X6.here hx rfl (hb hby at_46) rfl (l' := #[.val (.int p0), .val (.int ff), .val (.ref b1), .val (.ref b3), .val (.int z), .val (.int (own_b ff)), .unset]) rfl k) ?_
    show own_Go p e below s _ _ _ (T6.setTop (mkF m 48 #[.val (.int p0), .val (.int ff), .val (.ref b1), .val (.ref b3), .val (.int z), .val (.int (own_b ff)), .unset] []))
    refine own_go (fun t k => XS.aloadN X6.here hx rfl (hb hby at_48) rfl rfl k) ?_
    show own_Go p e below s _ _ _ (T6.setTop (mkF m 49 #[.val (.int p0), .val (.int ff), .val (.ref b1), .val (.ref b3), .val (.int z), .val (.int (own_b ff)), .unset] [(.ref b3)]))
    obtain ⟨cq7, kq7, q7a, q7b, q7c⟩ := isOf hZ e6 E_b3_4
    obtain ⟨_, _, ⟨T7, L7, k7, n7⟩, -, X7, ⟨Lc7, hQ7, l7, y7, z7⟩, st7⟩ := X6.virtualBack hx (y := (⟨"com/example/framer/framer/chunk/InitChunk", "omitsStream", "()Z"⟩ : MethodName)) (z := (⟨"com/example/framer/framer/chunk/InitChunk", "omitsStream", "()Z"⟩ : MethodName)) hown (mvT hZ (hw _ (List.mem_of_getElem? (i := 11) rfl))) (mvT hZ (hw _ (List.mem_of_getElem? (i := 12) rfl))) (notFace_of_selects (args := #[]) (mvT hZ (hw _ (List.mem_of_getElem? (i := 14) rfl)))) (mvT hZ (hw _ (List.mem_of_getElem? (i := 14) rfl))) (mvT hZ (hw _ (List.mem_of_getElem? (i := 13) rfl))) (by decide) (backOf (W := 0) (rm3 l Z a0 hw [] (b3) ((ff ^^^ (2 : Int32))) h4 n0 ZZ_4 Fq4) hZ (hw _ (List.mem_of_getElem? (i := 15) rfl)) (hw _ (List.mem_of_getElem? (i := 2) rfl)) (by decide) (by decide)) q7a q7c (g := (mkF m 49 #[.val (.int p0), .val (.int ff), .val (.ref b1), .val (.ref b3), .val (.int z), .val (.int (own_b ff)), .unset] [(.ref b3)])) rfl (by rw [hml]; rfl) (Steps.refl _) (argsL := []) (rest := []) (lenOf pd_1 rfl) rfl (by show 2 * 0 + _ ≤ _; exact Nat.le_of_eq rfl) (hb hby at_49) (fun _ _ => ⟨rfl, e6, (by decide : 2 + 0 ≤ _), (by decide : 2 + 0 ≤ _)⟩)
    dsimp only [Pt.U, Pt.locs, Pt.cells, Pt.slots] at X7 l7 y7 z7 st7 hQ7
    subst l7 y7 z7
    obtain ⟨rfl, Nq7, eh7⟩ := hQ7
    have N7 := Fr.app N6 Nq7
    refine own_go (fun t k => st7.trans k) ?_
    have e7 : T7.heap = h4 := eh7
    show own_Go p e below s _ _ _ (T7.setTop (mkF m 52 #[.val (.int p0), .val (.int ff), .val (.ref b1), .val (.ref b3), .val (.int z), .val (.int (own_b ff)), .unset] [(.int (own_b (ff ^^^ (2 : Int32))))]))
    refine own_go (fun t k => XS.istore X7.here hx rfl (hb hby at_52) rfl (l' := #[.val (.int p0), .val (.int ff), .val (.ref b1), .val (.ref b3), .val (.int z), .val (.int (own_b ff)), .val (.int (own_b (ff ^^^ (2 : Int32))))]) rfl k) ?_
    show own_Go p e below s _ _ _ (T7.setTop (mkF m 54 #[.val (.int p0), .val (.int ff), .val (.ref b1), .val (.ref b3), .val (.int z), .val (.int (own_b ff)), .val (.int (own_b (ff ^^^ (2 : Int32))))] []))
    refine own_go (fun t k => XS.iload X7.here hx rfl (hb hby at_54) rfl k) ?_
    show own_Go p e below s _ _ _ (T7.setTop (mkF m 56 #[.val (.int p0), .val (.int ff), .val (.ref b1), .val (.ref b3), .val (.int z), .val (.int (own_b ff)), .val (.int (own_b (ff ^^^ (2 : Int32))))] [(.int (own_b ff))]))
    refine own_go (fun t k => XS.iload X7.here hx rfl (hb hby at_56) rfl k) ?_
    show own_Go p e below s _ _ _ (T7.setTop (mkF m 58 #[.val (.int p0), .val (.int ff), .val (.ref b1), .val (.ref b3), .val (.int z), .val (.int (own_b ff)), .val (.int (own_b (ff ^^^ (2 : Int32))))] [(.int z), (.int (own_b ff))]))
    refine own_go (fun t k => XS.icmpNo X7.here hx rfl (hb hby at_58) rfl (teq (k0.trans hz.symm)).2 k) ?_
    show own_Go p e below s _ _ _ (T7.setTop (mkF m 61 #[.val (.int p0), .val (.int ff), .val (.ref b1), .val (.ref b3), .val (.int z), .val (.int (own_b ff)), .val (.int (own_b (ff ^^^ (2 : Int32))))] []))
    refine own_go (fun t k => XS.iload X7.here hx rfl (hb hby at_61) rfl k) ?_
    show own_Go p e below s _ _ _ (T7.setTop (mkF m 63 #[.val (.int p0), .val (.int ff), .val (.ref b1), .val (.ref b3), .val (.int z), .val (.int (own_b ff)), .val (.int (own_b (ff ^^^ (2 : Int32))))] [(.int (own_b (ff ^^^ (2 : Int32))))]))
    refine own_go (fun t k => XS.iload X7.here hx rfl (hb hby at_63) rfl k) ?_
    show own_Go p e below s _ _ _ (T7.setTop (mkF m 65 #[.val (.int p0), .val (.int ff), .val (.ref b1), .val (.ref b3), .val (.int z), .val (.int (own_b ff)), .val (.int (own_b (ff ^^^ (2 : Int32))))] [(.int z), (.int (own_b (ff ^^^ (2 : Int32))))]))
    have J73 : ∀ (T8 : State) (locs8 : List Loc) (X8 : Stand p l e room_1 s m #[(.int p0)] below meth c T8 locs8 2 2) (e8 : T8.heap = h4) (N8 : Fr n0 locs8) (y : Int32) (hy : y = own_b (ff ^^^ (2 : Int32))), own_Go p e below s (Q0 Z p0 h0 n0) (room_1).cells (room_1).slots (T8.setTop (mkF m 73 #[.val (.int p0), .val (.int ff), .val (.ref b1), .val (.ref b3), .val (.int z), .val (.int (own_b ff)), .val (.int (own_b (ff ^^^ (2 : Int32))))] [(.int y), (.int (own_b (ff ^^^ (2 : Int32))))])) := by
      intro T8 locs8 X8 e8 N8 y hy
      refine own_go (fun t k => XS.icmpNo X8.here hx rfl (hb hby at_73) rfl (teq hy.symm).2 k) ?_
      show own_Go p e below s _ _ _ (T8.setTop (mkF m 76 #[.val (.int p0), .val (.int ff), .val (.ref b1), .val (.ref b3), .val (.int z), .val (.int (own_b ff)), .val (.int (own_b (ff ^^^ (2 : Int32))))] []))
      refine own_go (fun t k => XS.iconst X8.here hx rfl (hb hby at_76) k) ?_
      show own_Go p e below s _ _ _ (T8.setTop (mkF m 77 #[.val (.int p0), .val (.int ff), .val (.ref b1), .val (.ref b3), .val (.int z), .val (.int (own_b ff)), .val (.int (own_b (ff ^^^ (2 : Int32))))] [(.int (1 : Int32))]))
      refine own_go (fun t k => XS.goto X8.here hx rfl (pc0 := 77) (pc' := 81) rfl (hb hby at_77) (by decide) (by decide) k) ?_
      show own_Go p e below s _ _ _ (T8.setTop (mkF m 81 #[.val (.int p0), .val (.int ff), .val (.ref b1), .val (.ref b3), .val (.int z), .val (.int (own_b ff)), .val (.int (own_b (ff ^^^ (2 : Int32))))] [(.int (1 : Int32))]))
      refine own_ret X8 (v := some (.int (1 : Int32))) (fun h => by rw [hret] at h; cases h) hlk ?_ (by decide) (by decide) (fun fs hr => retN X8 hx (t := .boolean) hret (by simp) (hb hby at_81) hr)
      show Q0 Z p0 h0 n0 (some (.int (1 : Int32))) T8.heap _
      rw [e8]
      exact ⟨rfl, N8⟩
    by_cases hc65 : z = (0 : Int32)
    · skip
      have hi65 : z.toInt = 0 := congrArg Int32.toInt hc65
      refine own_go (fun t k => XS.ifNo X7.here hx rfl (hb hby at_65) rfl ((if0 _ _).trans (teq hc65).2) k) ?_
      show own_Go p e below s _ _ _ (T7.setTop (mkF m 68 #[.val (.int p0), .val (.int ff), .val (.ref b1), .val (.ref b3), .val (.int z), .val (.int (own_b ff)), .val (.int (own_b (ff ^^^ (2 : Int32))))] [(.int (own_b (ff ^^^ (2 : Int32))))]))
      refine own_go (fun t k => XS.iconst X7.here hx rfl (hb hby at_68) k) ?_
      show own_Go p e below s _ _ _ (T7.setTop (mkF m 69 #[.val (.int p0), .val (.int ff), .val (.ref b1), .val (.ref b3), .val (.int z), .val (.int (own_b ff)), .val (.int (own_b (ff ^^^ (2 : Int32))))] [(.int (1 : Int32)), (.int (own_b (ff ^^^ (2 : Int32))))]))
      refine own_go (fun t k => XS.goto X7.here hx rfl (pc0 := 69) (pc' := 73) rfl (hb hby at_69) (by decide) (by decide) k) ?_
      show own_Go p e below s _ _ _ (T7.setTop (mkF m 73 #[.val (.int p0), .val (.int ff), .val (.ref b1), .val (.ref b3), .val (.int z), .val (.int (own_b ff)), .val (.int (own_b (ff ^^^ (2 : Int32))))] [(.int (1 : Int32)), (.int (own_b (ff ^^^ (2 : Int32))))]))
      exact J73 T7 _ X7 e7 N7  ((1 : Int32)) (by rw [k1, ← hz]; first | rw [if_pos hc65] | rw [if_neg hc65])
    · skip
      have hi65 : ¬ z.toInt = 0 := fun q => hc65 (Int32.toInt_inj.mp q)
      refine own_go (fun t k => XS.ifYes X7.here hx rfl (pc0 := 65) (pc' := 72) rfl (hb hby at_65) rfl ((if0 _ _).trans (feq hc65).2) (by decide) (by decide) k) ?_
      show own_Go p e below s _ _ _ (T7.setTop (mkF m 72 #[.val (.int p0), .val (.int ff), .val (.ref b1), .val (.ref b3), .val (.int z), .val (.int (own_b ff)), .val (.int (own_b (ff ^^^ (2 : Int32))))] [(.int (own_b (ff ^^^ (2 : Int32))))]))
      refine own_go (fun t k => XS.iconst X7.here hx rfl (hb hby at_72) k) ?_
      show own_Go p e below s _ _ _ (T7.setTop (mkF m 73 #[.val (.int p0), .val (.int ff), .val (.ref b1), .val (.ref b3), .val (.int z), .val (.int (own_b ff)), .val (.int (own_b (ff ^^^ (2 : Int32))))] [(.int (0 : Int32)), (.int (own_b (ff ^^^ (2 : Int32))))]))
      exact J73 T7 _ X7 e7 N7  ((0 : Int32)) (by rw [k1, ← hz]; first | rw [if_pos hc65] | rw [if_neg hc65])
  by_cases hc32 : ((ff / (2 : Int32)) % (2 : Int32)) = (1 : Int32)
  · skip
    have hi32 : (((ff / (2 : Int32)) % (2 : Int32))).toInt = 1 := congrArg Int32.toInt hc32
    refine own_go (fun t k => XS.icmpNo X4.here hx rfl (hb hby at_32) rfl (teq hc32).2 k) ?_
    show own_Go p e below s _ _ _ (T4.setTop (mkF m 35 #[.val (.int p0), .val (.int ff), .val (.ref b1), .val (.ref b3), .unset, .unset, .unset] []))
    refine own_go (fun t k => XS.iconst X4.here hx rfl (hb hby at_35) k) ?_
    show own_Go p e below s _ _ _ (T4.setTop (mkF m 36 #[.val (.int p0), .val (.int ff), .val (.ref b1), .val (.ref b3), .unset, .unset, .unset] [(.int (1 : Int32))]))
    refine own_go (fun t k => XS.goto X4.here hx rfl (pc0 := 36) (pc' := 40) rfl (hb hby at_36) (by decide) (by decide) k) ?_
    show own_Go p e below s _ _ _ (T4.setTop (mkF m 40 #[.val (.int p0), .val (.int ff), .val (.ref b1), .val (.ref b3), .unset, .unset, .unset] [(.int (1 : Int32))]))
    exact J40 T4 _ X4 e4 N4  ((1 : Int32)) (by unfold own_e; first | rw [if_pos hc32] | rw [if_neg hc32])
  · skip
    have hi32 : ¬ (((ff / (2 : Int32)) % (2 : Int32))).toInt = 1 := fun q => hc32 (Int32.toInt_inj.mp q)
    refine own_go (fun t k => XS.icmpYes X4.here hx rfl (pc0 := 32) (pc' := 39) rfl (hb hby at_32) rfl (feq hc32).2 (by decide) (by decide) k) ?_
    show own_Go p e below s _ _ _ (T4.setTop (mkF m 39 #[.val (.int p0), .val (.int ff), .val (.ref b1), .val (.ref b3), .unset, .unset, .unset] []))
    refine own_go (fun t k => XS.iconst X4.here hx rfl (hb hby at_39) k) ?_
    show own_Go p e below s _ _ _ (T4.setTop (mkF m 40 #[.val (.int p0), .val (.int ff), .val (.ref b1), .val (.ref b3), .unset, .unset, .unset] [(.int (0 : Int32))]))
    exact J40 T4 _ X4 e4 N4  ((0 : Int32)) (by unfold own_e; first | rw [if_pos hc32] | rw [if_neg hc32])
set_option maxRecDepth 65536 in
set_option maxHeartbeats 40000000 in
theorem comes_1 {Post : Tables → Env → Array Value → State → Outcome → State → Prop} (hpost : ∀ tb e args s v u, (limb_1_1.after args s (.returned v) u = true ∧ limb_1_2.after args s (.returned v) u = true ∧ True) → FrameEnd s (.returned v) u (Jvm.fieldLocs frame_1_writes args s ++ Jvm.arrayLocs frame_1_arrays args s ++ Jvm.staticLocs frame_1_statics s) 16 128 → Post tb e args s (.returned v) u) :
    ArmFor flags0 classFile x code maxLocals ret World_1 tables_1 room_1 Calls_1 rest_1 Pre_1 Post := by
  intro l hfl _ _ p e ha hc hk s m args below hf hA hF happ hP
  obtain ⟨hcalls, hrest, hpre⟩ := hP
  obtain ⟨-, -, -, hnamed, -, -, -, hat⟩ := (Spec.applies_iff hf).mp happ
  obtain ⟨hg, hn⟩ := and_e (Cond.before_iff.mp (show (Jvm.Cond.and given_1 narrow_1).before args s = true from hpre))
  obtain ⟨g1, g2⟩ := and_e hg
  obtain ⟨w0, rfl⟩ : ∃ w0 : Value, args = #[w0] := by
    have hs : args.size = 1 := by simpa [Cond.value, given_1] using g1
    obtain ⟨L⟩ := args
    match L, hs with
    | [w0], _ => exact ⟨w0, rfl⟩
  have hw := fun d (hd : d ∈ tables_1) => atoms_spec (ws := Jvm.Cond.code x code maxLocals ret :: tables_1) hat d (List.mem_cons_of_mem _ hd)
  have hfit : Fit s := fun {y c} hc i hi => by
    obtain ⟨ha, rfl⟩ := Array.getElem?_eq_some_iff.mp hc
    have q := List.all_eq_true.mp ((Array.all_eq_true_iff_forall_mem.mp hF) _ (Array.getElem_mem ha)) i (List.mem_range.mpr hi)
    simpa [Array.getElem?_eq_getElem hi] using q
  obtain ⟨i0, ei0⟩ := is_v g2
  obtain rfl : w0 = (.int i0) := Option.some.inj ei0
  obtain ⟨n, o, h1, h2, h3, _, L, rfl, ⟨rfl, N⟩, hq⟩ := rm0 l s _ hw tables_1 i0  s.heap s.heap.size (Nat.le_refl _)  p e ha hc hk s m _ below hf ((Spec.applies_iff_loose hf).mp happ).1 ⟨rfl, State.Warmed39.refl s, rfl⟩ trivial
  refine ⟨n, _, h1, h2, h3, hpost _ _ _ _ _ _ ⟨Cond.after_iff.mpr rfl, Cond.after_iff.mpr (eq_i res_at (Term.int_eval (1)) rfl), trivial⟩ ⟨hq.1, hq.2.1, (hq.2.2.sift fun y hy => Or.inr (N y hy)).mono (by decide) (by decide)⟩⟩
theorem main_1_1 : Claimed_1_1 := comes_1 fun _ _ _ _ _ _ h hF => ⟨h.1, hF⟩
theorem main_1_2 : Claimed_1_2 := comes_1 fun _ _ _ _ _ _ h hF => ⟨h.2.1, hF⟩
end Jvm.Pilot.@@N@@
namespace Jvm.Pilot.@@N@@
open Jvm Jvm.ClassFile Sem Op Lib Jvm.Free Jvm.Stand Jvm.Pilot.@@N@@.Jvm.D
/-! MADE BY PROGRAM (witnessworld.py) out of the Statement's table words and the real class files: 10 classes; the members and pool entries that the words name. The judged class is class 1, her method 1. -/
namespace start1
open Jvm.ClassFile
def u (s : String) : CpInfo := .utf8 (stringToUtf16 s)
/-- a pool by its gaps: so many unusable entries, then the entry; so many at the end -/
def gap : Nat → List CpInfo → List CpInfo
  | 0, r => r
  | n + 1, r => .unusable :: gap n r
def poolList (es : List (Nat × CpInfo)) (last : Nat) : List CpInfo := es.foldr (fun e r => gap e.1 (e.2 :: r)) (gap last [])
def pool (es : List (Nat × CpInfo)) (last : Nat) : Array CpInfo := ⟨poolList es last⟩
def fileOf (pool : Array CpInfo) (this : Nat) (attrs : Array Attribute := #[]) (ms : Array MethodInfo := #[]) (fl : Nat := 33) (sup : Nat := 0) (ifs : Array Nat := #[]) (fds : Array FieldInfo := #[]) : ClassFile where
  minorVersion := 0
  majorVersion := 65
  constantPool := pool
  accessFlags := fl
  thisClass := this
  superClass := sup
  interfaces := ifs
  fields := fds
  methods := ms
  attributes := attrs
def plain (name : String) (sup : Option ClassId) : Class where
  name := name
  kind := .ordinary
  loader := none
  accessFlags := 33
  super := sup
  interfaces := #[]
  cf := none
  fields := #[]
  methods := #[]
  instanceTypes := #[]
  staticTypes := #[]
  resolved := #[]
  callSites := []
  init := .initialized
  statics := none
  mirror := none

def pool0 : Array CpInfo := pool [(5, u "<init>"), (0, u "()V"), (1, .class_ 10), (1, u "java/lang/Object")] 113

def k0c0 : Code := { maxStack := 0, maxLocals := 1, code := object_method_1_code, exceptionTable := #[], attributes := #[] }
def k0m0 : Method := { name := "<init>", desc := "()V", sig := { parameters := [], returnType := none }, accessFlags := 1, code := some k0c0 }
/-- java/lang/Object -/
def k0 : Class := { plain "java/lang/Object" none with
  accessFlags := 33
  interfaces := #[]
  cf := some (fileOf pool0 8 #[] #[{ accessFlags := 1, nameIndex := 5, descriptorIndex := 6, attributes := #[] }] 33 0 #[] #[])
  fields := #[]
  methods := #[k0m0]
  instanceTypes := #[]
  staticTypes := #[]
  resolved := Array.replicate 124 none
  statics := none }

def pool1 : Array CpInfo := pool [(2, .class_ 4), (1, u "java/lang/Object"), (0, u "<init>"), (0, u "()V"), (0, .class_ 8), (0, u "com/example/framer/framer/chunk/InitChunk"), (0, .methodref 7 10), (0, .nameAndType 5 11), (0, u "(I)V"), (0, .methodref 7 13), (0, .nameAndType 14 15), (0, u "omitsStream"), (0, u "()Z"), (0, .class_ 17), (0, u "com/example/framer/framer/chunk/InitChunkOmitsStreamPinLaw"), (2, u "law"), (0, u "(I)Z")] 3

def k1m0 : Method := { name := "<init>", desc := "()V", sig := { parameters := [], returnType := none }, accessFlags := 1, code := none }
def k1c1 : Code := { maxStack := 4, maxLocals := 7, code := code, exceptionTable := #[], attributes := #[] }
def k1m1 : Method := { name := "law", desc := "(I)Z", sig := { parameters := [.int], returnType := some .boolean }, accessFlags := 9, code := some k1c1 }
/-- com/example/framer/framer/chunk/InitChunkOmitsStreamPinLaw -/
def k1 : Class := { plain "com/example/framer/framer/chunk/InitChunkOmitsStreamPinLaw" (some 0) with
  accessFlags := 49
  interfaces := #[]
  cf := some (fileOf pool1 16 #[] #[{ accessFlags := 1, nameIndex := 5, descriptorIndex := 6, attributes := #[] }, { accessFlags := 9, nameIndex := 20, descriptorIndex := 21, attributes := #[] }] 49 2 #[] #[])
  fields := #[]
  methods := #[k1m0, k1m1]
  instanceTypes := #[]
  staticTypes := #[]
  resolved := Array.replicate 25 none
  statics := none }

def pool2 : Array CpInfo := pool [(1, .class_ 2), (0, u "com/example/framer/framer/chunk/Chunk"), (0, .class_ 4), (0, u "java/lang/Object"), (0, u "HEADER_LENGTH"), (0, u "I"), (2, u "MAX_LENGTH")] 18

/-- com/example/framer/framer/chunk/Chunk -/
def k2 : Class := { plain "com/example/framer/framer/chunk/Chunk" (some 0) with
  accessFlags := 1537
  interfaces := #[]
  cf := some (fileOf pool2 1 #[] #[] 1537 3 #[] #[{ accessFlags := 25, nameIndex := 5, descriptorIndex := 6, attributes := #[] }, { accessFlags := 25, nameIndex := 9, descriptorIndex := 6, attributes := #[] }])
  fields := #[{ name := "HEADER_LENGTH", type := .int, accessFlags := 25, slot := 0, constantValue := 0 }, { name := "MAX_LENGTH", type := .int, accessFlags := 25, slot := 1, constantValue := 0 }]
  methods := #[]
  instanceTypes := #[]
  staticTypes := #[.int, .int]
  resolved := Array.replicate 28 none
  statics := none }

def pool3 : Array CpInfo := pool [(1, .class_ 2), (0, u "com/example/framer/framer/chunk/InitChunk"), (0, .methodref 4 5), (0, .class_ 6), (0, .nameAndType 7 8), (0, u "java/lang/Object"), (0, u "<init>"), (0, u "()V"), (9, .fieldref 1 19), (0, .nameAndType 20 21), (0, u "flags"), (0, u "I"), (6, .class_ 29), (0, u "com/example/framer/framer/chunk/Chunk"), (3, u "()Z"), (2, u "omitsStream"), (35, u "NO_TSN"), (2, u "NO_STREAM"), (1, u "NO_PPID"), (1, u "KNOWN_FLAGS"), (1, u "WORD_LENGTH"), (0, u "(I)V")] 27

def k3c0 : Code := { maxStack := 3, maxLocals := 2, code := prog_14_method_1_code, exceptionTable := #[], attributes := #[] }
def k3m0 : Method := { name := "<init>", desc := "(I)V", sig := { parameters := [.int], returnType := none }, accessFlags := 1, code := some k3c0 }
def k3c1 : Code := { maxStack := 2, maxLocals := 1, code := prog_14_method_5_code, exceptionTable := #[], attributes := #[] }
def k3m1 : Method := { name := "omitsStream", desc := "()Z", sig := { parameters := [], returnType := some .boolean }, accessFlags := 1, code := some k3c1 }
/-- com/example/framer/framer/chunk/InitChunk -/
def k3 : Class := { plain "com/example/framer/framer/chunk/InitChunk" (some 0) with
  accessFlags := 49
  interfaces := #[2]
  cf := some (fileOf pool3 1 #[] #[{ accessFlags := 1, nameIndex := 7, descriptorIndex := 82, attributes := #[] }, { accessFlags := 1, nameIndex := 36, descriptorIndex := 33, attributes := #[] }] 49 4 #[28] #[{ accessFlags := 25, nameIndex := 72, descriptorIndex := 21, attributes := #[] }, { accessFlags := 25, nameIndex := 75, descriptorIndex := 21, attributes := #[] }, { accessFlags := 25, nameIndex := 77, descriptorIndex := 21, attributes := #[] }, { accessFlags := 25, nameIndex := 79, descriptorIndex := 21, attributes := #[] }, { accessFlags := 26, nameIndex := 81, descriptorIndex := 21, attributes := #[] }, { accessFlags := 18, nameIndex := 20, descriptorIndex := 21, attributes := #[] }])
  fields := #[{ name := "NO_TSN", type := .int, accessFlags := 25, slot := 0, constantValue := 0 }, { name := "NO_STREAM", type := .int, accessFlags := 25, slot := 1, constantValue := 0 }, { name := "NO_PPID", type := .int, accessFlags := 25, slot := 2, constantValue := 0 }, { name := "KNOWN_FLAGS", type := .int, accessFlags := 25, slot := 3, constantValue := 0 }, { name := "WORD_LENGTH", type := .int, accessFlags := 26, slot := 4, constantValue := 0 }, { name := "flags", type := .int, accessFlags := 18, slot := 0, constantValue := 0 }]
  methods := #[k3m0, k3m1]
  instanceTypes := #[.int]
  staticTypes := #[.int, .int, .int, .int, .int]
  resolved := Array.replicate 110 none
  statics := none }

def pool4 : Array CpInfo := pool [(1, u "java/lang/Cloneable"), (0, .class_ 1), (0, u "java/lang/Object"), (0, .class_ 3)] 3

/-- java/lang/Cloneable -/
def k4 : Class := { plain "java/lang/Cloneable" (some 0) with
  accessFlags := 1537
  interfaces := #[]
  cf := some (fileOf pool4 2 #[] #[] 1537 4 #[] #[])
  fields := #[]
  methods := #[]
  instanceTypes := #[]
  staticTypes := #[]
  resolved := Array.replicate 8 none
  statics := none }

def pool5 : Array CpInfo := pool [(1, u "java/io/Serializable"), (0, .class_ 1), (0, u "java/lang/Object"), (0, .class_ 3)] 3

/-- java/io/Serializable -/
def k5 : Class := { plain "java/io/Serializable" (some 0) with
  accessFlags := 1537
  interfaces := #[]
  cf := some (fileOf pool5 2 #[] #[] 1537 4 #[] #[])
  fields := #[]
  methods := #[]
  instanceTypes := #[]
  staticTypes := #[]
  resolved := Array.replicate 8 none
  statics := none }

/-- the primitive byte -/
def k6 : Class := { plain "byte" none with kind := .primitive 'B', accessFlags := 0x411 }
/-- [B -/
def k7 : Class := { plain "[B" (some 0) with kind := .array 6 .byte, interfaces := #[4, 5], accessFlags := 1041 }

/-- the primitive int -/
def k8 : Class := { plain "int" none with kind := .primitive 'I', accessFlags := 0x411 }
/-- [I -/
def k9 : Class := { plain "[I" (some 0) with kind := .array 8 .int, interfaces := #[4, 5], accessFlags := 1041 }

def heap : Heap := #[]
def classes : Array Class := #[k0, k1, k2, k3, k4, k5, k6, k7, k8, k9]
def interned : List (Array UInt16 × Addr) := []
def slotsUsed : Nat := 0
def theMethod : MethodId := ⟨1, 1⟩
def args0 : Array Value := #[.int 5]
def aboutOver (below : List Frame) : State where
  vm := { classes := classes, interned := interned.toArray }
  heap := heap
  slotsUsed := slotsUsed
  threads := #[{ frames := .invoking theMethod args0 :: below }]
def below0 : List Frame := [.native { method := ⟨0, 0⟩, args := #[] }]
def about1 : State := aboutOver below0
def p0 : Program := .bare "" "" ""
def e0 : Env := launch0.env 0 0 0
theorem w_frames : about1.frames = Frame.invoking theMethod args0 :: below0 := rfl
set_option maxRecDepth 65536 in
theorem w_args : argsFit about1.vm theMethod args0 = true := by decide +kernel
set_option maxRecDepth 65536 in
theorem w_heap : heapFits about1 = true := by decide +kernel
set_option maxRecDepth 65536 in
theorem w_runnable : about1.curStatus? = some .runnable := by decide +kernel
set_option maxRecDepth 65536 in
theorem w_alone : about1.alone = true := by decide +kernel
set_option maxRecDepth 65536 in
theorem w_named : about1.methodNamed? x = some theMethod := by decide +kernel
set_option maxRecDepth 65536 in
theorem w_hears : about1.hears theMethod below0 = true := by decide +kernel
set_option maxRecDepth 65536 in
theorem w_ripe : about1.ripe theMethod args0 below0 = true := by decide +kernel
theorem w_running : about1.status = .running := rfl
set_option maxRecDepth 65536 in
theorem w_room : about1.hasRoom e0.platform room_1 = true :=
  launch0.hasRoom_least _ room_1 (by decide +kernel) (by decide +kernel) (by decide +kernel) (by decide +kernel) (by decide +kernel) (by decide +kernel)
theorem allAtoms_all (ts : List Jvm.Cond) (a : Array Jvm.Value) (st : Jvm.State) : (allAtoms ts).before a st = ts.all (fun c => c.before a st) := by
  induction ts with
  | nil => rfl
  | cons c t ih =>
    show (Jvm.Cond.and c (allAtoms t)).before a st = _
    rw [Jvm.Cond.before_and, ih, List.all_cons]
def words1 : List Jvm.Cond := Jvm.Cond.code x code maxLocals ret :: tables_1
/-- a 'code' word, met by the world's own term for the bytes: nothing is compared byte by byte -/
theorem code_word {y : MethodName} {bytes : ByteArray} {mx : Nat} {rt : Option FieldType} {a : Array Value} {s : State} {m : MethodId} {meth : Method} {c : Code} (h1 : s.methodNamed? y = some m) (h2 : s.vm.method? m = some meth) (h3 : meth.code = some c) (h4 : c.code = bytes)
    (h5 : (c.maxLocals == mx && c.exceptionTable.isEmpty && decide (c.maxStack ≤ mostOperands) && decide (meth.sig.returnType = rt) && !meth.locks && decide (parseMethodDescriptor y.desc = some meth.sig)) = true) : (Jvm.Cond.code y bytes mx rt).before a s = true := by
  simp only [Bool.and_eq_true, beq_iff_eq, Bool.not_eq_true', decide_eq_true_eq] at h5
  obtain ⟨⟨⟨⟨⟨g1, g2⟩, g3⟩, g4⟩, g5⟩, g6⟩ := h5
  simp [Cond.before, Cond.holds, Cond.value, h1, h2, h3, h4, g1, g2, g3, g4, g5, g6]
def isCode : Jvm.Cond → Bool
  | .code _ _ _ _ => true
  | _ => false
theorem all_split {L : List Jvm.Cond} {P : Jvm.Cond → Bool} (h1 : L.all (fun c => isCode c || P c) = true) (h2 : ∀ c ∈ L.filter isCode, P c = true) : L.all P = true := by
  refine List.all_eq_true.mpr fun c hc => ?_
  have h := List.all_eq_true.mp h1 c hc
  rcases Bool.eq_false_or_eq_true (isCode c) with hi | hi
  · exact h2 c (List.mem_filter.mpr ⟨hc, hi⟩)
  · simpa [hi] using h
set_option maxRecDepth 65536 in
theorem w_c0 : (Jvm.Cond.code x code maxLocals ret).before args0 about1 = true := code_word (m := ⟨1, 1⟩) (meth := k1m1) (c := k1c1) (by decide +kernel) rfl rfl rfl (by decide +kernel)
set_option maxRecDepth 65536 in
theorem w_c1 : (Jvm.Cond.code ({ cls := "com/example/framer/framer/chunk/InitChunk", name := "<init>", desc := "(I)V" } : Jvm.MethodName) prog_14_method_1_code (2 : Nat) (Option.none : Option Jvm.ClassFile.FieldType)).before args0 about1 = true := code_word (m := ⟨3, 0⟩) (meth := k3m0) (c := k3c0) (by decide +kernel) rfl rfl rfl (by decide +kernel)
set_option maxRecDepth 65536 in
theorem w_c2 : (Jvm.Cond.code ({ cls := "java/lang/Object", name := "<init>", desc := "()V" } : Jvm.MethodName) object_method_1_code (1 : Nat) (Option.none : Option Jvm.ClassFile.FieldType)).before args0 about1 = true := code_word (m := ⟨0, 0⟩) (meth := k0m0) (c := k0c0) (by decide +kernel) rfl rfl rfl (by decide +kernel)
set_option maxRecDepth 65536 in
theorem w_c3 : (Jvm.Cond.code ({ cls := "com/example/framer/framer/chunk/InitChunk", name := "omitsStream", desc := "()Z" } : Jvm.MethodName) prog_14_method_5_code (1 : Nat) (Option.some Jvm.ClassFile.FieldType.boolean)).before args0 about1 = true := code_word (m := ⟨3, 1⟩) (meth := k3m1) (c := k3c1) (by decide +kernel) rfl rfl rfl (by decide +kernel)
def codes1 : List Jvm.Cond := [Jvm.Cond.code x code maxLocals ret, Jvm.Cond.code ({ cls := "com/example/framer/framer/chunk/InitChunk", name := "<init>", desc := "(I)V" } : Jvm.MethodName) prog_14_method_1_code (2 : Nat) (Option.none : Option Jvm.ClassFile.FieldType), Jvm.Cond.code ({ cls := "java/lang/Object", name := "<init>", desc := "()V" } : Jvm.MethodName) object_method_1_code (1 : Nat) (Option.none : Option Jvm.ClassFile.FieldType), Jvm.Cond.code ({ cls := "com/example/framer/framer/chunk/InitChunk", name := "omitsStream", desc := "()Z" } : Jvm.MethodName) prog_14_method_5_code (1 : Nat) (Option.some Jvm.ClassFile.FieldType.boolean)]
set_option maxRecDepth 65536 in
theorem codes_eq : words1.filter isCode = codes1 := rfl
theorem w_codes : ∀ c ∈ words1.filter isCode, c.before args0 about1 = true := by
  rw [codes_eq]
  intro c hc
  simp only [codes1, List.mem_cons, List.not_mem_nil, or_false] at hc
  rcases hc with rfl | rfl | rfl | rfl
  · exact w_c0
  · exact w_c1
  · exact w_c2
  · exact w_c3
set_option maxRecDepth 65536 in
theorem w_t1 : words1.all (fun c => isCode c || c.before args0 about1) = true := by decide +kernel
theorem w_tables : (allAtoms (Jvm.Cond.code x code maxLocals ret :: tables_1)).before args0 about1 = true := by
  rw [allAtoms_all]
  show words1.all (fun c => c.before args0 about1) = true
  refine all_split ?_ w_codes
  rw [w_t1]
set_option maxRecDepth 65536 in
theorem w_case : (Jvm.Cond.and given_1 narrow_1).before args0 about1 = true := by decide +kernel
theorem w_applies : (headSpec (Jvm.Cond.code x code maxLocals ret :: tables_1) room_1).applies x e0.platform about1 = true :=
  (Spec.applies_iff w_frames).mpr ⟨w_running, w_runnable, w_alone, w_named, w_hears, w_ripe, w_room, w_tables⟩
theorem atStart : AtStart classFile x code maxLocals ret World_1 tables_1 room_1 Calls_1 rest_1 Pre_1 launch0 p0 e0 about1 theMethod args0 below0 :=
  ⟨lists_1, trivial, launch0.admits_env _ _ _, launch0.least_env, fairChoices_fair.cas, fairChoices_fair.clock, w_frames, w_args, w_heap, w_applies, trivial, trivial, w_case⟩
end start1
theorem witness_1 : WitnessClaimed_1 := ⟨start1.p0, start1.e0, start1.about1, start1.theMethod, start1.args0, start1.below0, start1.atStart⟩
end Jvm.Pilot.@@N@@
