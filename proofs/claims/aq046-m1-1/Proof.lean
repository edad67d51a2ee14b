import JvmDerived
import JvmDerived.Pilot.@@N@@Statement
import JvmDerived.Pilot.@@N@@Code
set_option linter.unusedVariables false
set_option linter.unusedSimpArgs false
namespace Jvm.RoadKit
open Sem ClassFile Op Lib Jvm.Stand Jvm.Free Jvm.LawKit
section New
variable {p : Program} {l : Launch} {e : Env} {R : Room} {s : State} {m : MethodId} {args : Array Value} {below : List Frame} {meth : Method} {c : Code} {T : State} {locs : List Loc} {cells slots : Nat}
theorem retI (X : Stand p l e R s m args below meth c T locs cells slots) (hx : p.tables.exec = Jvm.exec) {pc : Nat} {Ls : Array Slot} {z : Int32} {rest : List Value} (hret : meth.sig.returnType = some .int) (hd : decode c.code pc = .ok (.ireturn, 1)) {fs : List Frame}
    (hl : ∀ (f : JFrame) (acts : List Action), f.method = m → f.locked = none → f.entered = [] → (doReturn e (T.setTop f) acts (some (.int z))).1 = T.setFrames fs) : Steps p.tables e below (T.setTop (mkF m pc Ls (.int z :: rest))) (T.setFrames fs) := by
  have hm' : T.vm.method? m = some meth := X.method'
  have hn : narrow .int (.int z) = .int z := rfl
  show Steps p.tables e below (T.setTop { method := m, pc := pc, locals := Ls, stack := _ :: rest, locked := none }) _
  jvm_step X.here [X.here.top, hx, hd, hm', hret, hn]
  first | (intro acts; rw [hl _ acts rfl rfl rfl]) | rw [hl _ _ rfl rfl rfl]
  exact Steps.refl _
end New
end Jvm.RoadKit
namespace Jvm.Pilot.@@N@@
open Jvm Jvm.ClassFile Sem Op Lib Jvm.Free Jvm.Stand Jvm.LawKit Jvm.RoadKit Bundle Jvm.Pilot.@@N@@.Jvm.D
def own_b (P : Prop) [Decidable P] : Int32 := if P then 1 else 0
theorem own_bt {P : Prop} [Decidable P] (h : P) : own_b P = 1 := if_pos h
theorem own_bf {P : Prop} [Decidable P] (h : ¬ P) : own_b P = 0 := if_neg h
theorem own_bc {P Q : Prop} [Decidable P] [Decidable Q] (h : P ↔ Q) : own_b P = own_b Q := by
  by_cases q : P
  · rw [own_bt q, own_bt (h.mp q)]
  · rw [own_bf q, own_bf fun z => q (h.mpr z)]
theorem own_eqb {z : Int32} {P : Prop} [Decidable P] (h : z = 0 ↔ own_b P = 0) : own_b (¬ z = 0) = own_b P := by
  by_cases q : P
  · rw [own_bt q] at h ⊢
    exact own_bt fun e => absurd (h.mp e) (by decide)
  · rw [own_bf q] at h ⊢
    exact own_bf fun e => e (h.mpr rfl)
theorem own_and2 (n k : Nat) : n &&& 2 ^ k = 0 ↔ n / 2 ^ k % 2 = 0 := by
  constructor
  · intro h
    have z := congrArg (fun v => Nat.testBit v k) h
    simp only [Nat.testBit_and, Nat.testBit_two_pow_self, Bool.and_true, Nat.zero_testBit] at z
    rw [Nat.testBit_eq_decide_div_mod_eq] at z
    have := of_decide_eq_false z
    omega
  · intro h
    apply Nat.eq_of_testBit_eq
    intro i
    rw [Nat.testBit_and, Nat.zero_testBit, Nat.testBit_two_pow]
    by_cases q : k = i
    · subst q
      rw [Nat.testBit_eq_decide_div_mod_eq]
      simp [h]
    · simp [q]
theorem own_z0 (x : Int32) : x = 0 ↔ x.toBitVec.toNat = 0 := by
  rw [← Int32.toBitVec_inj]
  constructor
  · intro h; rw [h]; rfl
  · intro h; exact BitVec.eq_of_toNat_eq h
theorem own_mask (x : Int32) : (x &&& 536870911).toBitVec.toNat < 536870912 := by
  rw [Int32.toBitVec_and, BitVec.toNat_and]
  exact Nat.lt_of_le_of_lt Nat.and_le_right (by decide)
def own_pt (ww st sw ew : Int32) : Int32 := if ww = 0 then st else (4 * st + (if sw = 0 then 0 else 2)) + (if ew = 0 then 0 else 1)
theorem own_ptn (st sw ew : Int32) (h : st.toBitVec.toNat < 536870912) : ((4 * st + (if sw = 0 then 0 else 2)) + (if ew = 0 then 0 else 1) : Int32).toBitVec.toNat = 4 * st.toBitVec.toNat + (if sw = 0 then 0 else 2) + (if ew = 0 then 0 else 1) := by
  have e4 : (4 : Int32).toBitVec.toNat = 4 := rfl
  have e2 : (2 : Int32).toBitVec.toNat = 2 := rfl
  have e1 : (1 : Int32).toBitVec.toNat = 1 := rfl
  have e0 : (0 : Int32).toBitVec.toNat = 0 := rfl
  by_cases h1 : sw = 0 <;> by_cases h2 : ew = 0 <;> simp only [h1, h2, if_true, if_false, Int32.toBitVec_add, Int32.toBitVec_mul, BitVec.toNat_add, BitVec.toNat_mul, e4, e2, e1, e0] <;> omega
theorem own_lt0 (z : Int32) (h : z.toBitVec.toNat < 2147483648) : ¬ z < 0 := by
  rw [Int32.lt_iff_toBitVec_slt]
  show ¬ (z.toBitVec.slt 0#32 = true)
  rw [BitVec.slt_zero_eq_msb, BitVec.msb_eq_decide]
  simp; omega
theorem own_shr (z st : Int32) (h : z.toBitVec.toNat < 2147483648) (e : z.toBitVec.toNat / 4 = st.toBitVec.toNat) : z >>> ((2 : Int32) &&& 31) = st := by
  rw [← Int32.toBitVec_inj]
  show z.toBitVec.sshiftRight 2 = _
  rw [BitVec.sshiftRight_eq_of_msb_false (by rw [BitVec.msb_eq_decide]; simp; omega)]
  apply BitVec.eq_of_toNat_eq
  rw [BitVec.toNat_ushiftRight, Nat.shiftRight_eq_div_pow]
  exact e
theorem own_bit2 (z : Int32) : z &&& 2 = 0 ↔ z.toBitVec.toNat / 2 % 2 = 0 := by
  rw [own_z0, Int32.toBitVec_and, BitVec.toNat_and]
  exact own_and2 _ 1
theorem own_bit1 (z : Int32) : z &&& 1 = 0 ↔ z.toBitVec.toNat % 2 = 0 := by
  rw [own_z0, Int32.toBitVec_and, BitVec.toNat_and]
  have := own_and2 z.toBitVec.toNat 0
  rw [Nat.pow_zero, Nat.div_one] at this
  exact this
theorem own_all (st sw ew ww : Int32) (hw : ¬ ww = 0) (h : st.toBitVec.toNat < 536870912) :
    (¬ own_pt ww st sw ew < 0) ∧ own_pt ww st sw ew >>> ((2 : Int32) &&& 31) = st ∧ (own_pt ww st sw ew &&& 2 = 0 ↔ sw = 0) ∧ (own_pt ww st sw ew &&& 1 = 0 ↔ ew = 0) := by
  have e : own_pt ww st sw ew = (4 * st + (if sw = 0 then 0 else 2)) + (if ew = 0 then 0 else 1) := if_neg hw
  have n := own_ptn st sw ew h
  rw [← e] at n
  refine ⟨own_lt0 _ ?_, own_shr _ _ ?_ ?_, ?_, ?_⟩
  · rw [n]; split <;> split <;> omega
  · rw [n]; split <;> split <;> omega
  · rw [n]; split <;> split <;> omega
  · rw [own_bit2, n]; by_cases h1 : sw = 0 <;> by_cases h2 : ew = 0 <;> simp [h1, h2] <;> omega
  · rw [own_bit1, n]; by_cases h1 : sw = 0 <;> by_cases h2 : ew = 0 <;> simp [h1, h2] <;> omega
theorem pd_oZIZZcI : parseMethodDescriptor "(ZIZZ)I" = some ⟨[.boolean, .int, .boolean, .boolean], some .int⟩ := by decide +kernel
theorem d1_0 : decode prog_52_method_9_code 0 = .ok (.iload_n 0, 1) := by decide +kernel
theorem d1_1 : decode prog_52_method_9_code 1 = .ok (.ifCond .eq 29, 3) := by decide +kernel
theorem d1_4 : decode prog_52_method_9_code 4 = .ok (.iconst 4, 1) := by decide +kernel
theorem d1_5 : decode prog_52_method_9_code 5 = .ok (.iload_n 1, 1) := by decide +kernel
theorem d1_6 : decode prog_52_method_9_code 6 = .ok (.imul, 1) := by decide +kernel
theorem d1_7 : decode prog_52_method_9_code 7 = .ok (.iload_n 2, 1) := by decide +kernel
theorem d1_8 : decode prog_52_method_9_code 8 = .ok (.ifCond .eq 7, 3) := by decide +kernel
theorem d1_11 : decode prog_52_method_9_code 11 = .ok (.iconst 2, 1) := by decide +kernel
theorem d1_12 : decode prog_52_method_9_code 12 = .ok (.goto 4, 3) := by decide +kernel
theorem d1_15 : decode prog_52_method_9_code 15 = .ok (.iconst 0, 1) := by decide +kernel
theorem d1_16 : decode prog_52_method_9_code 16 = .ok (.iadd, 1) := by decide +kernel
theorem d1_17 : decode prog_52_method_9_code 17 = .ok (.iload_n 3, 1) := by decide +kernel
theorem d1_18 : decode prog_52_method_9_code 18 = .ok (.ifCond .eq 7, 3) := by decide +kernel
theorem d1_21 : decode prog_52_method_9_code 21 = .ok (.iconst 1, 1) := by decide +kernel
theorem d1_22 : decode prog_52_method_9_code 22 = .ok (.goto 4, 3) := by decide +kernel
theorem d1_25 : decode prog_52_method_9_code 25 = .ok (.iconst 0, 1) := by decide +kernel
theorem d1_26 : decode prog_52_method_9_code 26 = .ok (.iadd, 1) := by decide +kernel
theorem d1_27 : decode prog_52_method_9_code 27 = .ok (.goto 4, 3) := by decide +kernel
theorem d1_30 : decode prog_52_method_9_code 30 = .ok (.iload_n 1, 1) := by decide +kernel
theorem d1_31 : decode prog_52_method_9_code 31 = .ok (.ireturn, 1) := by decide +kernel
theorem pn_1 : plainName "com/example/nitka/nitka/SettlePoints" = true := by first | (simp [plainName, overriddenIn]; done) | decide +kernel
theorem ef_1 (m : MethodId) (p1 : Int32) (p2 : Int32) (p3 : Int32) (p4 : Int32) : entryFrame m #[(.int p1), (.int p2), (.int p3), (.int p4)] 4 = (mkF m 0 #[.val (.int p1), .val (.int p2), .val (.int p3), .val (.int p4)] []) := by first | (simp [entryFrame, mkF, argsToLocals, Value.category]; done) | rfl
def Q1 (Z : State) (p1 : Int32) (p2 : Int32) (p3 : Int32) (p4 : Int32)  (h0 : Heap) (n0 : Nat) (v : Option Value) (h : Heap) (L : List Loc) : Prop := v = some (.int (own_pt p1 p2 p3 p4)) ∧ Fr n0 L ∧ h = h0
set_option maxRecDepth 65536 in
set_option maxHeartbeats 40000000 in
theorem rm1 (l : Launch) (Z : State) (a0 : Array Value) (hw : ∀ d ∈ tables_1, d.before a0 Z = true) (ws : List Jvm.Cond) (p1 : Int32) (p2 : Int32) (p3 : Int32) (p4 : Int32)  (h0 : Heap) (n0 : Nat) (Z0 : n0 ≤ h0.size)  :
    MetFree l (⟨"com/example/nitka/nitka/SettlePoints", "settlePoint", "(ZIZZ)I"⟩ : MethodName) (head1 (Jvm.Cond.code (⟨"com/example/nitka/nitka/SettlePoints", "settlePoint", "(ZIZZ)I"⟩ : MethodName) prog_52_method_9_code 4 (some .int) :: ws) ({ frames := 0, cells := 0, slots := 0, locals := 0 } : Room)) (fun a U => a = #[(.int p1), (.int p2), (.int p3), (.int p4)] ∧ Z.Warmed39 U.vm ∧ U.heap = h0) (fun _ _ _ _ _ => True) (fun _ U o U' => ∃ v L, o = .returned v ∧ Q1 Z p1 p2 p3 p4  h0 n0 v U'.heap L ∧ FrameEnd U o U' L ({ frames := 0, cells := 0, slots := 0, locals := 0 } : Room).cells ({ frames := 0, cells := 0, slots := 0, locals := 0 } : Room).slots) := by
  refine MetFree.of_bodySF (plainFor_of_name pn_1) hisR ?_
  intro p e s m args below meth c s₁ Bd hml0 hP hK
  obtain ⟨rfl, hZ, hh⟩ := hP
  have hx := Bd.exec
  have hby := Bd.bytes
  have hml : c.maxLocals = 4 := hml0
  have hown : s.vm.findClass "com/example/nitka/nitka/SettlePoints" = some m.cls := findClass_of_methodNamed Bd.named
  have hnm := (name_of_methodNamed Bd.named Bd.method).1
  have X0 : Stand p l e ({ frames := 0, cells := 0, slots := 0, locals := 0 } : Room) s m #[(.int p1), (.int p2), (.int p3), (.int p4)] below meth c s₁ [] 0 0 := Stand.of_body Bd
  have e0 : s₁.heap = h0 := by rw [← hh, Bd.state]; rfl
  have N0 := Fr.nil n0
  have pre0 : ∀ t, Steps p.tables e below (s₁.setTop (mkF m 0 #[.val (.int p1), .val (.int p2), .val (.int p3), .val (.int p4)] [])) t → Steps p.tables e below (s₁.setTop (entryFrame m #[(.int p1), (.int p2), (.int p3), (.int p4)] 4)) t := fun t k => castTop (ef_1 m p1 p2 p3 p4) k
  obtain ⟨fs, hr, hrun, hended, hW, hsame⟩ := X0.leave (v := some (.int (own_pt p1 p2 p3 p4))) (fun h => by rw [Bd.returns] at h; cases h)
  refine ⟨_, _, pre0 _ ?_, hrun, hended, _, _, rfl, ?_, ⟨_, rfl⟩, hW, hsame.mono (by decide) (by decide)⟩
  · by_cases c1 : p1 = 0
    · have q : own_pt p1 p2 p3 p4 = p2 := if_pos c1
      rw [q] at hr
      show Steps p.tables e below (s₁.setTop (mkF m 0 #[.val (.int p1), .val (.int p2), .val (.int p3), .val (.int p4)] [])) _
      refine XS.iloadN X0.here hx rfl (hb hby d1_0) rfl ?_
      show Steps p.tables e below (s₁.setTop (mkF m 1 #[.val (.int p1), .val (.int p2), .val (.int p3), .val (.int p4)] [(.int p1)])) _
      refine XS.ifYes X0.here hx rfl (pc0 := 1) (pc' := 30) rfl (hb hby d1_1) rfl ((if0 _ _).trans (teq c1).1) (by decide) (by decide) ?_
      show Steps p.tables e below (s₁.setTop (mkF m 30 #[.val (.int p1), .val (.int p2), .val (.int p3), .val (.int p4)] [])) _
      refine XS.iloadN X0.here hx rfl (hb hby d1_30) rfl ?_
      show Steps p.tables e below (s₁.setTop (mkF m 31 #[.val (.int p1), .val (.int p2), .val (.int p3), .val (.int p4)] [(.int p2)])) _
      exact retI X0 hx Bd.returns (hb hby d1_31) hr
    have q : own_pt p1 p2 p3 p4 = (4 * p2 + (if p3 = 0 then 0 else 2)) + (if p4 = 0 then 0 else 1) := if_neg c1
    rw [q] at hr
    by_cases c3 : p3 = 0
    · rw [if_pos c3] at hr
      by_cases c4 : p4 = 0
      · rw [if_pos c4] at hr
        show Steps p.tables e below (s₁.setTop (mkF m 0 #[.val (.int p1), .val (.int p2), .val (.int p3), .val (.int p4)] [])) _
        refine XS.iloadN X0.here hx rfl (hb hby d1_0) rfl ?_
        show Steps p.tables e below (s₁.setTop (mkF m 1 #[.val (.int p1), .val (.int p2), .val (.int p3), .val (.int p4)] [(.int p1)])) _
        refine XS.ifNo X0.here hx rfl (hb hby d1_1) rfl ((if0 _ _).trans (feq c1).1) ?_
        show Steps p.tables e below (s₁.setTop (mkF m 4 #[.val (.int p1), .val (.int p2), .val (.int p3), .val (.int p4)] [])) _
        refine XS.iconst X0.here hx rfl (hb hby d1_4) ?_
        show Steps p.tables e below (s₁.setTop (mkF m 5 #[.val (.int p1), .val (.int p2), .val (.int p3), .val (.int p4)] [(.int (4 : Int32))])) _
        refine XS.iloadN X0.here hx rfl (hb hby d1_5) rfl ?_
        show Steps p.tables e below (s₁.setTop (mkF m 6 #[.val (.int p1), .val (.int p2), .val (.int p3), .val (.int p4)] [(.int p2), (.int (4 : Int32))])) _
        refine XS.imul X0.here hx rfl (hb hby d1_6) rfl ?_
        show Steps p.tables e below (s₁.setTop (mkF m 7 #[.val (.int p1), .val (.int p2), .val (.int p3), .val (.int p4)] [(.int ((4 : Int32) * p2))])) _
        refine XS.iloadN X0.here hx rfl (hb hby d1_7) rfl ?_
        show Steps p.tables e below (s₁.setTop (mkF m 8 #[.val (.int p1), .val (.int p2), .val (.int p3), .val (.int p4)] [(.int p3), (.int ((4 : Int32) * p2))])) _
        refine XS.ifYes X0.here hx rfl (pc0 := 8) (pc' := 15) rfl (hb hby d1_8) rfl ((if0 _ _).trans (teq c3).1) (by decide) (by decide) ?_
        show Steps p.tables e below (s₁.setTop (mkF m 15 #[.val (.int p1), .val (.int p2), .val (.int p3), .val (.int p4)] [(.int ((4 : Int32) * p2))])) _
        refine XS.iconst X0.here hx rfl (hb hby d1_15) ?_
        show Steps p.tables e below (s₁.setTop (mkF m 16 #[.val (.int p1), .val (.int p2), .val (.int p3), .val (.int p4)] [(.int (0 : Int32)), (.int ((4 : Int32) * p2))])) _
        refine XS.iadd X0.here hx rfl (hb hby d1_16) rfl ?_
        show Steps p.tables e below (s₁.setTop (mkF m 17 #[.val (.int p1), .val (.int p2), .val (.int p3), .val (.int p4)] [(.int (((4 : Int32) * p2) + (0 : Int32)))])) _
        refine XS.iloadN X0.here hx rfl (hb hby d1_17) rfl ?_
        show Steps p.tables e below (s₁.setTop (mkF m 18 #[.val (.int p1), .val (.int p2), .val (.int p3), .val (.int p4)] [(.int p4), (.int (((4 : Int32) * p2) + (0 : Int32)))])) _
        refine XS.ifYes X0.here hx rfl (pc0 := 18) (pc' := 25) rfl (hb hby d1_18) rfl ((if0 _ _).trans (teq c4).1) (by decide) (by decide) ?_
        show Steps p.tables e below (s₁.setTop (mkF m 25 #[.val (.int p1), .val (.int p2), .val (.int p3), .val (.int p4)] [(.int (((4 : Int32) * p2) + (0 : Int32)))])) _
        refine XS.iconst X0.here hx rfl (hb hby d1_25) ?_
        show Steps p.tables e below (s₁.setTop (mkF m 26 #[.val (.int p1), .val (.int p2), .val (.int p3), .val (.int p4)] [(.int (0 : Int32)), (.int (((4 : Int32) * p2) + (0 : Int32)))])) _
        refine XS.iadd X0.here hx rfl (hb hby d1_26) rfl ?_
        show Steps p.tables e below (s₁.setTop (mkF m 27 #[.val (.int p1), .val (.int p2), .val (.int p3), .val (.int p4)] [(.int ((((4 : Int32) * p2) + (0 : Int32)) + (0 : Int32)))])) _
        refine XS.goto X0.here hx rfl (pc0 := 27) (pc' := 31) rfl (hb hby d1_27) (by decide) (by decide) ?_
        show Steps p.tables e below (s₁.setTop (mkF m 31 #[.val (.int p1), .val (.int p2), .val (.int p3), .val (.int p4)] [(.int ((((4 : Int32) * p2) + (0 : Int32)) + (0 : Int32)))])) _
        exact retI X0 hx Bd.returns (hb hby d1_31) hr
      · rw [if_neg c4] at hr
        show Steps p.tables e below (s₁.setTop (mkF m 0 #[.val (.int p1), .val (.int p2), .val (.int p3), .val (.int p4)] [])) _
        refine XS.iloadN X0.here hx rfl (hb hby d1_0) rfl ?_
        show Steps p.tables e below (s₁.setTop (mkF m 1 #[.val (.int p1), .val (.int p2), .val (.int p3), .val (.int p4)] [(.int p1)])) _
        refine XS.ifNo X0.here hx rfl (hb hby d1_1) rfl ((if0 _ _).trans (feq c1).1) ?_
        show Steps p.tables e below (s₁.setTop (mkF m 4 #[.val (.int p1), .val (.int p2), .val (.int p3), .val (.int p4)] [])) _
        refine XS.iconst X0.here hx rfl (hb hby d1_4) ?_
        show Steps p.tables e below (s₁.setTop (mkF m 5 #[.val (.int p1), .val (.int p2), .val (.int p3), .val (.int p4)] [(.int (4 : Int32))])) _
        refine XS.iloadN X0.here hx rfl (hb hby d1_5) rfl ?_
        show Steps p.tables e below (s₁.setTop (mkF m 6 #[.val (.int p1), .val (.int p2), .val (.int p3), .val (.int p4)] [(.int p2), (.int (4 : Int32))])) _
        refine XS.imul X0.here hx rfl (hb hby d1_6) rfl ?_
        show Steps p.tables e below (s₁.setTop (mkF m 7 #[.val (.int p1), .val (.int p2), .val (.int p3), .val (.int p4)] [(.int ((4 : Int32) * p2))])) _
        refine XS.iloadN X0.here hx rfl (hb hby d1_7) rfl ?_
        show Steps p.tables e below (s₁.setTop (mkF m 8 #[.val (.int p1), .val (.int p2), .val (.int p3), .val (.int p4)] [(.int p3), (.int ((4 : Int32) * p2))])) _
        refine XS.ifYes X0.here hx rfl (pc0 := 8) (pc' := 15) rfl (hb hby d1_8) rfl ((if0 _ _).trans (teq c3).1) (by decide) (by decide) ?_
        show Steps p.tables e below (s₁.setTop (mkF m 15 #[.val (.int p1), .val (.int p2), .val (.int p3), .val (.int p4)] [(.int ((4 : Int32) * p2))])) _
        refine XS.iconst X0.here hx rfl (hb hby d1_15) ?_
        show Steps p.tables e below (s₁.setTop (mkF m 16 #[.val (.int p1), .val (.int p2), .val (.int p3), .val (.int p4)] [(.int (0 : Int32)), (.int ((4 : Int32) * p2))])) _
        refine XS.iadd X0.here hx rfl (hb hby d1_16) rfl ?_
        show Steps p.tables e below (s₁.setTop (mkF m 17 #[.val (.int p1), .val (.int p2), .val (.int p3), .val (.int p4)] [(.int (((4 : Int32) * p2) + (0 : Int32)))])) _
        refine XS.iloadN X0.here hx rfl (hb hby d1_17) rfl ?_
        show Steps p.tables e below (s₁.setTop (mkF m 18 #[.val (.int p1), .val (.int p2), .val (.int p3), .val (.int p4)] [(.int p4), (.int (((4 : Int32) * p2) + (0 : Int32)))])) _
        refine XS.ifNo X0.here hx rfl (hb hby d1_18) rfl ((if0 _ _).trans (feq c4).1) ?_
        show Steps p.tables e below (s₁.setTop (mkF m 21 #[.val (.int p1), .val (.int p2), .val (.int p3), .val (.int p4)] [(.int (((4 : Int32) * p2) + (0 : Int32)))])) _
        refine XS.iconst X0.here hx rfl (hb hby d1_21) ?_
        show Steps p.tables e below (s₁.setTop (mkF m 22 #[.val (.int p1), .val (.int p2), .val (.int p3), .val (.int p4)] [(.int (1 : Int32)), (.int (((4 : Int32) * p2) + (0 : Int32)))])) _
        refine XS.goto X0.here hx rfl (pc0 := 22) (pc' := 26) rfl (hb hby d1_22) (by decide) (by decide) ?_
        show Steps p.tables e below (s₁.setTop (mkF m 26 #[.val (.int p1), .val (.int p2), .val (.int p3), .val (.int p4)] [(.int (1 : Int32)), (.int (((4 : Int32) * p2) + (0 : Int32)))])) _
        refine XS.iadd X0.here hx rfl (hb hby d1_26) rfl ?_
        show Steps p.tables e below (s₁.setTop (mkF m 27 #[.val (.int p1), .val (.int p2), .val (.int p3), .val (.int p4)] [(.int ((((4 : Int32) * p2) + (0 : Int32)) + (1 : Int32)))])) _
        refine XS.goto X0.here hx rfl (pc0 := 27) (pc' := 31) rfl (hb hby d1_27) (by decide) (by decide) ?_
        show Steps p.tables e below (s₁.setTop (mkF m 31 #[.val (.int p1), .val (.int p2), .val (.int p3), .val (.int p4)] [(.int ((((4 : Int32) * p2) + (0 : Int32)) + (1 : Int32)))])) _
        exact retI X0 hx Bd.returns (hb hby d1_31) hr
    · rw [if_neg c3] at hr
      by_cases c4 : p4 = 0
      · rw [if_pos c4] at hr
        show Steps p.tables e below (s₁.setTop (mkF m 0 #[.val (.int p1), .val (.int p2), .val (.int p3), .val (.int p4)] [])) _
        refine XS.iloadN X0.here hx rfl (hb hby d1_0) rfl ?_
        show Steps p.tables e below (s₁.setTop (mkF m 1 #[.val (.int p1), .val (.int p2), .val (.int p3), .val (.int p4)] [(.int p1)])) _
        refine XS.ifNo X0.here hx rfl (hb hby d1_1) rfl ((if0 _ _).trans (feq c1).1) ?_
        show Steps p.tables e below (s₁.setTop (mkF m 4 #[.val (.int p1), .val (.int p2), .val (.int p3), .val (.int p4)] [])) _
        refine XS.iconst X0.here hx rfl (hb hby d1_4) ?_
        show Steps p.tables e below (s₁.setTop (mkF m 5 #[.val (.int p1), .val (.int p2), .val (.int p3), .val (.int p4)] [(.int (4 : Int32))])) _
        refine XS.iloadN X0.here hx rfl (hb hby d1_5) rfl ?_
        show Steps p.tables e below (s₁.setTop (mkF m 6 #[.val (.int p1), .val (.int p2), .val (.int p3), .val (.int p4)] [(.int p2), (.int (4 : Int32))])) _
        refine XS.imul X0.here hx rfl (hb hby d1_6) rfl ?_
        show Steps p.tables e below (s₁.setTop (mkF m 7 #[.val (.int p1), .val (.int p2), .val (.int p3), .val (.int p4)] [(.int ((4 : Int32) * p2))])) _
        refine XS.iloadN X0.here hx rfl (hb hby d1_7) rfl ?_
        show Steps p.tables e below (s₁.setTop (mkF m 8 #[.val (.int p1), .val (.int p2), .val (.int p3), .val (.int p4)] [(.int p3), (.int ((4 : Int32) * p2))])) _
        refine XS.ifNo X0.here hx rfl (hb hby d1_8) rfl ((if0 _ _).trans (feq c3).1) ?_
        show Steps p.tables e below (s₁.setTop (mkF m 11 #[.val (.int p1), .val (.int p2), .val (.int p3), .val (.int p4)] [(.int ((4 : Int32) * p2))])) _
        refine XS.iconst X0.here hx rfl (hb hby d1_11) ?_
        show Steps p.tables e below (s₁.setTop (mkF m 12 #[.val (.int p1), .val (.int p2), .val (.int p3), .val (.int p4)] [(.int (2 : Int32)), (.int ((4 : Int32) * p2))])) _
        refine XS.goto X0.here hx rfl (pc0 := 12) (pc' := 16) rfl (hb hby d1_12) (by decide) (by decide) ?_
        show Steps p.tables e below (s₁.setTop (mkF m 16 #[.val (.int p1), .val (.int p2), .val (.int p3), .val (.int p4)] [(.int (2 : Int32)), (.int ((4 : Int32) * p2))])) _
        refine XS.iadd X0.here hx rfl (hb hby d1_16) rfl ?_
        show Steps p.tables e below (s₁.setTop (mkF m 17 #[.val (.int p1), .val (.int p2), .val (.int p3), .val (.int p4)] [(.int (((4 : Int32) * p2) + (2 : Int32)))])) _
        refine XS.iloadN X0.here hx rfl (hb hby d1_17) rfl ?_
        show Steps p.tables e below (s₁.setTop (mkF m 18 #[.val (.int p1), .val (.int p2), .val (.int p3), .val (.int p4)] [(.int p4), (.int (((4 : Int32) * p2) + (2 : Int32)))])) _
        refine XS.ifYes X0.here hx rfl (pc0 := 18) (pc' := 25) rfl (hb hby d1_18) rfl ((if0 _ _).trans (teq c4).1) (by decide) (by decide) ?_
        show Steps p.tables e below (s₁.setTop (mkF m 25 #[.val (.int p1), .val (.int p2), .val (.int p3), .val (.int p4)] [(.int (((4 : Int32) * p2) + (2 : Int32)))])) _
        refine XS.iconst X0.here hx rfl (hb hby d1_25) ?_
        show Steps p.tables e below (s₁.setTop (mkF m 26 #[.val (.int p1), .val (.int p2), .val (.int p3), .val (.int p4)] [(.int (0 : Int32)), (.int (((4 : Int32) * p2) + (2 : Int32)))])) _
        refine XS.iadd X0.here hx rfl (hb hby d1_26) rfl ?_
        show Steps p.tables e below (s₁.setTop (mkF m 27 #[.val (.int p1), .val (.int p2), .val (.int p3), .val (.int p4)] [(.int ((((4 : Int32) * p2) + (2 : Int32)) + (0 : Int32)))])) _
        refine XS.goto X0.here hx rfl (pc0 := 27) (pc' := 31) rfl (hb hby d1_27) (by decide) (by decide) ?_
        show Steps p.tables e below (s₁.setTop (mkF m 31 #[.val (.int p1), .val (.int p2), .val (.int p3), .val (.int p4)] [(.int ((((4 : Int32) * p2) + (2 : Int32)) + (0 : Int32)))])) _
        exact retI X0 hx Bd.returns (hb hby d1_31) hr
      · rw [if_neg c4] at hr
        show Steps p.tables e below (s₁.setTop (mkF m 0 #[.val (.int p1), .val (.int p2), .val (.int p3), .val (.int p4)] [])) _
        refine XS.iloadN X0.here hx rfl (hb hby d1_0) rfl ?_
        show Steps p.tables e below (s₁.setTop (mkF m 1 #[.val (.int p1), .val (.int p2), .val (.int p3), .val (.int p4)] [(.int p1)])) _
        refine XS.ifNo X0.here hx rfl (hb hby d1_1) rfl ((if0 _ _).trans (feq c1).1) ?_
        show Steps p.tables e below (s₁.setTop (mkF m 4 #[.val (.int p1), .val (.int p2), .val (.int p3), .val (.int p4)] [])) _
        refine XS.iconst X0.here hx rfl (hb hby d1_4) ?_
        show Steps p.tables e below (s₁.setTop (mkF m 5 #[.val (.int p1), .val (.int p2), .val (.int p3), .val (.int p4)] [(.int (4 : Int32))])) _
        refine XS.iloadN X0.here hx rfl (hb hby d1_5) rfl ?_
        show Steps p.tables e below (s₁.setTop (mkF m 6 #[.val (.int p1), .val (.int p2), .val (.int p3), .val (.int p4)] [(.int p2), (.int (4 : Int32))])) _
        refine XS.imul X0.here hx rfl (hb hby d1_6) rfl ?_
        show Steps p.tables e below (s₁.setTop (mkF m 7 #[.val (.int p1), .val (.int p2), .val (.int p3), .val (.int p4)] [(.int ((4 : Int32) * p2))])) _
        refine XS.iloadN X0.here hx rfl (hb hby d1_7) rfl ?_
        show Steps p.tables e below (s₁.setTop (mkF m 8 #[.val (.int p1), .val (.int p2), .val (.int p3), .val (.int p4)] [(.int p3), (.int ((4 : Int32) * p2))])) _
        refine XS.ifNo X0.here hx rfl (hb hby d1_8) rfl ((if0 _ _).trans (feq c3).1) ?_
        show Steps p.tables e below (s₁.setTop (mkF m 11 #[.val (.int p1), .val (.int p2), .val (.int p3), .val (.int p4)] [(.int ((4 : Int32) * p2))])) _
        refine XS.iconst X0.here hx rfl (hb hby d1_11) ?_
        show Steps p.tables e below (s₁.setTop (mkF m 12 #[.val (.int p1), .val (.int p2), .val (.int p3), .val (.int p4)] [(.int (2 : Int32)), (.int ((4 : Int32) * p2))])) _
        refine XS.goto X0.here hx rfl (pc0 := 12) (pc' := 16) rfl (hb hby d1_12) (by decide) (by decide) ?_
        show Steps p.tables e below (s₁.setTop (mkF m 16 #[.val (.int p1), .val (.int p2), .val (.int p3), .val (.int p4)] [(.int (2 : Int32)), (.int ((4 : Int32) * p2))])) _
        refine XS.iadd X0.here hx rfl (hb hby d1_16) rfl ?_
        show Steps p.tables e below (s₁.setTop (mkF m 17 #[.val (.int p1), .val (.int p2), .val (.int p3), .val (.int p4)] [(.int (((4 : Int32) * p2) + (2 : Int32)))])) _
        refine XS.iloadN X0.here hx rfl (hb hby d1_17) rfl ?_
        show Steps p.tables e below (s₁.setTop (mkF m 18 #[.val (.int p1), .val (.int p2), .val (.int p3), .val (.int p4)] [(.int p4), (.int (((4 : Int32) * p2) + (2 : Int32)))])) _
        refine XS.ifNo X0.here hx rfl (hb hby d1_18) rfl ((if0 _ _).trans (feq c4).1) ?_
        show Steps p.tables e below (s₁.setTop (mkF m 21 #[.val (.int p1), .val (.int p2), .val (.int p3), .val (.int p4)] [(.int (((4 : Int32) * p2) + (2 : Int32)))])) _
        refine XS.iconst X0.here hx rfl (hb hby d1_21) ?_
        show Steps p.tables e below (s₁.setTop (mkF m 22 #[.val (.int p1), .val (.int p2), .val (.int p3), .val (.int p4)] [(.int (1 : Int32)), (.int (((4 : Int32) * p2) + (2 : Int32)))])) _
        refine XS.goto X0.here hx rfl (pc0 := 22) (pc' := 26) rfl (hb hby d1_22) (by decide) (by decide) ?_
        show Steps p.tables e below (s₁.setTop (mkF m 26 #[.val (.int p1), .val (.int p2), .val (.int p3), .val (.int p4)] [(.int (1 : Int32)), (.int (((4 : Int32) * p2) + (2 : Int32)))])) _
        refine XS.iadd X0.here hx rfl (hb hby d1_26) rfl ?_
        show Steps p.tables e below (s₁.setTop (mkF m 27 #[.val (.int p1), .val (.int p2), .val (.int p3), .val (.int p4)] [(.int ((((4 : Int32) * p2) + (2 : Int32)) + (1 : Int32)))])) _
        refine XS.goto X0.here hx rfl (pc0 := 27) (pc' := 31) rfl (hb hby d1_27) (by decide) (by decide) ?_
        show Steps p.tables e below (s₁.setTop (mkF m 31 #[.val (.int p1), .val (.int p2), .val (.int p3), .val (.int p4)] [(.int ((((4 : Int32) * p2) + (2 : Int32)) + (1 : Int32)))])) _
        exact retI X0 hx Bd.returns (hb hby d1_31) hr
  · show Q1 Z p1 p2 p3 p4 h0 n0 _ s₁.heap _
    rw [e0]
    exact ⟨rfl, N0, rfl⟩
theorem pn_0 : plainName "com/example/nitka/nitka/SettlePointsSettlePointPinLaw" = true := by first | (simp [plainName, overriddenIn]; done) | decide +kernel
theorem ef_0 (m : MethodId) (p1 : Int32) (p2 : Int32) : entryFrame m #[(.int p1), (.int p2)] maxLocals = (mkF m 0 #[.val (.int p1), .val (.int p2), .unset, .unset, .unset, .unset, .unset] []) := by first | (simp [entryFrame, mkF, argsToLocals, Value.category, maxLocals]; done) | rfl
def Q0 (Z : State) (p1 : Int32) (p2 : Int32)  (h0 : Heap) (n0 : Nat) (v : Option Value) (h : Heap) (L : List Loc) : Prop := v = some (.int 1) ∧ Fr n0 L
set_option maxRecDepth 65536 in
set_option maxHeartbeats 40000000 in
theorem rm0 (l : Launch) (Z : State) (a0 : Array Value) (hw : ∀ d ∈ tables_1, d.before a0 Z = true) (ws : List Jvm.Cond) (p1 : Int32) (p2 : Int32)  (h0 : Heap) (n0 : Nat) (Z0 : n0 ≤ h0.size)  :
    MetFree l x (head1 (Jvm.Cond.code x code maxLocals ret :: ws) room_1) (fun a U => a = #[(.int p1), (.int p2)] ∧ Z.Warmed39 U.vm ∧ U.heap = h0) (fun _ _ _ _ _ => True) (fun _ U o U' => ∃ v L, o = .returned v ∧ Q0 Z p1 p2  h0 n0 v U'.heap L ∧ FrameEnd U o U' L room_1.cells room_1.slots) := by
  refine MetFree.of_bodySF (plainFor_of_name pn_0) hisR ?_
  intro p e s m args below meth c s₁ Bd hml0 hP hK
  obtain ⟨rfl, hZ, hh⟩ := hP
  have hx := Bd.exec
  have hby := Bd.bytes
  have hml : c.maxLocals = 7 := hml0
  have hown : s.vm.findClass "com/example/nitka/nitka/SettlePointsSettlePointPinLaw" = some m.cls := findClass_of_methodNamed Bd.named
  have hnm := (name_of_methodNamed Bd.named Bd.method).1
  have X0 : Stand p l e room_1 s m #[(.int p1), (.int p2)] below meth c s₁ [] 0 0 := Stand.of_body Bd
  have e0 : s₁.heap = h0 := by rw [← hh, Bd.state]; rfl
  have N0 := Fr.nil n0
  have pre0 : ∀ t, Steps p.tables e below (s₁.setTop (mkF m 0 #[.val (.int p1), .val (.int p2), .unset, .unset, .unset, .unset, .unset] [])) t → Steps p.tables e below (s₁.setTop (entryFrame m #[(.int p1), (.int p2)] maxLocals)) t := fun t k => castTop (ef_0 m p1 p2) k
  have sg5 : ∀ t, Steps p.tables e below (s₁.setTop (mkF m 16 #[.val (.int p1), .val (.int p2), .val (.int (p1 &&& (536870911 : Int32))), .unset, .unset, .unset, .unset] [(.int (own_b (¬ (p2 &&& (1 : Int32)) = 0)))])) t → Steps p.tables e below (s₁.setTop (mkF m 5 #[.val (.int p1), .val (.int p2), .val (.int (p1 &&& (536870911 : Int32))), .unset, .unset, .unset, .unset] [])) t := by
    intro t k
    by_cases hc : (p2 &&& (1 : Int32)) = 0
    · rw [own_bf (P := ¬ (p2 &&& (1 : Int32)) = 0) (fun q => q hc)] at k
      show Steps p.tables e below (s₁.setTop (mkF m 5 #[.val (.int p1), .val (.int p2), .val (.int (p1 &&& (536870911 : Int32))), .unset, .unset, .unset, .unset] [])) _
      refine XS.iloadN X0.here hx rfl (hb hby at_5) rfl ?_
      show Steps p.tables e below (s₁.setTop (mkF m 6 #[.val (.int p1), .val (.int p2), .val (.int (p1 &&& (536870911 : Int32))), .unset, .unset, .unset, .unset] [(.int p2)])) _
      refine XS.iconst X0.here hx rfl (hb hby at_6) ?_
      show Steps p.tables e below (s₁.setTop (mkF m 7 #[.val (.int p1), .val (.int p2), .val (.int (p1 &&& (536870911 : Int32))), .unset, .unset, .unset, .unset] [(.int (1 : Int32)), (.int p2)])) _
      refine XS.iand X0.here hx rfl (hb hby at_7) rfl ?_
      show Steps p.tables e below (s₁.setTop (mkF m 8 #[.val (.int p1), .val (.int p2), .val (.int (p1 &&& (536870911 : Int32))), .unset, .unset, .unset, .unset] [(.int (p2 &&& (1 : Int32)))])) _
      refine XS.ifYes X0.here hx rfl (pc0 := 8) (pc' := 15) rfl (hb hby at_8) rfl ((if0 _ _).trans (teq hc).1) (by decide) (by decide) ?_
      show Steps p.tables e below (s₁.setTop (mkF m 15 #[.val (.int p1), .val (.int p2), .val (.int (p1 &&& (536870911 : Int32))), .unset, .unset, .unset, .unset] [])) _
      refine XS.iconst X0.here hx rfl (hb hby at_15) ?_
      exact k
    · rw [own_bt (P := ¬ (p2 &&& (1 : Int32)) = 0) hc] at k
      show Steps p.tables e below (s₁.setTop (mkF m 5 #[.val (.int p1), .val (.int p2), .val (.int (p1 &&& (536870911 : Int32))), .unset, .unset, .unset, .unset] [])) _
      refine XS.iloadN X0.here hx rfl (hb hby at_5) rfl ?_
      show Steps p.tables e below (s₁.setTop (mkF m 6 #[.val (.int p1), .val (.int p2), .val (.int (p1 &&& (536870911 : Int32))), .unset, .unset, .unset, .unset] [(.int p2)])) _
      refine XS.iconst X0.here hx rfl (hb hby at_6) ?_
      show Steps p.tables e below (s₁.setTop (mkF m 7 #[.val (.int p1), .val (.int p2), .val (.int (p1 &&& (536870911 : Int32))), .unset, .unset, .unset, .unset] [(.int (1 : Int32)), (.int p2)])) _
      refine XS.iand X0.here hx rfl (hb hby at_7) rfl ?_
      show Steps p.tables e below (s₁.setTop (mkF m 8 #[.val (.int p1), .val (.int p2), .val (.int (p1 &&& (536870911 : Int32))), .unset, .unset, .unset, .unset] [(.int (p2 &&& (1 : Int32)))])) _
      refine XS.ifNo X0.here hx rfl (hb hby at_8) rfl ((if0 _ _).trans (feq hc).1) ?_
      show Steps p.tables e below (s₁.setTop (mkF m 11 #[.val (.int p1), .val (.int p2), .val (.int (p1 &&& (536870911 : Int32))), .unset, .unset, .unset, .unset] [])) _
      refine XS.iconst X0.here hx rfl (hb hby at_11) ?_
      show Steps p.tables e below (s₁.setTop (mkF m 12 #[.val (.int p1), .val (.int p2), .val (.int (p1 &&& (536870911 : Int32))), .unset, .unset, .unset, .unset] [(.int (1 : Int32))])) _
      refine XS.goto X0.here hx rfl (pc0 := 12) (pc' := 16) rfl (hb hby at_12) (by decide) (by decide) ?_
      exact k
  have sg17 : ∀ t, Steps p.tables e below (s₁.setTop (mkF m 28 #[.val (.int p1), .val (.int p2), .val (.int (p1 &&& (536870911 : Int32))), .val (.int (own_b (¬ (p2 &&& (1 : Int32)) = 0))), .unset, .unset, .unset] [(.int (own_b (¬ (p2 &&& (2 : Int32)) = 0)))])) t → Steps p.tables e below (s₁.setTop (mkF m 17 #[.val (.int p1), .val (.int p2), .val (.int (p1 &&& (536870911 : Int32))), .val (.int (own_b (¬ (p2 &&& (1 : Int32)) = 0))), .unset, .unset, .unset] [])) t := by
    intro t k
    by_cases hc : (p2 &&& (2 : Int32)) = 0
    · rw [own_bf (P := ¬ (p2 &&& (2 : Int32)) = 0) (fun q => q hc)] at k
      show Steps p.tables e below (s₁.setTop (mkF m 17 #[.val (.int p1), .val (.int p2), .val (.int (p1 &&& (536870911 : Int32))), .val (.int (own_b (¬ (p2 &&& (1 : Int32)) = 0))), .unset, .unset, .unset] [])) _
      refine XS.iloadN X0.here hx rfl (hb hby at_17) rfl ?_
      show Steps p.tables e below (s₁.setTop (mkF m 18 #[.val (.int p1), .val (.int p2), .val (.int (p1 &&& (536870911 : Int32))), .val (.int (own_b (¬ (p2 &&& (1 : Int32)) = 0))), .unset, .unset, .unset] [(.int p2)])) _
      refine XS.iconst X0.here hx rfl (hb hby at_18) ?_
      show Steps p.tables e below (s₁.setTop (mkF m 19 #[.val (.int p1), .val (.int p2), .val (.int (p1 &&& (536870911 : Int32))), .val (.int (own_b (¬ (p2 &&& (1 : Int32)) = 0))), .unset, .unset, .unset] [(.int (2 : Int32)), (.int p2)])) _
      refine XS.iand X0.here hx rfl (hb hby at_19) rfl ?_
      show Steps p.tables e below (s₁.setTop (mkF m 20 #[.val (.int p1), .val (.int p2), .val (.int (p1 &&& (536870911 : Int32))), .val (.int (own_b (¬ (p2 &&& (1 : Int32)) = 0))), .unset, .unset, .unset] [(.int (p2 &&& (2 : Int32)))])) _
      refine XS.ifYes X0.here hx rfl (pc0 := 20) (pc' := 27) rfl (hb hby at_20) rfl ((if0 _ _).trans (teq hc).1) (by decide) (by decide) ?_
      show Steps p.tables e below (s₁.setTop (mkF m 27 #[.val (.int p1), .val (.int p2), .val (.int (p1 &&& (536870911 : Int32))), .val (.int (own_b (¬ (p2 &&& (1 : Int32)) = 0))), .unset, .unset, .unset] [])) _
      refine XS.iconst X0.here hx rfl (hb hby at_27) ?_
      exact k
    · rw [own_bt (P := ¬ (p2 &&& (2 : Int32)) = 0) hc] at k
      show Steps p.tables e below (s₁.setTop (mkF m 17 #[.val (.int p1), .val (.int p2), .val (.int (p1 &&& (536870911 : Int32))), .val (.int (own_b (¬ (p2 &&& (1 : Int32)) = 0))), .unset, .unset, .unset] [])) _
      refine XS.iloadN X0.here hx rfl (hb hby at_17) rfl ?_
      show Steps p.tables e below (s₁.setTop (mkF m 18 #[.val (.int p1), .val (.int p2), .val (.int (p1 &&& (536870911 : Int32))), .val (.int (own_b (¬ (p2 &&& (1 : Int32)) = 0))), .unset, .unset, .unset] [(.int p2)])) _
      refine XS.iconst X0.here hx rfl (hb hby at_18) ?_
      show Steps p.tables e below (s₁.setTop (mkF m 19 #[.val (.int p1), .val (.int p2), .val (.int (p1 &&& (536870911 : Int32))), .val (.int (own_b (¬ (p2 &&& (1 : Int32)) = 0))), .unset, .unset, .unset] [(.int (2 : Int32)), (.int p2)])) _
      refine XS.iand X0.here hx rfl (hb hby at_19) rfl ?_
      show Steps p.tables e below (s₁.setTop (mkF m 20 #[.val (.int p1), .val (.int p2), .val (.int (p1 &&& (536870911 : Int32))), .val (.int (own_b (¬ (p2 &&& (1 : Int32)) = 0))), .unset, .unset, .unset] [(.int (p2 &&& (2 : Int32)))])) _
      refine XS.ifNo X0.here hx rfl (hb hby at_20) rfl ((if0 _ _).trans (feq hc).1) ?_
      show Steps p.tables e below (s₁.setTop (mkF m 23 #[.val (.int p1), .val (.int p2), .val (.int (p1 &&& (536870911 : Int32))), .val (.int (own_b (¬ (p2 &&& (1 : Int32)) = 0))), .unset, .unset, .unset] [])) _
      refine XS.iconst X0.here hx rfl (hb hby at_23) ?_
      show Steps p.tables e below (s₁.setTop (mkF m 24 #[.val (.int p1), .val (.int p2), .val (.int (p1 &&& (536870911 : Int32))), .val (.int (own_b (¬ (p2 &&& (1 : Int32)) = 0))), .unset, .unset, .unset] [(.int (1 : Int32))])) _
      refine XS.goto X0.here hx rfl (pc0 := 24) (pc' := 28) rfl (hb hby at_24) (by decide) (by decide) ?_
      exact k
  have sg30 : ∀ t, Steps p.tables e below (s₁.setTop (mkF m 41 #[.val (.int p1), .val (.int p2), .val (.int (p1 &&& (536870911 : Int32))), .val (.int (own_b (¬ (p2 &&& (1 : Int32)) = 0))), .val (.int (own_b (¬ (p2 &&& (2 : Int32)) = 0))), .unset, .unset] [(.int (own_b (¬ (p2 &&& (4 : Int32)) = 0)))])) t → Steps p.tables e below (s₁.setTop (mkF m 30 #[.val (.int p1), .val (.int p2), .val (.int (p1 &&& (536870911 : Int32))), .val (.int (own_b (¬ (p2 &&& (1 : Int32)) = 0))), .val (.int (own_b (¬ (p2 &&& (2 : Int32)) = 0))), .unset, .unset] [])) t := by
    intro t k
    by_cases hc : (p2 &&& (4 : Int32)) = 0
    · rw [own_bf (P := ¬ (p2 &&& (4 : Int32)) = 0) (fun q => q hc)] at k
      show Steps p.tables e below (s₁.setTop (mkF m 30 #[.val (.int p1), .val (.int p2), .val (.int (p1 &&& (536870911 : Int32))), .val (.int (own_b (¬ (p2 &&& (1 : Int32)) = 0))), .val (.int (own_b (¬ (p2 &&& (2 : Int32)) = 0))), .unset, .unset] [])) _
      refine XS.iloadN X0.here hx rfl (hb hby at_30) rfl ?_
      show Steps p.tables e below (s₁.setTop (mkF m 31 #[.val (.int p1), .val (.int p2), .val (.int (p1 &&& (536870911 : Int32))), .val (.int (own_b (¬ (p2 &&& (1 : Int32)) = 0))), .val (.int (own_b (¬ (p2 &&& (2 : Int32)) = 0))), .unset, .unset] [(.int p2)])) _
      refine XS.iconst X0.here hx rfl (hb hby at_31) ?_
      show Steps p.tables e below (s₁.setTop (mkF m 32 #[.val (.int p1), .val (.int p2), .val (.int (p1 &&& (536870911 : Int32))), .val (.int (own_b (¬ (p2 &&& (1 : Int32)) = 0))), .val (.int (own_b (¬ (p2 &&& (2 : Int32)) = 0))), .unset, .unset] [(.int (4 : Int32)), (.int p2)])) _
      refine XS.iand X0.here hx rfl (hb hby at_32) rfl ?_
      show Steps p.tables e below (s₁.setTop (mkF m 33 #[.val (.int p1), .val (.int p2), .val (.int (p1 &&& (536870911 : Int32))), .val (.int (own_b (¬ (p2 &&& (1 : Int32)) = 0))), .val (.int (own_b (¬ (p2 &&& (2 : Int32)) = 0))), .unset, .unset] [(.int (p2 &&& (4 : Int32)))])) _
      refine XS.ifYes X0.here hx rfl (pc0 := 33) (pc' := 40) rfl (hb hby at_33) rfl ((if0 _ _).trans (teq hc).1) (by decide) (by decide) ?_
      show Steps p.tables e below (s₁.setTop (mkF m 40 #[.val (.int p1), .val (.int p2), .val (.int (p1 &&& (536870911 : Int32))), .val (.int (own_b (¬ (p2 &&& (1 : Int32)) = 0))), .val (.int (own_b (¬ (p2 &&& (2 : Int32)) = 0))), .unset, .unset] [])) _
      refine XS.iconst X0.here hx rfl (hb hby at_40) ?_
      exact k
    · rw [own_bt (P := ¬ (p2 &&& (4 : Int32)) = 0) hc] at k
      show Steps p.tables e below (s₁.setTop (mkF m 30 #[.val (.int p1), .val (.int p2), .val (.int (p1 &&& (536870911 : Int32))), .val (.int (own_b (¬ (p2 &&& (1 : Int32)) = 0))), .val (.int (own_b (¬ (p2 &&& (2 : Int32)) = 0))), .unset, .unset] [])) _
      refine XS.iloadN X0.here hx rfl (hb hby at_30) rfl ?_
      show Steps p.tables e below (s₁.setTop (mkF m 31 #[.val (.int p1), .val (.int p2), .val (.int (p1 &&& (536870911 : Int32))), .val (.int (own_b (¬ (p2 &&& (1 : Int32)) = 0))), .val (.int (own_b (¬ (p2 &&& (2 : Int32)) = 0))), .unset, .unset] [(.int p2)])) _
      refine XS.iconst X0.here hx rfl (hb hby at_31) ?_
      show Steps p.tables e below (s₁.setTop (mkF m 32 #[.val (.int p1), .val (.int p2), .val (.int (p1 &&& (536870911 : Int32))), .val (.int (own_b (¬ (p2 &&& (1 : Int32)) = 0))), .val (.int (own_b (¬ (p2 &&& (2 : Int32)) = 0))), .unset, .unset] [(.int (4 : Int32)), (.int p2)])) _
      refine XS.iand X0.here hx rfl (hb hby at_32) rfl ?_
      show Steps p.tables e below (s₁.setTop (mkF m 33 #[.val (.int p1), .val (.int p2), .val (.int (p1 &&& (536870911 : Int32))), .val (.int (own_b (¬ (p2 &&& (1 : Int32)) = 0))), .val (.int (own_b (¬ (p2 &&& (2 : Int32)) = 0))), .unset, .unset] [(.int (p2 &&& (4 : Int32)))])) _
      refine XS.ifNo X0.here hx rfl (hb hby at_33) rfl ((if0 _ _).trans (feq hc).1) ?_
      show Steps p.tables e below (s₁.setTop (mkF m 36 #[.val (.int p1), .val (.int p2), .val (.int (p1 &&& (536870911 : Int32))), .val (.int (own_b (¬ (p2 &&& (1 : Int32)) = 0))), .val (.int (own_b (¬ (p2 &&& (2 : Int32)) = 0))), .unset, .unset] [])) _
      refine XS.iconst X0.here hx rfl (hb hby at_36) ?_
      show Steps p.tables e below (s₁.setTop (mkF m 37 #[.val (.int p1), .val (.int p2), .val (.int (p1 &&& (536870911 : Int32))), .val (.int (own_b (¬ (p2 &&& (1 : Int32)) = 0))), .val (.int (own_b (¬ (p2 &&& (2 : Int32)) = 0))), .unset, .unset] [(.int (1 : Int32))])) _
      refine XS.goto X0.here hx rfl (pc0 := 37) (pc' := 41) rfl (hb hby at_37) (by decide) (by decide) ?_
      exact k
  obtain ⟨_, _, ⟨T2, L2, k2, n2⟩, -, X2, ⟨Lc2, hQ2, l2, y2, z2⟩, st2⟩ := Jvm.LawKit.callS X0 hx (y := (⟨"com/example/nitka/nitka/SettlePoints", "settlePoint", "(ZIZZ)I"⟩ : MethodName)) hown (mvT hZ (hw _ (List.mem_of_getElem? (i := 1) rfl))) (mvT hZ (hw _ (List.mem_of_getElem? (i := 2) rfl))) (mvT hZ (hw _ (List.mem_of_getElem? (i := 3) rfl))) (mvT hZ (hw _ (List.mem_of_getElem? (i := 4) rfl))) (by decide) (backOf (W := 0) (rm1 l Z a0 hw [] (own_b (¬ (p2 &&& (1 : Int32)) = 0)) (p1 &&& (536870911 : Int32)) (own_b (¬ (p2 &&& (2 : Int32)) = 0)) (own_b (¬ (p2 &&& (4 : Int32)) = 0)) h0 n0 Z0) hZ (hw _ (List.mem_of_getElem? (i := 4) rfl)) (hw _ (List.mem_of_getElem? (i := 3) rfl)) (by decide) (by decide)) (g := (mkF m 49 #[.val (.int p1), .val (.int p2), .val (.int (p1 &&& (536870911 : Int32))), .val (.int (own_b (¬ (p2 &&& (1 : Int32)) = 0))), .val (.int (own_b (¬ (p2 &&& (2 : Int32)) = 0))), .val (.int (own_b (¬ (p2 &&& (4 : Int32)) = 0))), .unset] [(.int (own_b (¬ (p2 &&& (4 : Int32)) = 0))), (.int (own_b (¬ (p2 &&& (2 : Int32)) = 0))), (.int (p1 &&& (536870911 : Int32))), (.int (own_b (¬ (p2 &&& (1 : Int32)) = 0)))])) rfl (by rw [hml]; rfl) (argsL := [(.int (own_b (¬ (p2 &&& (1 : Int32)) = 0))), (.int (p1 &&& (536870911 : Int32))), (.int (own_b (¬ (p2 &&& (2 : Int32)) = 0))), (.int (own_b (¬ (p2 &&& (4 : Int32)) = 0)))]) (rest := []) (lenOf pd_oZIZZcI rfl) rfl (by show 2 * 0 + _ ≤ _; exact Nat.le_of_eq rfl) (hb hby at_49) (fun _ _ => ⟨rfl, e0, (by decide : 0 + 0 ≤ _), (by decide : 0 + 0 ≤ _)⟩)
  dsimp only [Pt.U, Pt.locs, Pt.cells, Pt.slots] at X2 l2 y2 z2 st2 hQ2
  subst l2 y2 z2
  obtain ⟨rfl, N2q, eq2⟩ := hQ2
  have N2 := Fr.app N0 N2q
  obtain ⟨fs, hr, hrun, hended, hW, hsame⟩ := X2.leave (v := some (.int (1 : Int32))) (fun h => by rw [Bd.returns] at h; cases h)
  refine ⟨_, _, pre0 _ ?_, hrun, hended, _, _, rfl, ?_, ⟨_, rfl⟩, hW, hsame.mono (by decide) (by decide)⟩
  · show Steps p.tables e below (s₁.setTop (mkF m 0 #[.val (.int p1), .val (.int p2), .unset, .unset, .unset, .unset, .unset] [])) _
    show Steps p.tables e below (s₁.setTop (mkF m 0 #[.val (.int p1), .val (.int p2), .unset, .unset, .unset, .unset, .unset] [])) _
    refine XS.iloadN X0.here hx rfl (hb hby at_0) rfl ?_
    show Steps p.tables e below (s₁.setTop (mkF m 1 #[.val (.int p1), .val (.int p2), .unset, .unset, .unset, .unset, .unset] [(.int p1)])) _
    refine X0.ldcI hx hown (mvT hZ (hw _ (List.mem_of_getElem? (i := 0) rfl))) (g := (mkF m 1 #[.val (.int p1), .val (.int p2), .unset, .unset, .unset, .unset, .unset] [(.int p1)])) rfl (hb hby at_1) ?_
    show Steps p.tables e below (s₁.setTop (mkF m 3 #[.val (.int p1), .val (.int p2), .unset, .unset, .unset, .unset, .unset] [(.int (536870911 : Int32)), (.int p1)])) _
    refine XS.iand X0.here hx rfl (hb hby at_3) rfl ?_
    show Steps p.tables e below (s₁.setTop (mkF m 4 #[.val (.int p1), .val (.int p2), .unset, .unset, .unset, .unset, .unset] [(.int (p1 &&& (536870911 : Int32)))])) _
    refine XS.istoreN X0.here hx rfl (hb hby at_4) rfl (l' := #[.val (.int p1), .val (.int p2), .val (.int (p1 &&& (536870911 : Int32))), .unset, .unset, .unset, .unset]) rfl ?_
    show Steps p.tables e below (s₁.setTop (mkF m 5 #[.val (.int p1), .val (.int p2), .val (.int (p1 &&& (536870911 : Int32))), .unset, .unset, .unset, .unset] [])) _
    refine sg5 _ ?_
    show Steps p.tables e below (s₁.setTop (mkF m 16 #[.val (.int p1), .val (.int p2), .val (.int (p1 &&& (536870911 : Int32))), .unset, .unset, .unset, .unset] [(.int (own_b (¬ (p2 &&& (1 : Int32)) = 0)))])) _
    refine XS.istoreN X0.here hx rfl (hb hby at_16) rfl (l' := #[.val (.int p1), .val (.int p2), .val (.int (p1 &&& (536870911 : Int32))), .val (.int (own_b (¬ (p2 &&& (1 : Int32)) = 0))), .unset, .unset, .unset]) rfl ?_
    show Steps p.tables e below (s₁.setTop (mkF m 17 #[.val (.int p1), .val (.int p2), .val (.int (p1 &&& (536870911 : Int32))), .val (.int (own_b (¬ (p2 &&& (1 : Int32)) = 0))), .unset, .unset, .unset] [])) _
    refine sg17 _ ?_
    show Steps p.tables e below (s₁.setTop (mkF m 28 #[.val (.int p1), .val (.int p2), .val (.int (p1 &&& (536870911 : Int32))), .val (.int (own_b (¬ (p2 &&& (1 : Int32)) = 0))), .unset, .unset, .unset] [(.int (own_b (¬ (p2 &&& (2 : Int32)) = 0)))])) _
    refine XS.istore X0.here hx rfl (hb hby at_28) rfl (l' := #[.val (.int p1), .val (.int p2), .val (.int (p1 &&& (536870911 : Int32))), .val (.int (own_b (¬ (p2 &&& (1 : Int32)) = 0))), .val (.int (own_b (¬ (p2 &&& (2 : Int32)) = 0))), .unset, .unset]) rfl ?_
    show Steps p.tables e below (s₁.setTop (mkF m 30 #[.val (.int p1), .val (.int p2), .val (.int (p1 &&& (536870911 : Int32))), .val (.int (own_b (¬ (p2 &&& (1 : Int32)) = 0))), .val (.int (own_b (¬ (p2 &&& (2 : Int32)) = 0))), .unset, .unset] [])) _
    refine sg30 _ ?_
    show Steps p.tables e below (s₁.setTop (mkF m 41 #[.val (.int p1), .val (.int p2), .val (.int (p1 &&& (536870911 : Int32))), .val (.int (own_b (¬ (p2 &&& (1 : Int32)) = 0))), .val (.int (own_b (¬ (p2 &&& (2 : Int32)) = 0))), .unset, .unset] [(.int (own_b (¬ (p2 &&& (4 : Int32)) = 0)))])) _
    refine XS.istore X0.here hx rfl (hb hby at_41) rfl (l' := #[.val (.int p1), .val (.int p2), .val (.int (p1 &&& (536870911 : Int32))), .val (.int (own_b (¬ (p2 &&& (1 : Int32)) = 0))), .val (.int (own_b (¬ (p2 &&& (2 : Int32)) = 0))), .val (.int (own_b (¬ (p2 &&& (4 : Int32)) = 0))), .unset]) rfl ?_
    show Steps p.tables e below (s₁.setTop (mkF m 43 #[.val (.int p1), .val (.int p2), .val (.int (p1 &&& (536870911 : Int32))), .val (.int (own_b (¬ (p2 &&& (1 : Int32)) = 0))), .val (.int (own_b (¬ (p2 &&& (2 : Int32)) = 0))), .val (.int (own_b (¬ (p2 &&& (4 : Int32)) = 0))), .unset] [])) _
    refine XS.iloadN X0.here hx rfl (hb hby at_43) rfl ?_
    show Steps p.tables e below (s₁.setTop (mkF m 44 #[.val (.int p1), .val (.int p2), .val (.int (p1 &&& (536870911 : Int32))), .val (.int (own_b (¬ (p2 &&& (1 : Int32)) = 0))), .val (.int (own_b (¬ (p2 &&& (2 : Int32)) = 0))), .val (.int (own_b (¬ (p2 &&& (4 : Int32)) = 0))), .unset] [(.int (own_b (¬ (p2 &&& (1 : Int32)) = 0)))])) _
    refine XS.iloadN X0.here hx rfl (hb hby at_44) rfl ?_
    show Steps p.tables e below (s₁.setTop (mkF m 45 #[.val (.int p1), .val (.int p2), .val (.int (p1 &&& (536870911 : Int32))), .val (.int (own_b (¬ (p2 &&& (1 : Int32)) = 0))), .val (.int (own_b (¬ (p2 &&& (2 : Int32)) = 0))), .val (.int (own_b (¬ (p2 &&& (4 : Int32)) = 0))), .unset] [(.int (p1 &&& (536870911 : Int32))), (.int (own_b (¬ (p2 &&& (1 : Int32)) = 0)))])) _
    refine XS.iload X0.here hx rfl (hb hby at_45) rfl ?_
    show Steps p.tables e below (s₁.setTop (mkF m 47 #[.val (.int p1), .val (.int p2), .val (.int (p1 &&& (536870911 : Int32))), .val (.int (own_b (¬ (p2 &&& (1 : Int32)) = 0))), .val (.int (own_b (¬ (p2 &&& (2 : Int32)) = 0))), .val (.int (own_b (¬ (p2 &&& (4 : Int32)) = 0))), .unset] [(.int (own_b (¬ (p2 &&& (2 : Int32)) = 0))), (.int (p1 &&& (536870911 : Int32))), (.int (own_b (¬ (p2 &&& (1 : Int32)) = 0)))])) _
    refine XS.iload X0.here hx rfl (hb hby at_47) rfl ?_
    show Steps p.tables e below (s₁.setTop (mkF m 49 #[.val (.int p1), .val (.int p2), .val (.int (p1 &&& (536870911 : Int32))), .val (.int (own_b (¬ (p2 &&& (1 : Int32)) = 0))), .val (.int (own_b (¬ (p2 &&& (2 : Int32)) = 0))), .val (.int (own_b (¬ (p2 &&& (4 : Int32)) = 0))), .unset] [(.int (own_b (¬ (p2 &&& (4 : Int32)) = 0))), (.int (own_b (¬ (p2 &&& (2 : Int32)) = 0))), (.int (p1 &&& (536870911 : Int32))), (.int (own_b (¬ (p2 &&& (1 : Int32)) = 0)))])) _
    refine st2 _ ?_
    show Steps p.tables e below (T2.setTop (mkF m 52 #[.val (.int p1), .val (.int p2), .val (.int (p1 &&& (536870911 : Int32))), .val (.int (own_b (¬ (p2 &&& (1 : Int32)) = 0))), .val (.int (own_b (¬ (p2 &&& (2 : Int32)) = 0))), .val (.int (own_b (¬ (p2 &&& (4 : Int32)) = 0))), .unset] [(.int (own_pt (own_b (¬ (p2 &&& (1 : Int32)) = 0)) (p1 &&& (536870911 : Int32)) (own_b (¬ (p2 &&& (2 : Int32)) = 0)) (own_b (¬ (p2 &&& (4 : Int32)) = 0))))])) _
    refine XS.istore X2.here hx rfl (hb hby at_52) rfl (l' := #[.val (.int p1), .val (.int p2), .val (.int (p1 &&& (536870911 : Int32))), .val (.int (own_b (¬ (p2 &&& (1 : Int32)) = 0))), .val (.int (own_b (¬ (p2 &&& (2 : Int32)) = 0))), .val (.int (own_b (¬ (p2 &&& (4 : Int32)) = 0))), .val (.int (own_pt (own_b (¬ (p2 &&& (1 : Int32)) = 0)) (p1 &&& (536870911 : Int32)) (own_b (¬ (p2 &&& (2 : Int32)) = 0)) (own_b (¬ (p2 &&& (4 : Int32)) = 0))))]) rfl ?_
    by_cases c1 : (own_b (¬ (p2 &&& (1 : Int32)) = 0)) = 0
    · show Steps p.tables e below (T2.setTop (mkF m 54 #[.val (.int p1), .val (.int p2), .val (.int (p1 &&& (536870911 : Int32))), .val (.int (own_b (¬ (p2 &&& (1 : Int32)) = 0))), .val (.int (own_b (¬ (p2 &&& (2 : Int32)) = 0))), .val (.int (own_b (¬ (p2 &&& (4 : Int32)) = 0))), .val (.int (own_pt (own_b (¬ (p2 &&& (1 : Int32)) = 0)) (p1 &&& (536870911 : Int32)) (own_b (¬ (p2 &&& (2 : Int32)) = 0)) (own_b (¬ (p2 &&& (4 : Int32)) = 0))))] [])) _
      refine XS.iloadN X2.here hx rfl (hb hby at_54) rfl ?_
      show Steps p.tables e below (T2.setTop (mkF m 55 #[.val (.int p1), .val (.int p2), .val (.int (p1 &&& (536870911 : Int32))), .val (.int (own_b (¬ (p2 &&& (1 : Int32)) = 0))), .val (.int (own_b (¬ (p2 &&& (2 : Int32)) = 0))), .val (.int (own_b (¬ (p2 &&& (4 : Int32)) = 0))), .val (.int (own_pt (own_b (¬ (p2 &&& (1 : Int32)) = 0)) (p1 &&& (536870911 : Int32)) (own_b (¬ (p2 &&& (2 : Int32)) = 0)) (own_b (¬ (p2 &&& (4 : Int32)) = 0))))] [(.int (own_b (¬ (p2 &&& (1 : Int32)) = 0)))])) _
      refine XS.ifNo X2.here hx rfl (hb hby at_55) rfl ((if0 _ _).trans (teq c1).2) ?_
      show Steps p.tables e below (T2.setTop (mkF m 58 #[.val (.int p1), .val (.int p2), .val (.int (p1 &&& (536870911 : Int32))), .val (.int (own_b (¬ (p2 &&& (1 : Int32)) = 0))), .val (.int (own_b (¬ (p2 &&& (2 : Int32)) = 0))), .val (.int (own_b (¬ (p2 &&& (4 : Int32)) = 0))), .val (.int (own_pt (own_b (¬ (p2 &&& (1 : Int32)) = 0)) (p1 &&& (536870911 : Int32)) (own_b (¬ (p2 &&& (2 : Int32)) = 0)) (own_b (¬ (p2 &&& (4 : Int32)) = 0))))] [])) _
      refine XS.iload X2.here hx rfl (hb hby at_58) rfl ?_
      show Steps p.tables e below (T2.setTop (mkF m 60 #[.val (.int p1), .val (.int p2), .val (.int (p1 &&& (536870911 : Int32))), .val (.int (own_b (¬ (p2 &&& (1 : Int32)) = 0))), .val (.int (own_b (¬ (p2 &&& (2 : Int32)) = 0))), .val (.int (own_b (¬ (p2 &&& (4 : Int32)) = 0))), .val (.int (own_pt (own_b (¬ (p2 &&& (1 : Int32)) = 0)) (p1 &&& (536870911 : Int32)) (own_b (¬ (p2 &&& (2 : Int32)) = 0)) (own_b (¬ (p2 &&& (4 : Int32)) = 0))))] [(.int (own_pt (own_b (¬ (p2 &&& (1 : Int32)) = 0)) (p1 &&& (536870911 : Int32)) (own_b (¬ (p2 &&& (2 : Int32)) = 0)) (own_b (¬ (p2 &&& (4 : Int32)) = 0))))])) _
      refine XS.iloadN X2.here hx rfl (hb hby at_60) rfl ?_
      show Steps p.tables e below (T2.setTop (mkF m 61 #[.val (.int p1), .val (.int p2), .val (.int (p1 &&& (536870911 : Int32))), .val (.int (own_b (¬ (p2 &&& (1 : Int32)) = 0))), .val (.int (own_b (¬ (p2 &&& (2 : Int32)) = 0))), .val (.int (own_b (¬ (p2 &&& (4 : Int32)) = 0))), .val (.int (own_pt (own_b (¬ (p2 &&& (1 : Int32)) = 0)) (p1 &&& (536870911 : Int32)) (own_b (¬ (p2 &&& (2 : Int32)) = 0)) (own_b (¬ (p2 &&& (4 : Int32)) = 0))))] [(.int (p1 &&& (536870911 : Int32))), (.int (own_pt (own_b (¬ (p2 &&& (1 : Int32)) = 0)) (p1 &&& (536870911 : Int32)) (own_b (¬ (p2 &&& (2 : Int32)) = 0)) (own_b (¬ (p2 &&& (4 : Int32)) = 0))))])) _
      refine XS.icmpNo X2.here hx rfl (hb hby at_61) rfl (teq (if_pos c1)).2 ?_
      show Steps p.tables e below (T2.setTop (mkF m 64 #[.val (.int p1), .val (.int p2), .val (.int (p1 &&& (536870911 : Int32))), .val (.int (own_b (¬ (p2 &&& (1 : Int32)) = 0))), .val (.int (own_b (¬ (p2 &&& (2 : Int32)) = 0))), .val (.int (own_b (¬ (p2 &&& (4 : Int32)) = 0))), .val (.int (own_pt (own_b (¬ (p2 &&& (1 : Int32)) = 0)) (p1 &&& (536870911 : Int32)) (own_b (¬ (p2 &&& (2 : Int32)) = 0)) (own_b (¬ (p2 &&& (4 : Int32)) = 0))))] [])) _
      refine XS.iconst X2.here hx rfl (hb hby at_64) ?_
      show Steps p.tables e below (T2.setTop (mkF m 65 #[.val (.int p1), .val (.int p2), .val (.int (p1 &&& (536870911 : Int32))), .val (.int (own_b (¬ (p2 &&& (1 : Int32)) = 0))), .val (.int (own_b (¬ (p2 &&& (2 : Int32)) = 0))), .val (.int (own_b (¬ (p2 &&& (4 : Int32)) = 0))), .val (.int (own_pt (own_b (¬ (p2 &&& (1 : Int32)) = 0)) (p1 &&& (536870911 : Int32)) (own_b (¬ (p2 &&& (2 : Int32)) = 0)) (own_b (¬ (p2 &&& (4 : Int32)) = 0))))] [(.int (1 : Int32))])) _
      refine XS.goto X2.here hx rfl (pc0 := 65) (pc' := 69) rfl (hb hby at_65) (by decide) (by decide) ?_
      show Steps p.tables e below (T2.setTop (mkF m 69 #[.val (.int p1), .val (.int p2), .val (.int (p1 &&& (536870911 : Int32))), .val (.int (own_b (¬ (p2 &&& (1 : Int32)) = 0))), .val (.int (own_b (¬ (p2 &&& (2 : Int32)) = 0))), .val (.int (own_b (¬ (p2 &&& (4 : Int32)) = 0))), .val (.int (own_pt (own_b (¬ (p2 &&& (1 : Int32)) = 0)) (p1 &&& (536870911 : Int32)) (own_b (¬ (p2 &&& (2 : Int32)) = 0)) (own_b (¬ (p2 &&& (4 : Int32)) = 0))))] [(.int (1 : Int32))])) _
      exact retN X2 hx (t := .boolean) Bd.returns (by simp) (hb hby at_69) hr
    · have A := own_all (p1 &&& (536870911 : Int32)) (own_b (¬ (p2 &&& (2 : Int32)) = 0)) (own_b (¬ (p2 &&& (4 : Int32)) = 0)) (own_b (¬ (p2 &&& (1 : Int32)) = 0)) c1 (own_mask p1)
      have sg83 : ∀ t, Steps p.tables e below (T2.setTop (mkF m 95 #[.val (.int p1), .val (.int p2), .val (.int (p1 &&& (536870911 : Int32))), .val (.int (own_b (¬ (p2 &&& (1 : Int32)) = 0))), .val (.int (own_b (¬ (p2 &&& (2 : Int32)) = 0))), .val (.int (own_b (¬ (p2 &&& (4 : Int32)) = 0))), .val (.int (own_pt (own_b (¬ (p2 &&& (1 : Int32)) = 0)) (p1 &&& (536870911 : Int32)) (own_b (¬ (p2 &&& (2 : Int32)) = 0)) (own_b (¬ (p2 &&& (4 : Int32)) = 0))))] [(.int (own_b (¬ ((own_pt (own_b (¬ (p2 &&& (1 : Int32)) = 0)) (p1 &&& (536870911 : Int32)) (own_b (¬ (p2 &&& (2 : Int32)) = 0)) (own_b (¬ (p2 &&& (4 : Int32)) = 0))) &&& (2 : Int32)) = 0)))])) t → Steps p.tables e below (T2.setTop (mkF m 83 #[.val (.int p1), .val (.int p2), .val (.int (p1 &&& (536870911 : Int32))), .val (.int (own_b (¬ (p2 &&& (1 : Int32)) = 0))), .val (.int (own_b (¬ (p2 &&& (2 : Int32)) = 0))), .val (.int (own_b (¬ (p2 &&& (4 : Int32)) = 0))), .val (.int (own_pt (own_b (¬ (p2 &&& (1 : Int32)) = 0)) (p1 &&& (536870911 : Int32)) (own_b (¬ (p2 &&& (2 : Int32)) = 0)) (own_b (¬ (p2 &&& (4 : Int32)) = 0))))] [])) t := by
        intro t k
        by_cases hc : ((own_pt (own_b (¬ (p2 &&& (1 : Int32)) = 0)) (p1 &&& (536870911 : Int32)) (own_b (¬ (p2 &&& (2 : Int32)) = 0)) (own_b (¬ (p2 &&& (4 : Int32)) = 0))) &&& (2 : Int32)) = 0
        · rw [own_bf (P := ¬ ((own_pt (own_b (¬ (p2 &&& (1 : Int32)) = 0)) (p1 &&& (536870911 : Int32)) (own_b (¬ (p2 &&& (2 : Int32)) = 0)) (own_b (¬ (p2 &&& (4 : Int32)) = 0))) &&& (2 : Int32)) = 0) (fun q => q hc)] at k
          show Steps p.tables e below (T2.setTop (mkF m 83 #[.val (.int p1), .val (.int p2), .val (.int (p1 &&& (536870911 : Int32))), .val (.int (own_b (¬ (p2 &&& (1 : Int32)) = 0))), .val (.int (own_b (¬ (p2 &&& (2 : Int32)) = 0))), .val (.int (own_b (¬ (p2 &&& (4 : Int32)) = 0))), .val (.int (own_pt (own_b (¬ (p2 &&& (1 : Int32)) = 0)) (p1 &&& (536870911 : Int32)) (own_b (¬ (p2 &&& (2 : Int32)) = 0)) (own_b (¬ (p2 &&& (4 : Int32)) = 0))))] [])) _
          refine XS.iload X2.here hx rfl (hb hby at_83) rfl ?_
          show Steps p.tables e below (T2.setTop (mkF m 85 #[.val (.int p1), .val (.int p2), .val (.int (p1 &&& (536870911 : Int32))), .val (.int (own_b (¬ (p2 &&& (1 : Int32)) = 0))), .val (.int (own_b (¬ (p2 &&& (2 : Int32)) = 0))), .val (.int (own_b (¬ (p2 &&& (4 : Int32)) = 0))), .val (.int (own_pt (own_b (¬ (p2 &&& (1 : Int32)) = 0)) (p1 &&& (536870911 : Int32)) (own_b (¬ (p2 &&& (2 : Int32)) = 0)) (own_b (¬ (p2 &&& (4 : Int32)) = 0))))] [(.int (own_pt (own_b (¬ (p2 &&& (1 : Int32)) = 0)) (p1 &&& (536870911 : Int32)) (own_b (¬ (p2 &&& (2 : Int32)) = 0)) (own_b (¬ (p2 &&& (4 : Int32)) = 0))))])) _
          refine XS.iconst X2.here hx rfl (hb hby at_85) ?_
          show Steps p.tables e below (T2.setTop (mkF m 86 #[.val (.int p1), .val (.int p2), .val (.int (p1 &&& (536870911 : Int32))), .val (.int (own_b (¬ (p2 &&& (1 : Int32)) = 0))), .val (.int (own_b (¬ (p2 &&& (2 : Int32)) = 0))), .val (.int (own_b (¬ (p2 &&& (4 : Int32)) = 0))), .val (.int (own_pt (own_b (¬ (p2 &&& (1 : Int32)) = 0)) (p1 &&& (536870911 : Int32)) (own_b (¬ (p2 &&& (2 : Int32)) = 0)) (own_b (¬ (p2 &&& (4 : Int32)) = 0))))] [(.int (2 : Int32)), (.int (own_pt (own_b (¬ (p2 &&& (1 : Int32)) = 0)) (p1 &&& (536870911 : Int32)) (own_b (¬ (p2 &&& (2 : Int32)) = 0)) (own_b (¬ (p2 &&& (4 : Int32)) = 0))))])) _
          refine XS.iand X2.here hx rfl (hb hby at_86) rfl ?_
          show Steps p.tables e below (T2.setTop (mkF m 87 #[.val (.int p1), .val (.int p2), .val (.int (p1 &&& (536870911 : Int32))), .val (.int (own_b (¬ (p2 &&& (1 : Int32)) = 0))), .val (.int (own_b (¬ (p2 &&& (2 : Int32)) = 0))), .val (.int (own_b (¬ (p2 &&& (4 : Int32)) = 0))), .val (.int (own_pt (own_b (¬ (p2 &&& (1 : Int32)) = 0)) (p1 &&& (536870911 : Int32)) (own_b (¬ (p2 &&& (2 : Int32)) = 0)) (own_b (¬ (p2 &&& (4 : Int32)) = 0))))] [(.int ((own_pt (own_b (¬ (p2 &&& (1 : Int32)) = 0)) (p1 &&& (536870911 : Int32)) (own_b (¬ (p2 &&& (2 : Int32)) = 0)) (own_b (¬ (p2 &&& (4 : Int32)) = 0))) &&& (2 : Int32)))])) _
          refine XS.ifYes X2.here hx rfl (pc0 := 87) (pc' := 94) rfl (hb hby at_87) rfl ((if0 _ _).trans (teq hc).1) (by decide) (by decide) ?_
          show Steps p.tables e below (T2.setTop (mkF m 94 #[.val (.int p1), .val (.int p2), .val (.int (p1 &&& (536870911 : Int32))), .val (.int (own_b (¬ (p2 &&& (1 : Int32)) = 0))), .val (.int (own_b (¬ (p2 &&& (2 : Int32)) = 0))), .val (.int (own_b (¬ (p2 &&& (4 : Int32)) = 0))), .val (.int (own_pt (own_b (¬ (p2 &&& (1 : Int32)) = 0)) (p1 &&& (536870911 : Int32)) (own_b (¬ (p2 &&& (2 : Int32)) = 0)) (own_b (¬ (p2 &&& (4 : Int32)) = 0))))] [])) _
          refine XS.iconst X2.here hx rfl (hb hby at_94) ?_
          exact k
        · rw [own_bt (P := ¬ ((own_pt (own_b (¬ (p2 &&& (1 : Int32)) = 0)) (p1 &&& (536870911 : Int32)) (own_b (¬ (p2 &&& (2 : Int32)) = 0)) (own_b (¬ (p2 &&& (4 : Int32)) = 0))) &&& (2 : Int32)) = 0) hc] at k
          show Steps p.tables e below (T2.setTop (mkF m 83 #[.val (.int p1), .val (.int p2), .val (.int (p1 &&& (536870911 : Int32))), .val (.int (own_b (¬ (p2 &&& (1 : Int32)) = 0))), .val (.int (own_b (¬ (p2 &&& (2 : Int32)) = 0))), .val (.int (own_b (¬ (p2 &&& (4 : Int32)) = 0))), .val (.int (own_pt (own_b (¬ (p2 &&& (1 : Int32)) = 0)) (p1 &&& (536870911 : Int32)) (own_b (¬ (p2 &&& (2 : Int32)) = 0)) (own_b (¬ (p2 &&& (4 : Int32)) = 0))))] [])) _
          refine XS.iload X2.here hx rfl (hb hby at_83) rfl ?_
          show Steps p.tables e below (T2.setTop (mkF m 85 #[.val (.int p1), .val (.int p2), .val (.int (p1 &&& (536870911 : Int32))), .val (.int (own_b (¬ (p2 &&& (1 : Int32)) = 0))), .val (.int (own_b (¬ (p2 &&& (2 : Int32)) = 0))), .val (.int (own_b (¬ (p2 &&& (4 : Int32)) = 0))), .val (.int (own_pt (own_b (¬ (p2 &&& (1 : Int32)) = 0)) (p1 &&& (536870911 : Int32)) (own_b (¬ (p2 &&& (2 : Int32)) = 0)) (own_b (¬ (p2 &&& (4 : Int32)) = 0))))] [(.int (own_pt (own_b (¬ (p2 &&& (1 : Int32)) = 0)) (p1 &&& (536870911 : Int32)) (own_b (¬ (p2 &&& (2 : Int32)) = 0)) (own_b (¬ (p2 &&& (4 : Int32)) = 0))))])) _
          refine XS.iconst X2.here hx rfl (hb hby at_85) ?_
          show Steps p.tables e below (T2.setTop (mkF m 86 #[.val (.int p1), .val (.int p2), .val (.int (p1 &&& (536870911 : Int32))), .val (.int (own_b (¬ (p2 &&& (1 : Int32)) = 0))), .val (.int (own_b (¬ (p2 &&& (2 : Int32)) = 0))), .val (.int (own_b (¬ (p2 &&& (4 : Int32)) = 0))), .val (.int (own_pt (own_b (¬ (p2 &&& (1 : Int32)) = 0)) (p1 &&& (536870911 : Int32)) (own_b (¬ (p2 &&& (2 : Int32)) = 0)) (own_b (¬ (p2 &&& (4 : Int32)) = 0))))] [(.int (2 : Int32)), (.int (own_pt (own_b (¬ (p2 &&& (1 : Int32)) = 0)) (p1 &&& (536870911 : Int32)) (own_b (¬ (p2 &&& (2 : Int32)) = 0)) (own_b (¬ (p2 &&& (4 : Int32)) = 0))))])) _
          refine XS.iand X2.here hx rfl (hb hby at_86) rfl ?_
          show Steps p.tables e below (T2.setTop (mkF m 87 #[.val (.int p1), .val (.int p2), .val (.int (p1 &&& (536870911 : Int32))), .val (.int (own_b (¬ (p2 &&& (1 : Int32)) = 0))), .val (.int (own_b (¬ (p2 &&& (2 : Int32)) = 0))), .val (.int (own_b (¬ (p2 &&& (4 : Int32)) = 0))), .val (.int (own_pt (own_b (¬ (p2 &&& (1 : Int32)) = 0)) (p1 &&& (536870911 : Int32)) (own_b (¬ (p2 &&& (2 : Int32)) = 0)) (own_b (¬ (p2 &&& (4 : Int32)) = 0))))] [(.int ((own_pt (own_b (¬ (p2 &&& (1 : Int32)) = 0)) (p1 &&& (536870911 : Int32)) (own_b (¬ (p2 &&& (2 : Int32)) = 0)) (own_b (¬ (p2 &&& (4 : Int32)) = 0))) &&& (2 : Int32)))])) _
          refine XS.ifNo X2.here hx rfl (hb hby at_87) rfl ((if0 _ _).trans (feq hc).1) ?_
          show Steps p.tables e below (T2.setTop (mkF m 90 #[.val (.int p1), .val (.int p2), .val (.int (p1 &&& (536870911 : Int32))), .val (.int (own_b (¬ (p2 &&& (1 : Int32)) = 0))), .val (.int (own_b (¬ (p2 &&& (2 : Int32)) = 0))), .val (.int (own_b (¬ (p2 &&& (4 : Int32)) = 0))), .val (.int (own_pt (own_b (¬ (p2 &&& (1 : Int32)) = 0)) (p1 &&& (536870911 : Int32)) (own_b (¬ (p2 &&& (2 : Int32)) = 0)) (own_b (¬ (p2 &&& (4 : Int32)) = 0))))] [])) _
          refine XS.iconst X2.here hx rfl (hb hby at_90) ?_
          show Steps p.tables e below (T2.setTop (mkF m 91 #[.val (.int p1), .val (.int p2), .val (.int (p1 &&& (536870911 : Int32))), .val (.int (own_b (¬ (p2 &&& (1 : Int32)) = 0))), .val (.int (own_b (¬ (p2 &&& (2 : Int32)) = 0))), .val (.int (own_b (¬ (p2 &&& (4 : Int32)) = 0))), .val (.int (own_pt (own_b (¬ (p2 &&& (1 : Int32)) = 0)) (p1 &&& (536870911 : Int32)) (own_b (¬ (p2 &&& (2 : Int32)) = 0)) (own_b (¬ (p2 &&& (4 : Int32)) = 0))))] [(.int (1 : Int32))])) _
          refine XS.goto X2.here hx rfl (pc0 := 91) (pc' := 95) rfl (hb hby at_91) (by decide) (by decide) ?_
          exact k
      have sg100 : ∀ t, Steps p.tables e below (T2.setTop (mkF m 112 #[.val (.int p1), .val (.int p2), .val (.int (p1 &&& (536870911 : Int32))), .val (.int (own_b (¬ (p2 &&& (1 : Int32)) = 0))), .val (.int (own_b (¬ (p2 &&& (2 : Int32)) = 0))), .val (.int (own_b (¬ (p2 &&& (4 : Int32)) = 0))), .val (.int (own_pt (own_b (¬ (p2 &&& (1 : Int32)) = 0)) (p1 &&& (536870911 : Int32)) (own_b (¬ (p2 &&& (2 : Int32)) = 0)) (own_b (¬ (p2 &&& (4 : Int32)) = 0))))] [(.int (own_b (¬ ((own_pt (own_b (¬ (p2 &&& (1 : Int32)) = 0)) (p1 &&& (536870911 : Int32)) (own_b (¬ (p2 &&& (2 : Int32)) = 0)) (own_b (¬ (p2 &&& (4 : Int32)) = 0))) &&& (1 : Int32)) = 0)))])) t → Steps p.tables e below (T2.setTop (mkF m 100 #[.val (.int p1), .val (.int p2), .val (.int (p1 &&& (536870911 : Int32))), .val (.int (own_b (¬ (p2 &&& (1 : Int32)) = 0))), .val (.int (own_b (¬ (p2 &&& (2 : Int32)) = 0))), .val (.int (own_b (¬ (p2 &&& (4 : Int32)) = 0))), .val (.int (own_pt (own_b (¬ (p2 &&& (1 : Int32)) = 0)) (p1 &&& (536870911 : Int32)) (own_b (¬ (p2 &&& (2 : Int32)) = 0)) (own_b (¬ (p2 &&& (4 : Int32)) = 0))))] [])) t := by
        intro t k
        by_cases hc : ((own_pt (own_b (¬ (p2 &&& (1 : Int32)) = 0)) (p1 &&& (536870911 : Int32)) (own_b (¬ (p2 &&& (2 : Int32)) = 0)) (own_b (¬ (p2 &&& (4 : Int32)) = 0))) &&& (1 : Int32)) = 0
        · rw [own_bf (P := ¬ ((own_pt (own_b (¬ (p2 &&& (1 : Int32)) = 0)) (p1 &&& (536870911 : Int32)) (own_b (¬ (p2 &&& (2 : Int32)) = 0)) (own_b (¬ (p2 &&& (4 : Int32)) = 0))) &&& (1 : Int32)) = 0) (fun q => q hc)] at k
          show Steps p.tables e below (T2.setTop (mkF m 100 #[.val (.int p1), .val (.int p2), .val (.int (p1 &&& (536870911 : Int32))), .val (.int (own_b (¬ (p2 &&& (1 : Int32)) = 0))), .val (.int (own_b (¬ (p2 &&& (2 : Int32)) = 0))), .val (.int (own_b (¬ (p2 &&& (4 : Int32)) = 0))), .val (.int (own_pt (own_b (¬ (p2 &&& (1 : Int32)) = 0)) (p1 &&& (536870911 : Int32)) (own_b (¬ (p2 &&& (2 : Int32)) = 0)) (own_b (¬ (p2 &&& (4 : Int32)) = 0))))] [])) _
          refine XS.iload X2.here hx rfl (hb hby at_100) rfl ?_
          show Steps p.tables e below (T2.setTop (mkF m 102 #[.val (.int p1), .val (.int p2), .val (.int (p1 &&& (536870911 : Int32))), .val (.int (own_b (¬ (p2 &&& (1 : Int32)) = 0))), .val (.int (own_b (¬ (p2 &&& (2 : Int32)) = 0))), .val (.int (own_b (¬ (p2 &&& (4 : Int32)) = 0))), .val (.int (own_pt (own_b (¬ (p2 &&& (1 : Int32)) = 0)) (p1 &&& (536870911 : Int32)) (own_b (¬ (p2 &&& (2 : Int32)) = 0)) (own_b (¬ (p2 &&& (4 : Int32)) = 0))))] [(.int (own_pt (own_b (¬ (p2 &&& (1 : Int32)) = 0)) (p1 &&& (536870911 : Int32)) (own_b (¬ (p2 &&& (2 : Int32)) = 0)) (own_b (¬ (p2 &&& (4 : Int32)) = 0))))])) _
          refine XS.iconst X2.here hx rfl (hb hby at_102) ?_
          show Steps p.tables e below (T2.setTop (mkF m 103 #[.val (.int p1), .val (.int p2), .val (.int (p1 &&& (536870911 : Int32))), .val (.int (own_b (¬ (p2 &&& (1 : Int32)) = 0))), .val (.int (own_b (¬ (p2 &&& (2 : Int32)) = 0))), .val (.int (own_b (¬ (p2 &&& (4 : Int32)) = 0))), .val (.int (own_pt (own_b (¬ (p2 &&& (1 : Int32)) = 0)) (p1 &&& (536870911 : Int32)) (own_b (¬ (p2 &&& (2 : Int32)) = 0)) (own_b (¬ (p2 &&& (4 : Int32)) = 0))))] [(.int (1 : Int32)), (.int (own_pt (own_b (¬ (p2 &&& (1 : Int32)) = 0)) (p1 &&& (536870911 : Int32)) (own_b (¬ (p2 &&& (2 : Int32)) = 0)) (own_b (¬ (p2 &&& (4 : Int32)) = 0))))])) _
          refine XS.iand X2.here hx rfl (hb hby at_103) rfl ?_
          show Steps p.tables e below (T2.setTop (mkF m 104 #[.val (.int p1), .val (.int p2), .val (.int (p1 &&& (536870911 : Int32))), .val (.int (own_b (¬ (p2 &&& (1 : Int32)) = 0))), .val (.int (own_b (¬ (p2 &&& (2 : Int32)) = 0))), .val (.int (own_b (¬ (p2 &&& (4 : Int32)) = 0))), .val (.int (own_pt (own_b (¬ (p2 &&& (1 : Int32)) = 0)) (p1 &&& (536870911 : Int32)) (own_b (¬ (p2 &&& (2 : Int32)) = 0)) (own_b (¬ (p2 &&& (4 : Int32)) = 0))))] [(.int ((own_pt (own_b (¬ (p2 &&& (1 : Int32)) = 0)) (p1 &&& (536870911 : Int32)) (own_b (¬ (p2 &&& (2 : Int32)) = 0)) (own_b (¬ (p2 &&& (4 : Int32)) = 0))) &&& (1 : Int32)))])) _
          refine XS.ifYes X2.here hx rfl (pc0 := 104) (pc' := 111) rfl (hb hby at_104) rfl ((if0 _ _).trans (teq hc).1) (by decide) (by decide) ?_
          show Steps p.tables e below (T2.setTop (mkF m 111 #[.val (.int p1), .val (.int p2), .val (.int (p1 &&& (536870911 : Int32))), .val (.int (own_b (¬ (p2 &&& (1 : Int32)) = 0))), .val (.int (own_b (¬ (p2 &&& (2 : Int32)) = 0))), .val (.int (own_b (¬ (p2 &&& (4 : Int32)) = 0))), .val (.int (own_pt (own_b (¬ (p2 &&& (1 : Int32)) = 0)) (p1 &&& (536870911 : Int32)) (own_b (¬ (p2 &&& (2 : Int32)) = 0)) (own_b (¬ (p2 &&& (4 : Int32)) = 0))))] [])) _
          refine XS.iconst X2.here hx rfl (hb hby at_111) ?_
          exact k
        · rw [own_bt (P := ¬ ((own_pt (own_b (¬ (p2 &&& (1 : Int32)) = 0)) (p1 &&& (536870911 : Int32)) (own_b (¬ (p2 &&& (2 : Int32)) = 0)) (own_b (¬ (p2 &&& (4 : Int32)) = 0))) &&& (1 : Int32)) = 0) hc] at k
          show Steps p.tables e below (T2.setTop (mkF m 100 #[.val (.int p1), .val (.int p2), .val (.int (p1 &&& (536870911 : Int32))), .val (.int (own_b (¬ (p2 &&& (1 : Int32)) = 0))), .val (.int (own_b (¬ (p2 &&& (2 : Int32)) = 0))), .val (.int (own_b (¬ (p2 &&& (4 : Int32)) = 0))), .val (.int (own_pt (own_b (¬ (p2 &&& (1 : Int32)) = 0)) (p1 &&& (536870911 : Int32)) (own_b (¬ (p2 &&& (2 : Int32)) = 0)) (own_b (¬ (p2 &&& (4 : Int32)) = 0))))] [])) _
          refine XS.iload X2.here hx rfl (hb hby at_100) rfl ?_
          show Steps p.tables e below (T2.setTop (mkF m 102 #[.val (.int p1), .val (.int p2), .val (.int (p1 &&& (536870911 : Int32))), .val (.int (own_b (¬ (p2 &&& (1 : Int32)) = 0))), .val (.int (own_b (¬ (p2 &&& (2 : Int32)) = 0))), .val (.int (own_b (¬ (p2 &&& (4 : Int32)) = 0))), .val (.int (own_pt (own_b (¬ (p2 &&& (1 : Int32)) = 0)) (p1 &&& (536870911 : Int32)) (own_b (¬ (p2 &&& (2 : Int32)) = 0)) (own_b (¬ (p2 &&& (4 : Int32)) = 0))))] [(.int (own_pt (own_b (¬ (p2 &&& (1 : Int32)) = 0)) (p1 &&& (536870911 : Int32)) (own_b (¬ (p2 &&& (2 : Int32)) = 0)) (own_b (¬ (p2 &&& (4 : Int32)) = 0))))])) _
          refine XS.iconst X2.here hx rfl (hb hby at_102) ?_
          show Steps p.tables e below (T2.setTop (mkF m 103 #[.val (.int p1), .val (.int p2), .val (.int (p1 &&& (536870911 : Int32))), .val (.int (own_b (¬ (p2 &&& (1 : Int32)) = 0))), .val (.int (own_b (¬ (p2 &&& (2 : Int32)) = 0))), .val (.int (own_b (¬ (p2 &&& (4 : Int32)) = 0))), .val (.int (own_pt (own_b (¬ (p2 &&& (1 : Int32)) = 0)) (p1 &&& (536870911 : Int32)) (own_b (¬ (p2 &&& (2 : Int32)) = 0)) (own_b (¬ (p2 &&& (4 : Int32)) = 0))))] [(.int (1 : Int32)), (.int (own_pt (own_b (¬ (p2 &&& (1 : Int32)) = 0)) (p1 &&& (536870911 : Int32)) (own_b (¬ (p2 &&& (2 : Int32)) = 0)) (own_b (¬ (p2 &&& (4 : Int32)) = 0))))])) _
          refine XS.iand X2.here hx rfl (hb hby at_103) rfl ?_
          show Steps p.tables e below (T2.setTop (mkF m 104 #[.val (.int p1), .val (.int p2), .val (.int (p1 &&& (536870911 : Int32))), .val (.int (own_b (¬ (p2 &&& (1 : Int32)) = 0))), .val (.int (own_b (¬ (p2 &&& (2 : Int32)) = 0))), .val (.int (own_b (¬ (p2 &&& (4 : Int32)) = 0))), .val (.int (own_pt (own_b (¬ (p2 &&& (1 : Int32)) = 0)) (p1 &&& (536870911 : Int32)) (own_b (¬ (p2 &&& (2 : Int32)) = 0)) (own_b (¬ (p2 &&& (4 : Int32)) = 0))))] [(.int ((own_pt (own_b (¬ (p2 &&& (1 : Int32)) = 0)) (p1 &&& (536870911 : Int32)) (own_b (¬ (p2 &&& (2 : Int32)) = 0)) (own_b (¬ (p2 &&& (4 : Int32)) = 0))) &&& (1 : Int32)))])) _
          refine XS.ifNo X2.here hx rfl (hb hby at_104) rfl ((if0 _ _).trans (feq hc).1) ?_
          show Steps p.tables e below (T2.setTop (mkF m 107 #[.val (.int p1), .val (.int p2), .val (.int (p1 &&& (536870911 : Int32))), .val (.int (own_b (¬ (p2 &&& (1 : Int32)) = 0))), .val (.int (own_b (¬ (p2 &&& (2 : Int32)) = 0))), .val (.int (own_b (¬ (p2 &&& (4 : Int32)) = 0))), .val (.int (own_pt (own_b (¬ (p2 &&& (1 : Int32)) = 0)) (p1 &&& (536870911 : Int32)) (own_b (¬ (p2 &&& (2 : Int32)) = 0)) (own_b (¬ (p2 &&& (4 : Int32)) = 0))))] [])) _
          refine XS.iconst X2.here hx rfl (hb hby at_107) ?_
          show Steps p.tables e below (T2.setTop (mkF m 108 #[.val (.int p1), .val (.int p2), .val (.int (p1 &&& (536870911 : Int32))), .val (.int (own_b (¬ (p2 &&& (1 : Int32)) = 0))), .val (.int (own_b (¬ (p2 &&& (2 : Int32)) = 0))), .val (.int (own_b (¬ (p2 &&& (4 : Int32)) = 0))), .val (.int (own_pt (own_b (¬ (p2 &&& (1 : Int32)) = 0)) (p1 &&& (536870911 : Int32)) (own_b (¬ (p2 &&& (2 : Int32)) = 0)) (own_b (¬ (p2 &&& (4 : Int32)) = 0))))] [(.int (1 : Int32))])) _
          refine XS.goto X2.here hx rfl (pc0 := 108) (pc' := 112) rfl (hb hby at_108) (by decide) (by decide) ?_
          exact k
      show Steps p.tables e below (T2.setTop (mkF m 54 #[.val (.int p1), .val (.int p2), .val (.int (p1 &&& (536870911 : Int32))), .val (.int (own_b (¬ (p2 &&& (1 : Int32)) = 0))), .val (.int (own_b (¬ (p2 &&& (2 : Int32)) = 0))), .val (.int (own_b (¬ (p2 &&& (4 : Int32)) = 0))), .val (.int (own_pt (own_b (¬ (p2 &&& (1 : Int32)) = 0)) (p1 &&& (536870911 : Int32)) (own_b (¬ (p2 &&& (2 : Int32)) = 0)) (own_b (¬ (p2 &&& (4 : Int32)) = 0))))] [])) _
      refine XS.iloadN X2.here hx rfl (hb hby at_54) rfl ?_
      show Steps p.tables e below (T2.setTop (mkF m 55 #[.val (.int p1), .val (.int p2), .val (.int (p1 &&& (536870911 : Int32))), .val (.int (own_b (¬ (p2 &&& (1 : Int32)) = 0))), .val (.int (own_b (¬ (p2 &&& (2 : Int32)) = 0))), .val (.int (own_b (¬ (p2 &&& (4 : Int32)) = 0))), .val (.int (own_pt (own_b (¬ (p2 &&& (1 : Int32)) = 0)) (p1 &&& (536870911 : Int32)) (own_b (¬ (p2 &&& (2 : Int32)) = 0)) (own_b (¬ (p2 &&& (4 : Int32)) = 0))))] [(.int (own_b (¬ (p2 &&& (1 : Int32)) = 0)))])) _
      refine XS.ifYes X2.here hx rfl (pc0 := 55) (pc' := 70) rfl (hb hby at_55) rfl ((if0 _ _).trans (feq c1).2) (by decide) (by decide) ?_
      show Steps p.tables e below (T2.setTop (mkF m 70 #[.val (.int p1), .val (.int p2), .val (.int (p1 &&& (536870911 : Int32))), .val (.int (own_b (¬ (p2 &&& (1 : Int32)) = 0))), .val (.int (own_b (¬ (p2 &&& (2 : Int32)) = 0))), .val (.int (own_b (¬ (p2 &&& (4 : Int32)) = 0))), .val (.int (own_pt (own_b (¬ (p2 &&& (1 : Int32)) = 0)) (p1 &&& (536870911 : Int32)) (own_b (¬ (p2 &&& (2 : Int32)) = 0)) (own_b (¬ (p2 &&& (4 : Int32)) = 0))))] [])) _
      refine XS.iload X2.here hx rfl (hb hby at_70) rfl ?_
      show Steps p.tables e below (T2.setTop (mkF m 72 #[.val (.int p1), .val (.int p2), .val (.int (p1 &&& (536870911 : Int32))), .val (.int (own_b (¬ (p2 &&& (1 : Int32)) = 0))), .val (.int (own_b (¬ (p2 &&& (2 : Int32)) = 0))), .val (.int (own_b (¬ (p2 &&& (4 : Int32)) = 0))), .val (.int (own_pt (own_b (¬ (p2 &&& (1 : Int32)) = 0)) (p1 &&& (536870911 : Int32)) (own_b (¬ (p2 &&& (2 : Int32)) = 0)) (own_b (¬ (p2 &&& (4 : Int32)) = 0))))] [(.int (own_pt (own_b (¬ (p2 &&& (1 : Int32)) = 0)) (p1 &&& (536870911 : Int32)) (own_b (¬ (p2 &&& (2 : Int32)) = 0)) (own_b (¬ (p2 &&& (4 : Int32)) = 0))))])) _
      refine XS.ifNo X2.here hx rfl (hb hby at_72) rfl ((if0 _ _).trans (flt A.1).1) ?_
      show Steps p.tables e below (T2.setTop (mkF m 75 #[.val (.int p1), .val (.int p2), .val (.int (p1 &&& (536870911 : Int32))), .val (.int (own_b (¬ (p2 &&& (1 : Int32)) = 0))), .val (.int (own_b (¬ (p2 &&& (2 : Int32)) = 0))), .val (.int (own_b (¬ (p2 &&& (4 : Int32)) = 0))), .val (.int (own_pt (own_b (¬ (p2 &&& (1 : Int32)) = 0)) (p1 &&& (536870911 : Int32)) (own_b (¬ (p2 &&& (2 : Int32)) = 0)) (own_b (¬ (p2 &&& (4 : Int32)) = 0))))] [])) _
      refine XS.iload X2.here hx rfl (hb hby at_75) rfl ?_
      show Steps p.tables e below (T2.setTop (mkF m 77 #[.val (.int p1), .val (.int p2), .val (.int (p1 &&& (536870911 : Int32))), .val (.int (own_b (¬ (p2 &&& (1 : Int32)) = 0))), .val (.int (own_b (¬ (p2 &&& (2 : Int32)) = 0))), .val (.int (own_b (¬ (p2 &&& (4 : Int32)) = 0))), .val (.int (own_pt (own_b (¬ (p2 &&& (1 : Int32)) = 0)) (p1 &&& (536870911 : Int32)) (own_b (¬ (p2 &&& (2 : Int32)) = 0)) (own_b (¬ (p2 &&& (4 : Int32)) = 0))))] [(.int (own_pt (own_b (¬ (p2 &&& (1 : Int32)) = 0)) (p1 &&& (536870911 : Int32)) (own_b (¬ (p2 &&& (2 : Int32)) = 0)) (own_b (¬ (p2 &&& (4 : Int32)) = 0))))])) _
      refine XS.iconst X2.here hx rfl (hb hby at_77) ?_
      show Steps p.tables e below (T2.setTop (mkF m 78 #[.val (.int p1), .val (.int p2), .val (.int (p1 &&& (536870911 : Int32))), .val (.int (own_b (¬ (p2 &&& (1 : Int32)) = 0))), .val (.int (own_b (¬ (p2 &&& (2 : Int32)) = 0))), .val (.int (own_b (¬ (p2 &&& (4 : Int32)) = 0))), .val (.int (own_pt (own_b (¬ (p2 &&& (1 : Int32)) = 0)) (p1 &&& (536870911 : Int32)) (own_b (¬ (p2 &&& (2 : Int32)) = 0)) (own_b (¬ (p2 &&& (4 : Int32)) = 0))))] [(.int (2 : Int32)), (.int (own_pt (own_b (¬ (p2 &&& (1 : Int32)) = 0)) (p1 &&& (536870911 : Int32)) (own_b (¬ (p2 &&& (2 : Int32)) = 0)) (own_b (¬ (p2 &&& (4 : Int32)) = 0))))])) _
      refine XS.ishr X2.here hx rfl (hb hby at_78) rfl ?_
      show Steps p.tables e below (T2.setTop (mkF m 79 #[.val (.int p1), .val (.int p2), .val (.int (p1 &&& (536870911 : Int32))), .val (.int (own_b (¬ (p2 &&& (1 : Int32)) = 0))), .val (.int (own_b (¬ (p2 &&& (2 : Int32)) = 0))), .val (.int (own_b (¬ (p2 &&& (4 : Int32)) = 0))), .val (.int (own_pt (own_b (¬ (p2 &&& (1 : Int32)) = 0)) (p1 &&& (536870911 : Int32)) (own_b (¬ (p2 &&& (2 : Int32)) = 0)) (own_b (¬ (p2 &&& (4 : Int32)) = 0))))] [(.int ((own_pt (own_b (¬ (p2 &&& (1 : Int32)) = 0)) (p1 &&& (536870911 : Int32)) (own_b (¬ (p2 &&& (2 : Int32)) = 0)) (own_b (¬ (p2 &&& (4 : Int32)) = 0))) >>> ((2 : Int32) &&& 31)))])) _
      refine XS.iloadN X2.here hx rfl (hb hby at_79) rfl ?_
      show Steps p.tables e below (T2.setTop (mkF m 80 #[.val (.int p1), .val (.int p2), .val (.int (p1 &&& (536870911 : Int32))), .val (.int (own_b (¬ (p2 &&& (1 : Int32)) = 0))), .val (.int (own_b (¬ (p2 &&& (2 : Int32)) = 0))), .val (.int (own_b (¬ (p2 &&& (4 : Int32)) = 0))), .val (.int (own_pt (own_b (¬ (p2 &&& (1 : Int32)) = 0)) (p1 &&& (536870911 : Int32)) (own_b (¬ (p2 &&& (2 : Int32)) = 0)) (own_b (¬ (p2 &&& (4 : Int32)) = 0))))] [(.int (p1 &&& (536870911 : Int32))), (.int ((own_pt (own_b (¬ (p2 &&& (1 : Int32)) = 0)) (p1 &&& (536870911 : Int32)) (own_b (¬ (p2 &&& (2 : Int32)) = 0)) (own_b (¬ (p2 &&& (4 : Int32)) = 0))) >>> ((2 : Int32) &&& 31)))])) _
      refine XS.icmpNo X2.here hx rfl (hb hby at_80) rfl (teq A.2.1).2 ?_
      show Steps p.tables e below (T2.setTop (mkF m 83 #[.val (.int p1), .val (.int p2), .val (.int (p1 &&& (536870911 : Int32))), .val (.int (own_b (¬ (p2 &&& (1 : Int32)) = 0))), .val (.int (own_b (¬ (p2 &&& (2 : Int32)) = 0))), .val (.int (own_b (¬ (p2 &&& (4 : Int32)) = 0))), .val (.int (own_pt (own_b (¬ (p2 &&& (1 : Int32)) = 0)) (p1 &&& (536870911 : Int32)) (own_b (¬ (p2 &&& (2 : Int32)) = 0)) (own_b (¬ (p2 &&& (4 : Int32)) = 0))))] [])) _
      refine sg83 _ ?_
      show Steps p.tables e below (T2.setTop (mkF m 95 #[.val (.int p1), .val (.int p2), .val (.int (p1 &&& (536870911 : Int32))), .val (.int (own_b (¬ (p2 &&& (1 : Int32)) = 0))), .val (.int (own_b (¬ (p2 &&& (2 : Int32)) = 0))), .val (.int (own_b (¬ (p2 &&& (4 : Int32)) = 0))), .val (.int (own_pt (own_b (¬ (p2 &&& (1 : Int32)) = 0)) (p1 &&& (536870911 : Int32)) (own_b (¬ (p2 &&& (2 : Int32)) = 0)) (own_b (¬ (p2 &&& (4 : Int32)) = 0))))] [(.int (own_b (¬ ((own_pt (own_b (¬ (p2 &&& (1 : Int32)) = 0)) (p1 &&& (536870911 : Int32)) (own_b (¬ (p2 &&& (2 : Int32)) = 0)) (own_b (¬ (p2 &&& (4 : Int32)) = 0))) &&& (2 : Int32)) = 0)))])) _
      refine XS.iload X2.here hx rfl (hb hby at_95) rfl ?_
      show Steps p.tables e below (T2.setTop (mkF m 97 #[.val (.int p1), .val (.int p2), .val (.int (p1 &&& (536870911 : Int32))), .val (.int (own_b (¬ (p2 &&& (1 : Int32)) = 0))), .val (.int (own_b (¬ (p2 &&& (2 : Int32)) = 0))), .val (.int (own_b (¬ (p2 &&& (4 : Int32)) = 0))), .val (.int (own_pt (own_b (¬ (p2 &&& (1 : Int32)) = 0)) (p1 &&& (536870911 : Int32)) (own_b (¬ (p2 &&& (2 : Int32)) = 0)) (own_b (¬ (p2 &&& (4 : Int32)) = 0))))] [(.int (own_b (¬ (p2 &&& (2 : Int32)) = 0))), (.int (own_b (¬ ((own_pt (own_b (¬ (p2 &&& (1 : Int32)) = 0)) (p1 &&& (536870911 : Int32)) (own_b (¬ (p2 &&& (2 : Int32)) = 0)) (own_b (¬ (p2 &&& (4 : Int32)) = 0))) &&& (2 : Int32)) = 0)))])) _
      refine XS.icmpNo X2.here hx rfl (hb hby at_97) rfl (teq (own_eqb A.2.2.1)).2 ?_
      show Steps p.tables e below (T2.setTop (mkF m 100 #[.val (.int p1), .val (.int p2), .val (.int (p1 &&& (536870911 : Int32))), .val (.int (own_b (¬ (p2 &&& (1 : Int32)) = 0))), .val (.int (own_b (¬ (p2 &&& (2 : Int32)) = 0))), .val (.int (own_b (¬ (p2 &&& (4 : Int32)) = 0))), .val (.int (own_pt (own_b (¬ (p2 &&& (1 : Int32)) = 0)) (p1 &&& (536870911 : Int32)) (own_b (¬ (p2 &&& (2 : Int32)) = 0)) (own_b (¬ (p2 &&& (4 : Int32)) = 0))))] [])) _
      refine sg100 _ ?_
      show Steps p.tables e below (T2.setTop (mkF m 112 #[.val (.int p1), .val (.int p2), .val (.int (p1 &&& (536870911 : Int32))), .val (.int (own_b (¬ (p2 &&& (1 : Int32)) = 0))), .val (.int (own_b (¬ (p2 &&& (2 : Int32)) = 0))), .val (.int (own_b (¬ (p2 &&& (4 : Int32)) = 0))), .val (.int (own_pt (own_b (¬ (p2 &&& (1 : Int32)) = 0)) (p1 &&& (536870911 : Int32)) (own_b (¬ (p2 &&& (2 : Int32)) = 0)) (own_b (¬ (p2 &&& (4 : Int32)) = 0))))] [(.int (own_b (¬ ((own_pt (own_b (¬ (p2 &&& (1 : Int32)) = 0)) (p1 &&& (536870911 : Int32)) (own_b (¬ (p2 &&& (2 : Int32)) = 0)) (own_b (¬ (p2 &&& (4 : Int32)) = 0))) &&& (1 : Int32)) = 0)))])) _
      refine XS.iload X2.here hx rfl (hb hby at_112) rfl ?_
      show Steps p.tables e below (T2.setTop (mkF m 114 #[.val (.int p1), .val (.int p2), .val (.int (p1 &&& (536870911 : Int32))), .val (.int (own_b (¬ (p2 &&& (1 : Int32)) = 0))), .val (.int (own_b (¬ (p2 &&& (2 : Int32)) = 0))), .val (.int (own_b (¬ (p2 &&& (4 : Int32)) = 0))), .val (.int (own_pt (own_b (¬ (p2 &&& (1 : Int32)) = 0)) (p1 &&& (536870911 : Int32)) (own_b (¬ (p2 &&& (2 : Int32)) = 0)) (own_b (¬ (p2 &&& (4 : Int32)) = 0))))] [(.int (own_b (¬ (p2 &&& (4 : Int32)) = 0))), (.int (own_b (¬ ((own_pt (own_b (¬ (p2 &&& (1 : Int32)) = 0)) (p1 &&& (536870911 : Int32)) (own_b (¬ (p2 &&& (2 : Int32)) = 0)) (own_b (¬ (p2 &&& (4 : Int32)) = 0))) &&& (1 : Int32)) = 0)))])) _
      refine XS.icmpNo X2.here hx rfl (hb hby at_114) rfl (teq (own_eqb A.2.2.2)).2 ?_
      show Steps p.tables e below (T2.setTop (mkF m 117 #[.val (.int p1), .val (.int p2), .val (.int (p1 &&& (536870911 : Int32))), .val (.int (own_b (¬ (p2 &&& (1 : Int32)) = 0))), .val (.int (own_b (¬ (p2 &&& (2 : Int32)) = 0))), .val (.int (own_b (¬ (p2 &&& (4 : Int32)) = 0))), .val (.int (own_pt (own_b (¬ (p2 &&& (1 : Int32)) = 0)) (p1 &&& (536870911 : Int32)) (own_b (¬ (p2 &&& (2 : Int32)) = 0)) (own_b (¬ (p2 &&& (4 : Int32)) = 0))))] [])) _
      refine XS.iconst X2.here hx rfl (hb hby at_117) ?_
      show Steps p.tables e below (T2.setTop (mkF m 118 #[.val (.int p1), .val (.int p2), .val (.int (p1 &&& (536870911 : Int32))), .val (.int (own_b (¬ (p2 &&& (1 : Int32)) = 0))), .val (.int (own_b (¬ (p2 &&& (2 : Int32)) = 0))), .val (.int (own_b (¬ (p2 &&& (4 : Int32)) = 0))), .val (.int (own_pt (own_b (¬ (p2 &&& (1 : Int32)) = 0)) (p1 &&& (536870911 : Int32)) (own_b (¬ (p2 &&& (2 : Int32)) = 0)) (own_b (¬ (p2 &&& (4 : Int32)) = 0))))] [(.int (1 : Int32))])) _
      refine XS.goto X2.here hx rfl (pc0 := 118) (pc' := 122) rfl (hb hby at_118) (by decide) (by decide) ?_
      show Steps p.tables e below (T2.setTop (mkF m 122 #[.val (.int p1), .val (.int p2), .val (.int (p1 &&& (536870911 : Int32))), .val (.int (own_b (¬ (p2 &&& (1 : Int32)) = 0))), .val (.int (own_b (¬ (p2 &&& (2 : Int32)) = 0))), .val (.int (own_b (¬ (p2 &&& (4 : Int32)) = 0))), .val (.int (own_pt (own_b (¬ (p2 &&& (1 : Int32)) = 0)) (p1 &&& (536870911 : Int32)) (own_b (¬ (p2 &&& (2 : Int32)) = 0)) (own_b (¬ (p2 &&& (4 : Int32)) = 0))))] [(.int (1 : Int32))])) _
      exact retN X2 hx (t := .boolean) Bd.returns (by simp) (hb hby at_122) hr
  · exact ⟨rfl, N2⟩
set_option maxRecDepth 65536 in
set_option maxHeartbeats 40000000 in
theorem comes_1 {Post : Tables → Env → Array Value → State → Outcome → State → Prop} (hpost : ∀ tb e args s v u, (limb_1_1.after args s (.returned v) u = true ∧ limb_1_2.after args s (.returned v) u = true ∧ True) → FrameEnd s (.returned v) u (Jvm.fieldLocs frame_1_writes args s ++ Jvm.arrayLocs frame_1_arrays args s ++ Jvm.staticLocs frame_1_statics s) 0 0 → Post tb e args s (.returned v) u) :
    ArmFor flags0 classFile x code maxLocals ret World_1 tables_1 room_1 Calls_1 rest_1 Pre_1 Post := by
  intro l hfl _ _ p e ha hc hk s m args below hf hA hF happ hP
  obtain ⟨hcalls, hrest, hpre⟩ := hP
  obtain ⟨-, -, -, hnamed, -, -, -, hat⟩ := (Spec.applies_iff hf).mp happ
  obtain ⟨hg, hn⟩ := and_e (Cond.before_iff.mp (show (Jvm.Cond.and given_1 narrow_1).before args s = true from hpre))
  obtain ⟨h1, g1⟩ := and_e hg
  obtain ⟨w0, w1, rfl⟩ : ∃ w0 w1 : Value, args = #[w0, w1] := by
    have hs : args.size = 2 := by simpa [Cond.value, given_1] using h1
    obtain ⟨L⟩ := args
    match L, hs with
    | [w0, w1], _ => exact ⟨w0, w1, rfl⟩
  obtain ⟨f1, g2⟩ := and_e g1
  obtain ⟨i0, e0⟩ := is_v f1
  obtain rfl : w0 = (.int i0) := Option.some.inj e0
  obtain ⟨i1, e1⟩ := is_v g2
  obtain rfl : w1 = (.int i1) := Option.some.inj e1
  have hw := fun d (hd : d ∈ tables_1) => atoms_spec (ws := Jvm.Cond.code x code maxLocals ret :: tables_1) hat d (List.mem_cons_of_mem _ hd)
  obtain ⟨n, o, h1, h2, h3, _, L, rfl, ⟨rfl, N⟩, hq⟩ := rm0 l s _ hw tables_1 i0 i1 s.heap s.heap.size (Nat.le_refl _)  p e ha hc hk s m _ below hf ((Spec.applies_iff_loose hf).mp happ).1 ⟨rfl, State.Warmed39.refl s, rfl⟩ trivial
  refine ⟨n, _, h1, h2, h3, hpost _ _ _ _ _ _ ⟨Cond.after_iff.mpr rfl, Cond.after_iff.mpr (eq_i res_at (Term.int_eval (1)) rfl), trivial⟩ ⟨hq.1, hq.2.1, (hq.2.2.sift fun y hy => Or.inr (N y hy)).mono (by decide) (by decide)⟩⟩
theorem main_1_1 : Claimed_1_1 := comes_1 fun _ _ _ _ _ _ h hF => ⟨h.1, hF⟩
theorem main_1_2 : Claimed_1_2 := comes_1 fun _ _ _ _ _ _ h hF => ⟨h.2.1, hF⟩
end Jvm.Pilot.@@N@@
namespace Jvm.Pilot.@@N@@
open Jvm Jvm.ClassFile Sem Op Lib Jvm.Free Jvm.Stand Jvm.Pilot.@@N@@.Jvm.D
/-! MADE BY PROGRAM (witnessworld.py) out of the Statement's table words and the real class files: 10 classes; the members and pool entries that the words name. The judged class is class 1, her method 1. -/
namespace start1
open Jvm.ClassFile
def u (s : String) : CpInfo := .utf8 (stringToUtf16 s)
/-- a pool by its gaps: so many unusable entries, then the entry; so many at the end -/
def gap : Nat → List CpInfo → List CpInfo
  | 0, r => r
  | n + 1, r => .unusable :: gap n r
def poolList (es : List (Nat × CpInfo)) (last : Nat) : List CpInfo := es.foldr (fun e r => gap e.1 (e.2 :: r)) (gap last [])
def pool (es : List (Nat × CpInfo)) (last : Nat) : Array CpInfo := ⟨poolList es last⟩
def fileOf (pool : Array CpInfo) (this : Nat) (attrs : Array Attribute := #[]) (ms : Array MethodInfo := #[]) (fl : Nat := 33) (sup : Nat := 0) (ifs : Array Nat := #[]) (fds : Array FieldInfo := #[]) : ClassFile where
  minorVersion := 0
  majorVersion := 65
  constantPool := pool
  accessFlags := fl
  thisClass := this
  superClass := sup
  interfaces := ifs
  fields := fds
  methods := ms
  attributes := attrs
def plain (name : String) (sup : Option ClassId) : Class where
  name := name
  kind := .ordinary
  loader := none
  accessFlags := 33
  super := sup
  interfaces := #[]
  cf := none
  fields := #[]
  methods := #[]
  instanceTypes := #[]
  staticTypes := #[]
  resolved := #[]
  callSites := []
  init := .initialized
  statics := none
  mirror := none

def pool0 : Array CpInfo := pool [(5, u "<init>"), (0, u "()V"), (1, .class_ 10), (1, u "java/lang/Object")] 113

def k0m0 : Method := { name := "<init>", desc := "()V", sig := { parameters := [], returnType := none }, accessFlags := 1, code := none }
/-- java/lang/Object -/
def k0 : Class := { plain "java/lang/Object" none with
  accessFlags := 33
  interfaces := #[]
  cf := some (fileOf pool0 8 #[] #[{ accessFlags := 1, nameIndex := 5, descriptorIndex := 6, attributes := #[] }] 33 0 #[] #[])
  fields := #[]
  methods := #[k0m0]
  instanceTypes := #[]
  staticTypes := #[]
  resolved := Array.replicate 124 none
  statics := none }

def pool1 : Array CpInfo := pool [(2, .class_ 4), (1, u "java/lang/Object"), (0, u "<init>"), (0, u "()V"), (0, .integer 536870911), (0, .methodref 9 10), (0, .class_ 11), (0, .nameAndType 12 13), (0, u "com/example/nitka/nitka/SettlePoints"), (0, u "settlePoint"), (0, u "(ZIZZ)I"), (0, .class_ 15), (0, u "com/example/nitka/nitka/SettlePointsSettlePointPinLaw"), (2, u "law"), (0, u "(II)Z")] 3

def k1m0 : Method := { name := "<init>", desc := "()V", sig := { parameters := [], returnType := none }, accessFlags := 1, code := none }
def k1c1 : Code := { maxStack := 4, maxLocals := 7, code := code, exceptionTable := #[], attributes := #[] }
def k1m1 : Method := { name := "law", desc := "(II)Z", sig := { parameters := [.int, .int], returnType := some .boolean }, accessFlags := 9, code := some k1c1 }
/-- com/example/nitka/nitka/SettlePointsSettlePointPinLaw -/
def k1 : Class := { plain "com/example/nitka/nitka/SettlePointsSettlePointPinLaw" (some 0) with
  accessFlags := 49
  interfaces := #[]
  cf := some (fileOf pool1 14 #[] #[{ accessFlags := 1, nameIndex := 5, descriptorIndex := 6, attributes := #[] }, { accessFlags := 9, nameIndex := 18, descriptorIndex := 19, attributes := #[] }] 49 2 #[] #[])
  fields := #[]
  methods := #[k1m0, k1m1]
  instanceTypes := #[]
  staticTypes := #[]
  resolved := Array.replicate 23 none
  statics := none }

def pool2 : Array CpInfo := pool [(2, .class_ 4), (1, u "java/lang/Object"), (0, u "<init>"), (0, u "()V"), (0, .class_ 8), (0, u "java/lang/Record")] 13

def k2m0 : Method := { name := "<init>", desc := "()V", sig := { parameters := [], returnType := none }, accessFlags := 4, code := none }
/-- java/lang/Record -/
def k2 : Class := { plain "java/lang/Record" (some 0) with
  accessFlags := 1057
  interfaces := #[]
  cf := some (fileOf pool2 7 #[] #[{ accessFlags := 4, nameIndex := 5, descriptorIndex := 6, attributes := #[] }] 1057 2 #[] #[])
  fields := #[]
  methods := #[k2m0]
  instanceTypes := #[]
  staticTypes := #[]
  resolved := Array.replicate 22 none
  statics := none }

def pool3 : Array CpInfo := pool [(6, .class_ 8), (1, u "java/lang/Record"), (3, .class_ 14), (1, u "com/example/nitka/nitka/SettlePoints"), (0, u "table"), (0, u "[I"), (2, u "points"), (2, u "joins"), (2, u "flags"), (2, u "misjudges"), (0, u "Z"), (2, u "lengthBits"), (0, u "I"), (108, u "settlePoint"), (0, u "(ZIZZ)I"), (58, u "MAX_CELLS"), (0, u "STRIDE"), (2, u "BASE"), (1, u "PARENT"), (1, u "JUMP"), (1, u "POINT_INTS"), (0, u "POINT_JUMP"), (0, u "WORD_VARIANTS"), (1, u "OWN_KEY_WINS"), (0, u "APART_AFTER"), (0, u "STOPPED")] 35

def k3c0 : Code := { maxStack := 2, maxLocals := 4, code := prog_52_method_9_code, exceptionTable := #[], attributes := #[] }
def k3m0 : Method := { name := "settlePoint", desc := "(ZIZZ)I", sig := { parameters := [.boolean, .int, .boolean, .boolean], returnType := some .int }, accessFlags := 8, code := some k3c0 }
/-- com/example/nitka/nitka/SettlePoints -/
def k3 : Class := { plain "com/example/nitka/nitka/SettlePoints" (some 2) with
  accessFlags := 48
  interfaces := #[]
  cf := some (fileOf pool3 12 #[] #[{ accessFlags := 8, nameIndex := 142, descriptorIndex := 143, attributes := #[] }] 48 6 #[] #[{ accessFlags := 18, nameIndex := 15, descriptorIndex := 16, attributes := #[] }, { accessFlags := 18, nameIndex := 19, descriptorIndex := 16, attributes := #[] }, { accessFlags := 18, nameIndex := 22, descriptorIndex := 16, attributes := #[] }, { accessFlags := 18, nameIndex := 25, descriptorIndex := 16, attributes := #[] }, { accessFlags := 18, nameIndex := 28, descriptorIndex := 29, attributes := #[] }, { accessFlags := 18, nameIndex := 32, descriptorIndex := 33, attributes := #[] }, { accessFlags := 24, nameIndex := 203, descriptorIndex := 33, attributes := #[] }, { accessFlags := 24, nameIndex := 206, descriptorIndex := 33, attributes := #[] }, { accessFlags := 24, nameIndex := 208, descriptorIndex := 33, attributes := #[] }, { accessFlags := 24, nameIndex := 210, descriptorIndex := 33, attributes := #[] }, { accessFlags := 24, nameIndex := 202, descriptorIndex := 33, attributes := #[] }, { accessFlags := 24, nameIndex := 212, descriptorIndex := 33, attributes := #[] }, { accessFlags := 24, nameIndex := 213, descriptorIndex := 33, attributes := #[] }, { accessFlags := 24, nameIndex := 214, descriptorIndex := 33, attributes := #[] }, { accessFlags := 24, nameIndex := 216, descriptorIndex := 33, attributes := #[] }, { accessFlags := 24, nameIndex := 217, descriptorIndex := 33, attributes := #[] }, { accessFlags := 24, nameIndex := 218, descriptorIndex := 33, attributes := #[] }])
  fields := #[{ name := "table", type := (.array .int), accessFlags := 18, slot := 0, constantValue := 0 }, { name := "points", type := (.array .int), accessFlags := 18, slot := 1, constantValue := 0 }, { name := "joins", type := (.array .int), accessFlags := 18, slot := 2, constantValue := 0 }, { name := "flags", type := (.array .int), accessFlags := 18, slot := 3, constantValue := 0 }, { name := "misjudges", type := .boolean, accessFlags := 18, slot := 4, constantValue := 0 }, { name := "lengthBits", type := .int, accessFlags := 18, slot := 5, constantValue := 0 }, { name := "STRIDE", type := .int, accessFlags := 24, slot := 0, constantValue := 0 }, { name := "BASE", type := .int, accessFlags := 24, slot := 1, constantValue := 0 }, { name := "PARENT", type := .int, accessFlags := 24, slot := 2, constantValue := 0 }, { name := "JUMP", type := .int, accessFlags := 24, slot := 3, constantValue := 0 }, { name := "MAX_CELLS", type := .int, accessFlags := 24, slot := 4, constantValue := 0 }, { name := "POINT_INTS", type := .int, accessFlags := 24, slot := 5, constantValue := 0 }, { name := "POINT_JUMP", type := .int, accessFlags := 24, slot := 6, constantValue := 0 }, { name := "WORD_VARIANTS", type := .int, accessFlags := 24, slot := 7, constantValue := 0 }, { name := "OWN_KEY_WINS", type := .int, accessFlags := 24, slot := 8, constantValue := 0 }, { name := "APART_AFTER", type := .int, accessFlags := 24, slot := 9, constantValue := 0 }, { name := "STOPPED", type := .int, accessFlags := 24, slot := 10, constantValue := 0 }]
  methods := #[k3m0]
  instanceTypes := #[(.array .int), (.array .int), (.array .int), (.array .int), .boolean, .int]
  staticTypes := #[.int, .int, .int, .int, .int, .int, .int, .int, .int, .int, .int]
  resolved := Array.replicate 254 none
  statics := none }

def pool4 : Array CpInfo := pool [(1, u "java/lang/Cloneable"), (0, .class_ 1), (0, u "java/lang/Object"), (0, .class_ 3)] 3

/-- java/lang/Cloneable -/
def k4 : Class := { plain "java/lang/Cloneable" (some 0) with
  accessFlags := 1537
  interfaces := #[]
  cf := some (fileOf pool4 2 #[] #[] 1537 4 #[] #[])
  fields := #[]
  methods := #[]
  instanceTypes := #[]
  staticTypes := #[]
  resolved := Array.replicate 8 none
  statics := none }

def pool5 : Array CpInfo := pool [(1, u "java/io/Serializable"), (0, .class_ 1), (0, u "java/lang/Object"), (0, .class_ 3)] 3

/-- java/io/Serializable -/
def k5 : Class := { plain "java/io/Serializable" (some 0) with
  accessFlags := 1537
  interfaces := #[]
  cf := some (fileOf pool5 2 #[] #[] 1537 4 #[] #[])
  fields := #[]
  methods := #[]
  instanceTypes := #[]
  staticTypes := #[]
  resolved := Array.replicate 8 none
  statics := none }

/-- the primitive byte -/
def k6 : Class := { plain "byte" none with kind := .primitive 'B', accessFlags := 0x411 }
/-- [B -/
def k7 : Class := { plain "[B" (some 0) with kind := .array 6 .byte, interfaces := #[4, 5], accessFlags := 1041 }

/-- the primitive int -/
def k8 : Class := { plain "int" none with kind := .primitive 'I', accessFlags := 0x411 }
/-- [I -/
def k9 : Class := { plain "[I" (some 0) with kind := .array 8 .int, interfaces := #[4, 5], accessFlags := 1041 }

def heap : Heap := #[]
def classes : Array Class := #[k0, k1, k2, k3, k4, k5, k6, k7, k8, k9]
def interned : List (Array UInt16 × Addr) := []
def slotsUsed : Nat := 0
def theMethod : MethodId := ⟨1, 1⟩
def args0 : Array Value := #[.int 5, .int 3]
def aboutOver (below : List Frame) : State where
  vm := { classes := classes, interned := interned.toArray }
  heap := heap
  slotsUsed := slotsUsed
  threads := #[{ frames := .invoking theMethod args0 :: below }]
def below0 : List Frame := [.native { method := ⟨0, 0⟩, args := #[] }]
def about1 : State := aboutOver below0
def p0 : Program := .bare "" "" ""
def e0 : Env := launch0.env 0 0 0
theorem w_frames : about1.frames = Frame.invoking theMethod args0 :: below0 := rfl
set_option maxRecDepth 65536 in
theorem w_args : argsFit about1.vm theMethod args0 = true := by decide +kernel
set_option maxRecDepth 65536 in
theorem w_heap : heapFits about1 = true := by decide +kernel
set_option maxRecDepth 65536 in
theorem w_runnable : about1.curStatus? = some .runnable := by decide +kernel
set_option maxRecDepth 65536 in
theorem w_alone : about1.alone = true := by decide +kernel
set_option maxRecDepth 65536 in
theorem w_named : about1.methodNamed? x = some theMethod := by decide +kernel
set_option maxRecDepth 65536 in
theorem w_hears : about1.hears theMethod below0 = true := by decide +kernel
set_option maxRecDepth 65536 in
theorem w_ripe : about1.ripe theMethod args0 below0 = true := by decide +kernel
theorem w_running : about1.status = .running := rfl
set_option maxRecDepth 65536 in
theorem w_room : about1.hasRoom e0.platform room_1 = true :=
  launch0.hasRoom_least _ room_1 (by decide +kernel) (by decide +kernel) (by decide +kernel) (by decide +kernel) (by decide +kernel) (by decide +kernel)
theorem allAtoms_all (ts : List Jvm.Cond) (a : Array Jvm.Value) (st : Jvm.State) : (allAtoms ts).before a st = ts.all (fun c => c.before a st) := by
  induction ts with
  | nil => rfl
  | cons c t ih =>
    show (Jvm.Cond.and c (allAtoms t)).before a st = _
    rw [Jvm.Cond.before_and, ih, List.all_cons]
def words1 : List Jvm.Cond := Jvm.Cond.code x code maxLocals ret :: tables_1
/-- a 'code' word, met by the world's own term for the bytes: nothing is compared byte by byte -/
theorem code_word {y : MethodName} {bytes : ByteArray} {mx : Nat} {rt : Option FieldType} {a : Array Value} {s : State} {m : MethodId} {meth : Method} {c : Code} (h1 : s.methodNamed? y = some m) (h2 : s.vm.method? m = some meth) (h3 : meth.code = some c) (h4 : c.code = bytes)
    (h5 : (c.maxLocals == mx && c.exceptionTable.isEmpty && decide (c.maxStack ≤ mostOperands) && decide (meth.sig.returnType = rt) && !meth.locks && decide (parseMethodDescriptor y.desc = some meth.sig)) = true) : (Jvm.Cond.code y bytes mx rt).before a s = true := by
  simp only [Bool.and_eq_true, beq_iff_eq, Bool.not_eq_true', decide_eq_true_eq] at h5
  obtain ⟨⟨⟨⟨⟨g1, g2⟩, g3⟩, g4⟩, g5⟩, g6⟩ := h5
  simp [Cond.before, Cond.holds, Cond.value, h1, h2, h3, h4, g1, g2, g3, g4, g5, g6]
def isCode : Jvm.Cond → Bool
  | .code _ _ _ _ => true
  | _ => false
theorem all_split {L : List Jvm.Cond} {P : Jvm.Cond → Bool} (h1 : L.all (fun c => isCode c || P c) = true) (h2 : ∀ c ∈ L.filter isCode, P c = true) : L.all P = true := by
  refine List.all_eq_true.mpr fun c hc => ?_
  have h := List.all_eq_true.mp h1 c hc
  rcases Bool.eq_false_or_eq_true (isCode c) with hi | hi
  · exact h2 c (List.mem_filter.mpr ⟨hc, hi⟩)
  · simpa [hi] using h
set_option maxRecDepth 65536 in
theorem w_c0 : (Jvm.Cond.code x code maxLocals ret).before args0 about1 = true := code_word (m := ⟨1, 1⟩) (meth := k1m1) (c := k1c1) (by decide +kernel) rfl rfl rfl (by decide +kernel)
set_option maxRecDepth 65536 in
theorem w_c1 : (Jvm.Cond.code ({ cls := "com/example/nitka/nitka/SettlePoints", name := "settlePoint", desc := "(ZIZZ)I" } : Jvm.MethodName) prog_52_method_9_code (4 : Nat) (Option.some Jvm.ClassFile.FieldType.int)).before args0 about1 = true := code_word (m := ⟨3, 0⟩) (meth := k3m0) (c := k3c0) (by decide +kernel) rfl rfl rfl (by decide +kernel)
def codes1 : List Jvm.Cond := [Jvm.Cond.code x code maxLocals ret, Jvm.Cond.code ({ cls := "com/example/nitka/nitka/SettlePoints", name := "settlePoint", desc := "(ZIZZ)I" } : Jvm.MethodName) prog_52_method_9_code (4 : Nat) (Option.some Jvm.ClassFile.FieldType.int)]
set_option maxRecDepth 65536 in
theorem codes_eq : words1.filter isCode = codes1 := rfl
theorem w_codes : ∀ c ∈ words1.filter isCode, c.before args0 about1 = true := by
  rw [codes_eq]
  intro c hc
  simp only [codes1, List.mem_cons, List.not_mem_nil, or_false] at hc
  rcases hc with rfl | rfl
  · exact w_c0
  · exact w_c1
set_option maxRecDepth 65536 in
theorem w_t1 : words1.all (fun c => isCode c || c.before args0 about1) = true := by decide +kernel
theorem w_tables : (allAtoms (Jvm.Cond.code x code maxLocals ret :: tables_1)).before args0 about1 = true := by
  rw [allAtoms_all]
  show words1.all (fun c => c.before args0 about1) = true
  refine all_split ?_ w_codes
  rw [w_t1]
set_option maxRecDepth 65536 in
theorem w_case : (Jvm.Cond.and given_1 narrow_1).before args0 about1 = true := by decide +kernel
theorem w_applies : (headSpec (Jvm.Cond.code x code maxLocals ret :: tables_1) room_1).applies x e0.platform about1 = true :=
  (Spec.applies_iff w_frames).mpr ⟨w_running, w_runnable, w_alone, w_named, w_hears, w_ripe, w_room, w_tables⟩
theorem atStart : AtStart classFile x code maxLocals ret World_1 tables_1 room_1 Calls_1 rest_1 Pre_1 launch0 p0 e0 about1 theMethod args0 below0 :=
  ⟨lists_1, trivial, launch0.admits_env _ _ _, launch0.least_env, fairChoices_fair.cas, fairChoices_fair.clock, w_frames, w_args, w_heap, w_applies, trivial, trivial, w_case⟩
end start1
theorem witness_1 : WitnessClaimed_1 := ⟨start1.p0, start1.e0, start1.about1, start1.theMethod, start1.args0, start1.below0, start1.atStart⟩
end Jvm.Pilot.@@N@@
