import JvmDerived
import JvmDerived.Pilot.@@N@@Statement
import JvmDerived.Pilot.@@N@@Code
set_option linter.unusedVariables false
set_option linter.unusedSimpArgs false
namespace Jvm.RoadKit
open Sem ClassFile Op Lib Jvm.Stand Jvm.Free Jvm.LawKit
section New
variable {p : Program} {l : Launch} {e : Env} {R : Room} {s : State} {m : MethodId} {args : Array Value} {below : List Frame} {meth : Method} {c : Code} {T : State} {locs : List Loc} {cells slots : Nat}
theorem retI (X : Stand p l e R s m args below meth c T locs cells slots) (hx : p.tables.exec = Jvm.exec) {pc : Nat} {Ls : Array Slot} {z : Int32} {rest : List Value} (hret : meth.sig.returnType = some .int) (hd : decode c.code pc = .ok (.ireturn, 1)) {fs : List Frame}
    (hl : ∀ (f : JFrame) (acts : List Action), f.method = m → f.locked = none → f.entered = [] → (doReturn e (T.setTop f) acts (some (.int z))).1 = T.setFrames fs) : Steps p.tables e below (T.setTop (mkF m pc Ls (.int z :: rest))) (T.setFrames fs) := by
  have hm' : T.vm.method? m = some meth := X.method'
  have hn : narrow .int (.int z) = .int z := rfl
  show Steps p.tables e below (T.setTop { method := m, pc := pc, locals := Ls, stack := _ :: rest, locked := none }) _
  jvm_step X.here [X.here.top, hx, hd, hm', hret, hn]
  first | (intro acts; rw [hl _ acts rfl rfl rfl]) | rw [hl _ _ rfl rfl rfl]
  exact Steps.refl _
end New
end Jvm.RoadKit
namespace Jvm.Pilot.@@N@@
open Jvm Jvm.ClassFile Sem Op Lib Jvm.Free Jvm.Stand Jvm.LawKit Jvm.RoadKit Bundle Jvm.Pilot.@@N@@.Jvm.D
def own_b (P : Prop) [Decidable P] : Int32 := if P then 1 else 0
theorem own_bt {P : Prop} [Decidable P] (h : P) : own_b P = 1 := if_pos h
theorem own_bf {P : Prop} [Decidable P] (h : ¬ P) : own_b P = 0 := if_neg h
theorem own_bc {P Q : Prop} [Decidable P] [Decidable Q] (h : P ↔ Q) : own_b P = own_b Q := by
  by_cases q : P
  · rw [own_bt q, own_bt (h.mp q)]
  · rw [own_bf q, own_bf fun z => q (h.mpr z)]
def own_set (f : Nat → Int64) (j : Nat) (v : Int64) : Nat → Int64 := fun i => if i = j then v else f i
def own_bit (b : Nat) : Int64 := (1 : Int64) <<< (Int32.ofNat b &&& 0x3f).toInt64
def own_ix (a b : Nat) : Nat := a * 3 + b / 64
def own_or (f : Nat → Int64) (a b : Nat) : Nat → Int64 := own_set f (own_ix a b) (f (own_ix a b) ||| own_bit b)
def own_clr (f : Nat → Int64) (a b : Nat) : Nat → Int64 := own_set f (own_ix a b) (f (own_ix a b) &&& (own_bit b ^^^ (-1 : Int64)))
def own_has (f : Nat → Int64) (a b : Nat) : Prop := ¬ (f (own_ix a b) &&& own_bit b) = (0 : Int64)
theorem own_ixeq (a b : Nat) (ha : a < 130) (hb : b < 130) : (Int32.ofNat a * (3 : Int32)) + (Int32.ofNat b / (64 : Int32)) = Int32.ofNat (own_ix a b) := by
  apply Int32.toInt_inj.mp
  unfold own_ix
  have e3 : (3 : Int32).toInt = 3 := rfl
  have e64 : (64 : Int32).toInt = 64 := rfl
  have hd : (Int32.ofNat b / (64 : Int32)).toInt = ((b / 64 : Nat) : Int) := by
    rw [Int32.toInt_div, Int32.toInt_ofNat_of_lt (by omega), e64, Int.tdiv_eq_ediv_of_nonneg (by omega)]
    rw [show ((b : Int) / 64) = ((b / 64 : Nat) : Int) from by omega]
    apply Int.bmod_eq_of_le <;> omega
  rw [Int32.toInt_add, Int32.toInt_mul, hd, Int32.toInt_ofNat_of_lt (by omega), Int32.toInt_ofNat_of_lt (by omega), e3]
  rw [show ((a : Int) * 3).bmod (2 ^ 32) = (a : Int) * 3 from by apply Int.bmod_eq_of_le <;> omega]
  rw [Int.bmod_eq_of_le (by omega) (by omega)]
  omega
theorem own_ixlt (a b : Nat) (ha : a < 130) (hb : b < 130) : own_ix a b < 390 := by unfold own_ix; omega
theorem own_inj {a b c d : Nat} (hb : b < 130) (hd : d < 130) (h : own_ix a b = own_ix c d) : a = c ∧ b / 64 = d / 64 := by unfold own_ix at h; omega
theorem own_clamp {j : Nat} (h : j < 390) : (Int32.ofNat j).toNatClampNeg = j := by
  simp only [Int32.toNatClampNeg, Int32.toInt_ofNat_of_lt (show j < 2 ^ 31 by omega)]; rfl
theorem own_nn {j : Nat} (h : j < 390) : ¬ Int32.ofNat j < 0 := by
  rw [Int32.lt_iff_toInt_lt, Int32.toInt_ofNat_of_lt (by omega)]
  show ¬ ((j : Int) < 0)
  omega
theorem own_bitb (b : Nat) (hb : b < 130) : (own_bit b).toBitVec = BitVec.twoPow 64 (b % 64) := by
  have key : ∀ n : Fin 130, (own_bit n.val).toBitVec = BitVec.twoPow 64 (n.val % 64) := by decide +kernel
  exact key ⟨b, hb⟩
theorem own_test (v : Int64) (b : Nat) (hb : b < 130) : (v &&& own_bit b) = (0 : Int64) ↔ v.toBitVec.getLsbD (b % 64) = false := by
  rw [← Int64.toBitVec_inj, Int64.toBitVec_and, own_bitb b hb]
  show (v.toBitVec &&& BitVec.twoPow 64 (b % 64)) = 0#64 ↔ _
  rw [BitVec.and_twoPow]
  constructor
  · intro h
    cases q : v.toBitVec.getLsbD (b % 64) with
    | false => rfl
    | true =>
      rw [q, if_pos rfl] at h
      have z := congrArg (fun w => BitVec.getLsbD w (b % 64)) h
      simp only [BitVec.getLsbD_twoPow, BitVec.getLsbD_zero] at z
      have : b % 64 < 64 := Nat.mod_lt _ (by decide)
      simp [this] at z
  · intro h
    rw [h]; rfl
theorem own_has_iff (f : Nat → Int64) (a b : Nat) (hb : b < 130) : own_has f a b ↔ (f (own_ix a b)).toBitVec.getLsbD (b % 64) = true := by
  unfold own_has
  rw [own_test _ b hb]; simp
theorem own_has_or (f : Nat → Int64) {a b c d : Nat} (hb : b < 130) (hd : d < 130) : own_has (own_or f a b) c d ↔ own_has f c d ∨ (c = a ∧ d = b) := by
  rw [own_has_iff _ _ _ hd, own_has_iff _ _ _ hd]
  unfold own_or own_set
  by_cases h : own_ix c d = own_ix a b
  · obtain ⟨rfl, h2⟩ := own_inj hd hb h
    rw [if_pos h, h, Int64.toBitVec_or, own_bitb b hb, BitVec.getLsbD_or, BitVec.getLsbD_twoPow, Bool.or_eq_true, Bool.and_eq_true, decide_eq_true_eq, decide_eq_true_eq]
    have : b % 64 < 64 := Nat.mod_lt _ (by decide)
    constructor
    · rintro (q | ⟨_, q⟩)
      · exact Or.inl q
      · exact Or.inr ⟨rfl, by omega⟩
    · rintro (q | ⟨_, rfl⟩)
      · exact Or.inl q
      · exact Or.inr ⟨this, rfl⟩
  · rw [if_neg h]
    exact ⟨Or.inl, fun q => q.elim id (fun ⟨h1, h2⟩ => absurd (by rw [h1, h2]) h)⟩
theorem own_has_clr (f : Nat → Int64) {a b c d : Nat} (hb : b < 130) (hd : d < 130) : own_has (own_clr f a b) c d ↔ own_has f c d ∧ ¬ (c = a ∧ d = b) := by
  rw [own_has_iff _ _ _ hd, own_has_iff _ _ _ hd]
  unfold own_clr own_set
  by_cases h : own_ix c d = own_ix a b
  · obtain ⟨rfl, h2⟩ := own_inj hd hb h
    have em : (-1 : Int64).toBitVec = BitVec.allOnes 64 := by decide
    have hm : d % 64 < 64 := Nat.mod_lt _ (by decide)
    rw [if_pos h, h, Int64.toBitVec_and, Int64.toBitVec_xor, em, own_bitb b hb, BitVec.getLsbD_and, BitVec.getLsbD_xor, BitVec.getLsbD_twoPow, BitVec.getLsbD_allOnes]
    have : b % 64 < 64 := Nat.mod_lt _ (by decide)
    by_cases q : d = b
    · subst q; simp [this]
    · have q' : ¬ (b % 64 = d % 64) := by omega
      simp [q, q', hm]
  · rw [if_neg h]
    exact ⟨fun q => ⟨q, fun ⟨h1, h2⟩ => h (by rw [h1, h2])⟩, And.left⟩
def own_add (f : Nat → Int64) (a b : Nat) : Nat → Int64 := own_or (own_or f a b) b a
def own_rem (f : Nat → Int64) (a b : Nat) : Nat → Int64 := own_clr (own_clr f a b) b a
theorem own_has_add (f : Nat → Int64) {a b c d : Nat} (ha : a < 130) (hb : b < 130) (hd : d < 130) : own_has (own_add f a b) c d ↔ own_has f c d ∨ (c = a ∧ d = b) ∨ (c = b ∧ d = a) := by
  unfold own_add; rw [own_has_or _ ha hd, own_has_or _ hb hd, or_assoc]
theorem own_has_rem (f : Nat → Int64) {a b c d : Nat} (ha : a < 130) (hb : b < 130) (hd : d < 130) : own_has (own_rem f a b) c d ↔ own_has f c d ∧ ¬ (c = a ∧ d = b) ∧ ¬ (c = b ∧ d = a) := by
  unfold own_rem; rw [own_has_clr _ ha hd, own_has_clr _ hb hd, and_assoc]
theorem own_has_0 (a b : Nat) : ¬ own_has (fun _ => 0) a b := by
  unfold own_has; simp
theorem own_130 (x : Int32) : ∃ n, n < 130 ∧ (x &&& (2147483647 : Int32)) % (130 : Int32) = Int32.ofNat n := by
  have h0 : 0 ≤ (x &&& (2147483647 : Int32)).toInt := by
    have e : (x &&& (2147483647 : Int32)).toBitVec.toNat ≤ 2147483647 := by
      rw [Int32.toBitVec_and, BitVec.toNat_and]; exact Nat.and_le_right
    show 0 ≤ (x &&& (2147483647 : Int32)).toBitVec.toInt
    rw [BitVec.toInt_eq_toNat_of_lt (by omega)]
    omega
  have e : ((x &&& (2147483647 : Int32)) % (130 : Int32)).toInt = (x &&& (2147483647 : Int32)).toInt % 130 := by
    rw [Int32.toInt_mod, show (130 : Int32).toInt = 130 from rfl, Int.tmod_eq_emod_of_nonneg h0]
  refine ⟨((x &&& (2147483647 : Int32)).toInt % 130).toNat, by omega, ?_⟩
  apply Int32.toInt_inj.mp
  rw [e, Int32.toInt_ofNat_of_lt (by omega)]
  omega
theorem own_ofNat {a b : Nat} (ha : a < 130) (hb : b < 130) : Int32.ofNat a = Int32.ofNat b ↔ a = b := by
  constructor
  · intro h
    have := congrArg Int32.toInt h
    rw [Int32.toInt_ofNat_of_lt (by omega), Int32.toInt_ofNat_of_lt (by omega)] at this
    omega
  · rintro rfl; rfl
def own_arr (Z : State) (h : Heap) (r : Addr) (f : Nat → Int64) : Prop := ∃ c : Cell, Arr Z h r c .long ∧ c.slots.size = 390 ∧ ∀ j, j < 390 → c.slots[j]? = some (.long (f j))
theorem own_arr_set {Z : State} {h h' : Heap} {r : Addr} {f : Nat → Int64} {j : Nat} {x : Int64} (A : own_arr Z h r f) (hj : j < 390) (W : Wr h h' r (Int32.ofNat j).toNatClampNeg (.long x)) : own_arr Z h' r (own_set f j x) := by
  obtain ⟨c, A, S, H⟩ := A
  rw [own_clamp hj] at W
  refine ⟨_, A.same W, by rw [sz_set]; exact S, fun i hi => ?_⟩
  unfold own_set
  by_cases q : i = j
  · subst q; rw [if_pos rfl]; simp [Cell.setSlot, S, hi]
  · rw [if_neg q, ← H i hi]; simp only [Cell.setSlot]; rw [Array.getElem?_setIfInBounds_ne (fun e => q e.symm)]
theorem own_arr_other {Z : State} {h h' : Heap} {r a : Addr} {f : Nat → Int64} {sl : Nat} {v : Value} (A : own_arr Z h r f) (W : Wr h h' a sl v) (q : r ≠ a) : own_arr Z h' r f := by
  obtain ⟨c, A, r⟩ := A; exact ⟨c, A.other W q, r⟩
theorem own_arr_new {Z : State} {h : Heap} {r : Addr} {k : ClassId} (A : Arr Z h r (newA k .long 390) .long) : own_arr Z h r (fun _ => 0) :=
  ⟨_, A, by rw [sz_new]; decide, fun j hj => by
    have q : (390 : Int32).toNatClampNeg = 390 := by decide
    simp only [newA, q]
    rw [Array.getElem?_replicate, if_pos hj]; rfl⟩
theorem own_in {c : Cell} {j : Nat} (S : c.slots.size = 390) (hj : j < 390) : ¬ (Int32.ofNat j < 0 ∨ c.slots.size ≤ (Int32.ofNat j).toNatClampNeg) := by
  rw [own_clamp hj, S]
  exact fun q => q.elim (own_nn hj) (fun z => by omega)
theorem own_at {c : Cell} {f : Nat → Int64} {j : Nat} (H : ∀ j, j < 390 → c.slots[j]? = some (.long (f j))) (hj : j < 390) : c.slots[(Int32.ofNat j).toNatClampNeg]? = some (.long (f j)) := by
  rw [own_clamp hj]; exact H j hj
theorem own_nin {a r : Addr} (h : a ≠ r) : a ∉ [r] := fun q => h (List.mem_singleton.mp q)
theorem own_slots (Z : State) (a0 : Array Value) (hw : ∀ d ∈ tables_1, d.before a0 Z = true) : RoadKit.slotOf Z "com/example/tourbound/tourbound/core/EdgeSet" "bits" "[J" ≠ RoadKit.slotOf Z "com/example/tourbound/tourbound/core/EdgeSet" "words" "I" := slot_ne (C := "com/example/tourbound/tourbound/core/EdgeSet") (Or.inr (hw _ (List.mem_of_getElem? (i := 14) rfl))) (Or.inr (hw _ (List.mem_of_getElem? (i := 11) rfl))) (by decide) (t := .array .long) (t' := .int) (by decide) (by decide)
theorem pd_oIcV : parseMethodDescriptor "(I)V" = some ⟨[.int], none⟩ := by decide +kernel
theorem pd_oIIcV : parseMethodDescriptor "(II)V" = some ⟨[.int, .int], none⟩ := by decide +kernel
theorem pd_oIIcZ : parseMethodDescriptor "(II)Z" = some ⟨[.int, .int], some .boolean⟩ := by decide +kernel
theorem d1_0 : decode prog_8_method_1_code 0 = .ok (.aload_n 0, 1) := by decide +kernel
theorem d1_1 : decode prog_8_method_1_code 1 = .ok (.invokespecial 1, 3) := by decide +kernel
theorem d1_4 : decode prog_8_method_1_code 4 = .ok (.aload_n 0, 1) := by decide +kernel
theorem d1_5 : decode prog_8_method_1_code 5 = .ok (.iload_n 1, 1) := by decide +kernel
theorem d1_6 : decode prog_8_method_1_code 6 = .ok (.bipush 64, 2) := by decide +kernel
theorem d1_8 : decode prog_8_method_1_code 8 = .ok (.iadd, 1) := by decide +kernel
theorem d1_9 : decode prog_8_method_1_code 9 = .ok (.iconst 1, 1) := by decide +kernel
theorem d1_10 : decode prog_8_method_1_code 10 = .ok (.isub, 1) := by decide +kernel
theorem d1_11 : decode prog_8_method_1_code 11 = .ok (.bipush 64, 2) := by decide +kernel
theorem d1_13 : decode prog_8_method_1_code 13 = .ok (.idiv, 1) := by decide +kernel
theorem d1_14 : decode prog_8_method_1_code 14 = .ok (.putfield 9, 3) := by decide +kernel
theorem d1_17 : decode prog_8_method_1_code 17 = .ok (.aload_n 0, 1) := by decide +kernel
theorem d1_18 : decode prog_8_method_1_code 18 = .ok (.iload_n 1, 1) := by decide +kernel
theorem d1_19 : decode prog_8_method_1_code 19 = .ok (.aload_n 0, 1) := by decide +kernel
theorem d1_20 : decode prog_8_method_1_code 20 = .ok (.getfield 9, 3) := by decide +kernel
theorem d1_23 : decode prog_8_method_1_code 23 = .ok (.imul, 1) := by decide +kernel
theorem d1_24 : decode prog_8_method_1_code 24 = .ok (.newarray .long, 2) := by decide +kernel
theorem d1_26 : decode prog_8_method_1_code 26 = .ok (.putfield 15, 3) := by decide +kernel
theorem d1_29 : decode prog_8_method_1_code 29 = .ok (.return_, 1) := by decide +kernel
theorem pn_1 : plainName "com/example/tourbound/tourbound/core/EdgeSet" = true := by first | (simp [plainName, overriddenIn]; done) | decide +kernel
theorem ef_1 (m : MethodId) (a1 : Addr) (p1 : Int32) : entryFrame m #[(.ref a1), (.int p1)] 2 = (mkF m 0 #[.val (.ref a1), .val (.int p1)] []) := by first | (simp [entryFrame, mkF, argsToLocals, Value.category]; done) | rfl
def Q1 (Z : State) (a1 : Addr) (p1 : Int32)  (h0 : Heap) (n0 : Nat) (v : Option Value) (h : Heap) (L : List Loc) : Prop := v = none ∧ Fr n0 L ∧ Keep h0 h [a1] ∧ Exa Z h a1 "com/example/tourbound/tourbound/core/EdgeSet" ∧ Fld Z h a1 "com/example/tourbound/tourbound/core/EdgeSet" "words" "I" (.int 3) ∧ ∃ r, Fld Z h a1 "com/example/tourbound/tourbound/core/EdgeSet" "bits" "[J" (.ref r) ∧ own_arr Z h r (fun _ => 0) ∧ n0 ≤ r ∧ a1 ≠ r
set_option maxRecDepth 65536 in
set_option maxHeartbeats 40000000 in
theorem rm1 (l : Launch) (Z : State) (a0 : Array Value) (hw : ∀ d ∈ tables_1, d.before a0 Z = true) (ws : List Jvm.Cond) (a1 : Addr) (p1 : Int32)  (h0 : Heap) (n0 : Nat) (Z0 : n0 ≤ h0.size) (hp : p1 = 130) (F1 : Fld Z h0 a1 "com/example/tourbound/tourbound/core/EdgeSet" "words" "I" (.int (0 : Int32))) (G1 : Fld Z h0 a1 "com/example/tourbound/tourbound/core/EdgeSet" "bits" "[J" .null) (E1 : Exa Z h0 a1 "com/example/tourbound/tourbound/core/EdgeSet") (g1 : n0 ≤ a1) :
    MetFree l (⟨"com/example/tourbound/tourbound/core/EdgeSet", "<init>", "(I)V"⟩ : MethodName) (head1 (Jvm.Cond.code (⟨"com/example/tourbound/tourbound/core/EdgeSet", "<init>", "(I)V"⟩ : MethodName) prog_8_method_1_code 2 none :: ws) ({ frames := 1, cells := 1, slots := 390, locals := 12 } : Room)) (fun a U => a = #[(.ref a1), (.int p1)] ∧ Z.Warmed39 U.vm ∧ U.heap = h0) (fun _ _ _ _ _ => True) (fun _ U o U' => ∃ v L, o = .returned v ∧ Q1 Z a1 p1  h0 n0 v U'.heap L ∧ FrameEnd U o U' L ({ frames := 1, cells := 1, slots := 390, locals := 12 } : Room).cells ({ frames := 1, cells := 1, slots := 390, locals := 12 } : Room).slots) := by
  refine MetFree.of_bodySF (plainFor_of_name pn_1) hisR ?_
  intro p e s m args below meth c s₁ Bd hml0 hP hK
  obtain ⟨rfl, hZ, hh⟩ := hP
  have hx := Bd.exec
  have hby := Bd.bytes
  have hml : c.maxLocals = 2 := hml0
  have hown : s.vm.findClass "com/example/tourbound/tourbound/core/EdgeSet" = some m.cls := findClass_of_methodNamed Bd.named
  have hnm := (name_of_methodNamed Bd.named Bd.method).1
  have X0 : Stand p l e ({ frames := 1, cells := 1, slots := 390, locals := 12 } : Room) s m #[(.ref a1), (.int p1)] below meth c s₁ [] 0 0 := Stand.of_body Bd
  have e0 : s₁.heap = h0 := by rw [← hh, Bd.state]; rfl
  have N0 := Fr.nil n0
  have pre0 : ∀ t, Steps p.tables e below (s₁.setTop (mkF m 0 #[.val (.ref a1), .val (.int p1)] [])) t → Steps p.tables e below (s₁.setTop (entryFrame m #[(.ref a1), (.int p1)] 2)) t := fun t k => castTop (ef_1 m a1 p1) k
  subst hp
  obtain ⟨T3, X3, e3, st3⟩ := initO X0 hx hZ hown (hw _ (List.mem_of_getElem? (i := 7) rfl)) (hw _ (List.mem_of_getElem? (i := 8) rfl)) (hw _ (List.mem_of_getElem? (i := 9) rfl)) e0 (g := (mkF m 1 #[.val (.ref a1), .val (.int (130 : Int32))] [(.ref a1)])) rfl (by rw [hml]; rfl) rfl (hb hby d1_1) (by decide) (W := 0) (by show 2 * 0 + _ ≤ _; exact Nat.le_of_eq rfl) (by decide)
  obtain ⟨T4, h4, X4, e4, W4, st4⟩ := putF X3 hx hZ hown (host := "") (Or.inl (hw _ (List.mem_of_getElem? (i := 10) rfl))) Via.refl e3 F1 E1 (Or.inr ⟨(hw _ (List.mem_of_getElem? (i := 11) rfl)), rfl, hnm⟩) (hw _ (List.mem_of_getElem? (i := 2) rfl)) (ty := .int) (by decide) rfl rfl (g := (mkF m 14 #[.val (.ref a1), .val (.int (130 : Int32))] [(.int (3 : Int32)), (.ref a1)])) rfl rfl (hb hby d1_14)
  have Fw4 := F1.same W4
  have Gw4 : Fld Z h4 a1 "com/example/tourbound/tourbound/core/EdgeSet" "bits" "[J" .null := G1.other W4 (Or.inr (by exact own_slots Z a0 hw))
  have E4 := E1.wr W4
  have K4 : Keep h0 h4 [a1] := (Keep.refl h0 [a1]).wr W4 (Or.inl (List.mem_of_getElem? (i := 0) rfl))
  have N4 := Fr.snoc X4 N0 g1
  obtain ⟨T5, X5, e5, st5⟩ := getF X4 hx hZ hown (host := "") (Or.inl (hw _ (List.mem_of_getElem? (i := 10) rfl))) Via.refl e4 Fw4 (g := (mkF m 20 #[.val (.ref a1), .val (.int (130 : Int32))] [(.ref a1), (.int (130 : Int32)), (.ref a1)])) rfl rfl (hb hby d1_20)
  obtain ⟨T6, h6, k6, X6, e6, E6, A6, st6⟩ := newP X5 hx hZ (hw _ (List.mem_of_getElem? (i := 12) rfl)) e5 (g := (mkF m 24 #[.val (.ref a1), .val (.int (130 : Int32))] [(.int (390 : Int32)), (.ref a1)])) rfl (hb hby d1_24) rfl (by decide) (cap := 390) (by decide) (by decide) (by decide) (by decide)
  obtain ⟨r, g6⟩ : ∃ z, z = h4.size := ⟨_, rfl⟩
  rw [← g6] at A6 st6
  have V6 : own_arr Z h6 r (fun _ => 0) := own_arr_new A6
  have ne6 : a1 ≠ r := by rw [g6]; exact Nat.ne_of_lt E4.lt
  have gr : n0 ≤ r := by rw [g6]; exact Nat.le_trans Z0 K4.1
  obtain ⟨T7, h7, X7, e7, W7, st7⟩ := putF X6 hx hZ hown (host := "") (Or.inl (hw _ (List.mem_of_getElem? (i := 13) rfl))) Via.refl e6 (Gw4.ext E6) (E4.ext E6) (Or.inr ⟨(hw _ (List.mem_of_getElem? (i := 14) rfl)), rfl, hnm⟩) (hw _ (List.mem_of_getElem? (i := 2) rfl)) (ty := (.array .long)) (by decide) rfl rfl (g := (mkF m 26 #[.val (.ref a1), .val (.int (130 : Int32))] [(.ref r), (.ref a1)])) rfl rfl (hb hby d1_26)
  have Gw7 : Fld Z h7 a1 "com/example/tourbound/tourbound/core/EdgeSet" "bits" "[J" (.ref r) := (Gw4.ext E6).same W7
  have Fw7 : Fld Z h7 a1 "com/example/tourbound/tourbound/core/EdgeSet" "words" "I" (.int 3) := (Fw4.ext E6).other W7 (Or.inr (fun q => own_slots Z a0 hw q.symm))
  have E7 := (E4.ext E6).wr W7
  have K7 : Keep h0 h7 [a1] := (K4.ext E6).wr W7 (Or.inl (List.mem_of_getElem? (i := 0) rfl))
  have N7 := Fr.snoc X7 N4 g1
  have V7 := own_arr_other V6 W7 (fun q => ne6 q.symm)
  obtain ⟨fs, hr, hrun, hended, hW, hsame⟩ := X7.leave (v := none) (fun _ => rfl)
  refine ⟨_, _, pre0 _ ?_, hrun, hended, _, _, rfl, ?_, ⟨_, rfl⟩, hW, hsame.mono (by decide) (by decide)⟩
  · show Steps p.tables e below (s₁.setTop (mkF m 0 #[.val (.ref a1), .val (.int (130 : Int32))] [])) _
    show Steps p.tables e below (s₁.setTop (mkF m 0 #[.val (.ref a1), .val (.int (130 : Int32))] [])) _
    refine XS.aloadN X0.here hx rfl (hb hby d1_0) rfl rfl ?_
    show Steps p.tables e below (s₁.setTop (mkF m 1 #[.val (.ref a1), .val (.int (130 : Int32))] [(.ref a1)])) _
    refine st3 _ ?_
    show Steps p.tables e below (T3.setTop (mkF m 4 #[.val (.ref a1), .val (.int (130 : Int32))] [])) _
    refine XS.aloadN X3.here hx rfl (hb hby d1_4) rfl rfl ?_
    show Steps p.tables e below (T3.setTop (mkF m 5 #[.val (.ref a1), .val (.int (130 : Int32))] [(.ref a1)])) _
    refine XS.iloadN X3.here hx rfl (hb hby d1_5) rfl ?_
    show Steps p.tables e below (T3.setTop (mkF m 6 #[.val (.ref a1), .val (.int (130 : Int32))] [(.int (130 : Int32)), (.ref a1)])) _
    refine XS.bipush X3.here hx rfl (hb hby d1_6) ?_
    show Steps p.tables e below (T3.setTop (mkF m 8 #[.val (.ref a1), .val (.int (130 : Int32))] [(.int (64 : Int32)), (.int (130 : Int32)), (.ref a1)])) _
    refine XS.iadd X3.here hx rfl (hb hby d1_8) rfl ?_
    show Steps p.tables e below (T3.setTop (mkF m 9 #[.val (.ref a1), .val (.int (130 : Int32))] [(.int ((130 : Int32) + (64 : Int32))), (.ref a1)])) _
    refine XS.iconst X3.here hx rfl (hb hby d1_9) ?_
    show Steps p.tables e below (T3.setTop (mkF m 10 #[.val (.ref a1), .val (.int (130 : Int32))] [(.int (1 : Int32)), (.int ((130 : Int32) + (64 : Int32))), (.ref a1)])) _
    refine XS.isub X3.here hx rfl (hb hby d1_10) rfl ?_
    show Steps p.tables e below (T3.setTop (mkF m 11 #[.val (.ref a1), .val (.int (130 : Int32))] [(.int (((130 : Int32) + (64 : Int32)) - (1 : Int32))), (.ref a1)])) _
    refine XS.bipush X3.here hx rfl (hb hby d1_11) ?_
    show Steps p.tables e below (T3.setTop (mkF m 13 #[.val (.ref a1), .val (.int (130 : Int32))] [(.int (64 : Int32)), (.int (((130 : Int32) + (64 : Int32)) - (1 : Int32))), (.ref a1)])) _
    refine XS.idiv X3.here hx rfl (hb hby d1_13) rfl (by decide) ?_
    show Steps p.tables e below (T3.setTop (mkF m 14 #[.val (.ref a1), .val (.int (130 : Int32))] [(.int ((((130 : Int32) + (64 : Int32)) - (1 : Int32)) / (64 : Int32))), (.ref a1)])) _
    rw [show ((((130 : Int32) + (64 : Int32)) - (1 : Int32)) / (64 : Int32)) = (3 : Int32) from by decide]
    show Steps p.tables e below (T3.setTop (mkF m 14 #[.val (.ref a1), .val (.int (130 : Int32))] [(.int (3 : Int32)), (.ref a1)])) _
    refine st4 _ ?_
    show Steps p.tables e below (T4.setTop (mkF m 17 #[.val (.ref a1), .val (.int (130 : Int32))] [])) _
    refine XS.aloadN X4.here hx rfl (hb hby d1_17) rfl rfl ?_
    show Steps p.tables e below (T4.setTop (mkF m 18 #[.val (.ref a1), .val (.int (130 : Int32))] [(.ref a1)])) _
    refine XS.iloadN X4.here hx rfl (hb hby d1_18) rfl ?_
    show Steps p.tables e below (T4.setTop (mkF m 19 #[.val (.ref a1), .val (.int (130 : Int32))] [(.int (130 : Int32)), (.ref a1)])) _
    refine XS.aloadN X4.here hx rfl (hb hby d1_19) rfl rfl ?_
    show Steps p.tables e below (T4.setTop (mkF m 20 #[.val (.ref a1), .val (.int (130 : Int32))] [(.ref a1), (.int (130 : Int32)), (.ref a1)])) _
    refine st5 _ ?_
    show Steps p.tables e below (T5.setTop (mkF m 23 #[.val (.ref a1), .val (.int (130 : Int32))] [(.int (3 : Int32)), (.int (130 : Int32)), (.ref a1)])) _
    refine XS.imul X5.here hx rfl (hb hby d1_23) rfl ?_
    show Steps p.tables e below (T5.setTop (mkF m 24 #[.val (.ref a1), .val (.int (130 : Int32))] [(.int ((130 : Int32) * (3 : Int32))), (.ref a1)])) _
    rw [show ((130 : Int32) * (3 : Int32)) = (390 : Int32) from by decide]
    show Steps p.tables e below (T5.setTop (mkF m 24 #[.val (.ref a1), .val (.int (130 : Int32))] [(.int (390 : Int32)), (.ref a1)])) _
    refine st6 _ ?_
    show Steps p.tables e below (T6.setTop (mkF m 26 #[.val (.ref a1), .val (.int (130 : Int32))] [(.ref r), (.ref a1)])) _
    refine st7 _ ?_
    show Steps p.tables e below (T7.setTop (mkF m 29 #[.val (.ref a1), .val (.int (130 : Int32))] [])) _
    exact X7.returnOut hx Bd.returns (hb hby d1_29) hr
  · show Q1 Z a1 130 h0 n0 _ T7.heap _
    rw [e7]
    exact ⟨rfl, N7, K7, E7, Fw7, r, Gw7, V7, gr, ne6⟩
theorem d3_0 : decode prog_8_method_3_code 0 = .ok (.aload_n 0, 1) := by decide +kernel
theorem d3_1 : decode prog_8_method_3_code 1 = .ok (.getfield 15, 3) := by decide +kernel
theorem d3_4 : decode prog_8_method_3_code 4 = .ok (.iload_n 1, 1) := by decide +kernel
theorem d3_5 : decode prog_8_method_3_code 5 = .ok (.aload_n 0, 1) := by decide +kernel
theorem d3_6 : decode prog_8_method_3_code 6 = .ok (.getfield 9, 3) := by decide +kernel
theorem d3_9 : decode prog_8_method_3_code 9 = .ok (.imul, 1) := by decide +kernel
theorem d3_10 : decode prog_8_method_3_code 10 = .ok (.iload_n 2, 1) := by decide +kernel
theorem d3_11 : decode prog_8_method_3_code 11 = .ok (.bipush 64, 2) := by decide +kernel
theorem d3_13 : decode prog_8_method_3_code 13 = .ok (.idiv, 1) := by decide +kernel
theorem d3_14 : decode prog_8_method_3_code 14 = .ok (.iadd, 1) := by decide +kernel
theorem d3_15 : decode prog_8_method_3_code 15 = .ok (.dup2, 1) := by decide +kernel
theorem d3_16 : decode prog_8_method_3_code 16 = .ok (.laload, 1) := by decide +kernel
theorem d3_17 : decode prog_8_method_3_code 17 = .ok (.lconst 1, 1) := by decide +kernel
theorem d3_18 : decode prog_8_method_3_code 18 = .ok (.iload_n 2, 1) := by decide +kernel
theorem d3_19 : decode prog_8_method_3_code 19 = .ok (.lshl, 1) := by decide +kernel
theorem d3_20 : decode prog_8_method_3_code 20 = .ok (.lor, 1) := by decide +kernel
theorem d3_21 : decode prog_8_method_3_code 21 = .ok (.lastore, 1) := by decide +kernel
theorem d3_22 : decode prog_8_method_3_code 22 = .ok (.aload_n 0, 1) := by decide +kernel
theorem d3_23 : decode prog_8_method_3_code 23 = .ok (.getfield 15, 3) := by decide +kernel
theorem d3_26 : decode prog_8_method_3_code 26 = .ok (.iload_n 2, 1) := by decide +kernel
theorem d3_27 : decode prog_8_method_3_code 27 = .ok (.aload_n 0, 1) := by decide +kernel
theorem d3_28 : decode prog_8_method_3_code 28 = .ok (.getfield 9, 3) := by decide +kernel
theorem d3_31 : decode prog_8_method_3_code 31 = .ok (.imul, 1) := by decide +kernel
theorem d3_32 : decode prog_8_method_3_code 32 = .ok (.iload_n 1, 1) := by decide +kernel
theorem d3_33 : decode prog_8_method_3_code 33 = .ok (.bipush 64, 2) := by decide +kernel
theorem d3_35 : decode prog_8_method_3_code 35 = .ok (.idiv, 1) := by decide +kernel
theorem d3_36 : decode prog_8_method_3_code 36 = .ok (.iadd, 1) := by decide +kernel
theorem d3_37 : decode prog_8_method_3_code 37 = .ok (.dup2, 1) := by decide +kernel
theorem d3_38 : decode prog_8_method_3_code 38 = .ok (.laload, 1) := by decide +kernel
theorem d3_39 : decode prog_8_method_3_code 39 = .ok (.lconst 1, 1) := by decide +kernel
theorem d3_40 : decode prog_8_method_3_code 40 = .ok (.iload_n 1, 1) := by decide +kernel
theorem d3_41 : decode prog_8_method_3_code 41 = .ok (.lshl, 1) := by decide +kernel
theorem d3_42 : decode prog_8_method_3_code 42 = .ok (.lor, 1) := by decide +kernel
theorem d3_43 : decode prog_8_method_3_code 43 = .ok (.lastore, 1) := by decide +kernel
theorem d3_44 : decode prog_8_method_3_code 44 = .ok (.return_, 1) := by decide +kernel
theorem pn_3 : plainName "com/example/tourbound/tourbound/core/EdgeSet" = true := by first | (simp [plainName, overriddenIn]; done) | decide +kernel
theorem ef_3 (m : MethodId) (a1 : Addr) (p1 : Int32) (p2 : Int32) : entryFrame m #[(.ref a1), (.int p1), (.int p2)] 3 = (mkF m 0 #[.val (.ref a1), .val (.int p1), .val (.int p2)] []) := by first | (simp [entryFrame, mkF, argsToLocals, Value.category]; done) | rfl
def Q3 (Z : State) (a1 : Addr) (p1 : Int32) (p2 : Int32) (m1 m2 : Nat) (r : Addr) (f : Nat → Int64) (h0 : Heap) (n0 : Nat) (v : Option Value) (h : Heap) (L : List Loc) : Prop := v = none ∧ Fr n0 L ∧ Keep h0 h [r] ∧ own_arr Z h r (own_add f m1 m2)
set_option maxRecDepth 65536 in
set_option maxHeartbeats 40000000 in
theorem rm3 (l : Launch) (Z : State) (a0 : Array Value) (hw : ∀ d ∈ tables_1, d.before a0 Z = true) (ws : List Jvm.Cond) (a1 : Addr) (p1 : Int32) (p2 : Int32) (m1 m2 : Nat) (r : Addr) (f : Nat → Int64) (h0 : Heap) (n0 : Nat) (Z0 : n0 ≤ h0.size) (i1 : p1 = Int32.ofNat m1) (i2 : p2 = Int32.ofNat m2) (l1 : m1 < 130) (l2 : m2 < 130) (F1 : Fld Z h0 a1 "com/example/tourbound/tourbound/core/EdgeSet" "words" "I" (.int 3)) (G1 : Fld Z h0 a1 "com/example/tourbound/tourbound/core/EdgeSet" "bits" "[J" (.ref r)) (V1 : own_arr Z h0 r f) (ne : a1 ≠ r) (gr : n0 ≤ r) :
    MetFree l (⟨"com/example/tourbound/tourbound/core/EdgeSet", "add", "(II)V"⟩ : MethodName) (head1 (Jvm.Cond.code (⟨"com/example/tourbound/tourbound/core/EdgeSet", "add", "(II)V"⟩ : MethodName) prog_8_method_3_code 3 none :: ws) ({ frames := 0, cells := 0, slots := 0, locals := 0 } : Room)) (fun a U => a = #[(.ref a1), (.int p1), (.int p2)] ∧ Z.Warmed39 U.vm ∧ U.heap = h0) (fun _ _ _ _ _ => True) (fun _ U o U' => ∃ v L, o = .returned v ∧ Q3 Z a1 p1 p2 m1 m2 r f h0 n0 v U'.heap L ∧ FrameEnd U o U' L ({ frames := 0, cells := 0, slots := 0, locals := 0 } : Room).cells ({ frames := 0, cells := 0, slots := 0, locals := 0 } : Room).slots) := by
  refine MetFree.of_bodySF (plainFor_of_name pn_3) hisR ?_
  intro p e s m args below meth c s₁ Bd hml0 hP hK
  obtain ⟨rfl, hZ, hh⟩ := hP
  have hx := Bd.exec
  have hby := Bd.bytes
  have hml : c.maxLocals = 3 := hml0
  have hown : s.vm.findClass "com/example/tourbound/tourbound/core/EdgeSet" = some m.cls := findClass_of_methodNamed Bd.named
  have hnm := (name_of_methodNamed Bd.named Bd.method).1
  have X0 : Stand p l e ({ frames := 0, cells := 0, slots := 0, locals := 0 } : Room) s m #[(.ref a1), (.int p1), (.int p2)] below meth c s₁ [] 0 0 := Stand.of_body Bd
  have e0 : s₁.heap = h0 := by rw [← hh, Bd.state]; rfl
  have N0 := Fr.nil n0
  have pre0 : ∀ t, Steps p.tables e below (s₁.setTop (mkF m 0 #[.val (.ref a1), .val (.int p1), .val (.int p2)] [])) t → Steps p.tables e below (s₁.setTop (entryFrame m #[(.ref a1), (.int p1), (.int p2)] 3)) t := fun t k => castTop (ef_3 m a1 p1 p2) k
  subst i1 i2
  obtain ⟨T3, X3, e3, st3⟩ := getF X0 hx hZ hown (host := "") (Or.inl (hw _ (List.mem_of_getElem? (i := 13) rfl))) Via.refl e0 G1 (g := (mkF m 1 #[.val (.ref a1), .val (.int (Int32.ofNat m1)), .val (.int (Int32.ofNat m2))] [(.ref a1)])) rfl rfl (hb hby d3_1)
  obtain ⟨T4, X4, e4, st4⟩ := getF X3 hx hZ hown (host := "") (Or.inl (hw _ (List.mem_of_getElem? (i := 10) rfl))) Via.refl e3 F1 (g := (mkF m 6 #[.val (.ref a1), .val (.int (Int32.ofNat m1)), .val (.int (Int32.ofNat m2))] [(.ref a1), (.int (Int32.ofNat m1)), (.ref r)])) rfl rfl (hb hby d3_6)
  obtain ⟨cl3, Ar3, S3, H3⟩ := id V1
  have hj3 : (own_ix m1 m2) < 390 := own_ixlt _ _ (by assumption) (by assumption)
  obtain ⟨T5, h5, X5, e5, W5, st5⟩ := stJ X4 hx hZ e4 Ar3 (j := (Int32.ofNat (own_ix m1 m2))) (own_in S3 hj3) (g := (mkF m 21 #[.val (.ref a1), .val (.int (Int32.ofNat m1)), .val (.int (Int32.ofNat m2))] [(.long ((f (own_ix m1 m2)) ||| ((1 : Int64) <<< ((Int32.ofNat m2) &&& 0x3f).toInt64))), (.int (Int32.ofNat (own_ix m1 m2))), (.ref r)])) rfl rfl (hb hby d3_21)
  have N5 := Fr.snoc X5 N0 gr
  have V5 := own_arr_set V1 hj3 W5
  have K5 : Keep h0 h5 [r] := (Keep.refl h0 [r]).wr W5 (Or.inl (List.mem_of_getElem? (i := 0) rfl))
  have F5 := F1.keep K5 (own_nin ne)
  have G5 := G1.keep K5 (own_nin ne)
  have V5' : own_arr Z h5 r (own_or f m1 m2) := V5
  obtain ⟨T6, X6, e6, st6⟩ := getF X5 hx hZ hown (host := "") (Or.inl (hw _ (List.mem_of_getElem? (i := 13) rfl))) Via.refl e5 G5 (g := (mkF m 23 #[.val (.ref a1), .val (.int (Int32.ofNat m1)), .val (.int (Int32.ofNat m2))] [(.ref a1)])) rfl rfl (hb hby d3_23)
  obtain ⟨T7, X7, e7, st7⟩ := getF X6 hx hZ hown (host := "") (Or.inl (hw _ (List.mem_of_getElem? (i := 10) rfl))) Via.refl e6 F5 (g := (mkF m 28 #[.val (.ref a1), .val (.int (Int32.ofNat m1)), .val (.int (Int32.ofNat m2))] [(.ref a1), (.int (Int32.ofNat m2)), (.ref r)])) rfl rfl (hb hby d3_28)
  obtain ⟨cl6, Ar6, S6, H6⟩ := id V5'
  have hj6 : (own_ix m2 m1) < 390 := own_ixlt _ _ (by assumption) (by assumption)
  obtain ⟨T8, h8, X8, e8, W8, st8⟩ := stJ X7 hx hZ e7 Ar6 (j := (Int32.ofNat (own_ix m2 m1))) (own_in S6 hj6) (g := (mkF m 43 #[.val (.ref a1), .val (.int (Int32.ofNat m1)), .val (.int (Int32.ofNat m2))] [(.long (((own_or f m1 m2) (own_ix m2 m1)) ||| ((1 : Int64) <<< ((Int32.ofNat m1) &&& 0x3f).toInt64))), (.int (Int32.ofNat (own_ix m2 m1))), (.ref r)])) rfl rfl (hb hby d3_43)
  have N8 := Fr.snoc X8 N5 gr
  have V8 := own_arr_set V5' hj6 W8
  have K8 : Keep h0 h8 [r] := K5.wr W8 (Or.inl (List.mem_of_getElem? (i := 0) rfl))
  have V8' : own_arr Z h8 r (own_add f m1 m2) := V8
  obtain ⟨fs, hr, hrun, hended, hW, hsame⟩ := X8.leave (v := none) (fun _ => rfl)
  refine ⟨_, _, pre0 _ ?_, hrun, hended, _, _, rfl, ?_, ⟨_, rfl⟩, hW, hsame.mono (by decide) (by decide)⟩
  · show Steps p.tables e below (s₁.setTop (mkF m 0 #[.val (.ref a1), .val (.int (Int32.ofNat m1)), .val (.int (Int32.ofNat m2))] [])) _
    show Steps p.tables e below (s₁.setTop (mkF m 0 #[.val (.ref a1), .val (.int (Int32.ofNat m1)), .val (.int (Int32.ofNat m2))] [])) _
    refine XS.aloadN X0.here hx rfl (hb hby d3_0) rfl rfl ?_
    show Steps p.tables e below (s₁.setTop (mkF m 1 #[.val (.ref a1), .val (.int (Int32.ofNat m1)), .val (.int (Int32.ofNat m2))] [(.ref a1)])) _
    refine st3 _ ?_
    show Steps p.tables e below (T3.setTop (mkF m 4 #[.val (.ref a1), .val (.int (Int32.ofNat m1)), .val (.int (Int32.ofNat m2))] [(.ref r)])) _
    refine XS.iloadN X3.here hx rfl (hb hby d3_4) rfl ?_
    show Steps p.tables e below (T3.setTop (mkF m 5 #[.val (.ref a1), .val (.int (Int32.ofNat m1)), .val (.int (Int32.ofNat m2))] [(.int (Int32.ofNat m1)), (.ref r)])) _
    refine XS.aloadN X3.here hx rfl (hb hby d3_5) rfl rfl ?_
    show Steps p.tables e below (T3.setTop (mkF m 6 #[.val (.ref a1), .val (.int (Int32.ofNat m1)), .val (.int (Int32.ofNat m2))] [(.ref a1), (.int (Int32.ofNat m1)), (.ref r)])) _
    refine st4 _ ?_
    show Steps p.tables e below (T4.setTop (mkF m 9 #[.val (.ref a1), .val (.int (Int32.ofNat m1)), .val (.int (Int32.ofNat m2))] [(.int (3 : Int32)), (.int (Int32.ofNat m1)), (.ref r)])) _
    refine XS.imul X4.here hx rfl (hb hby d3_9) rfl ?_
    show Steps p.tables e below (T4.setTop (mkF m 10 #[.val (.ref a1), .val (.int (Int32.ofNat m1)), .val (.int (Int32.ofNat m2))] [(.int ((Int32.ofNat m1) * (3 : Int32))), (.ref r)])) _
    refine XS.iloadN X4.here hx rfl (hb hby d3_10) rfl ?_
    show Steps p.tables e below (T4.setTop (mkF m 11 #[.val (.ref a1), .val (.int (Int32.ofNat m1)), .val (.int (Int32.ofNat m2))] [(.int (Int32.ofNat m2)), (.int ((Int32.ofNat m1) * (3 : Int32))), (.ref r)])) _
    refine XS.bipush X4.here hx rfl (hb hby d3_11) ?_
    show Steps p.tables e below (T4.setTop (mkF m 13 #[.val (.ref a1), .val (.int (Int32.ofNat m1)), .val (.int (Int32.ofNat m2))] [(.int (64 : Int32)), (.int (Int32.ofNat m2)), (.int ((Int32.ofNat m1) * (3 : Int32))), (.ref r)])) _
    refine XS.idiv X4.here hx rfl (hb hby d3_13) rfl (by decide) ?_
    show Steps p.tables e below (T4.setTop (mkF m 14 #[.val (.ref a1), .val (.int (Int32.ofNat m1)), .val (.int (Int32.ofNat m2))] [(.int ((Int32.ofNat m2) / (64 : Int32))), (.int ((Int32.ofNat m1) * (3 : Int32))), (.ref r)])) _
    refine XS.iadd X4.here hx rfl (hb hby d3_14) rfl ?_
    show Steps p.tables e below (T4.setTop (mkF m 15 #[.val (.ref a1), .val (.int (Int32.ofNat m1)), .val (.int (Int32.ofNat m2))] [(.int (((Int32.ofNat m1) * (3 : Int32)) + ((Int32.ofNat m2) / (64 : Int32)))), (.ref r)])) _
    rw [own_ixeq m1 m2 (by assumption) (by assumption)]
    show Steps p.tables e below (T4.setTop (mkF m 15 #[.val (.ref a1), .val (.int (Int32.ofNat m1)), .val (.int (Int32.ofNat m2))] [(.int (Int32.ofNat (own_ix m1 m2))), (.ref r)])) _
    refine XT.dup2 X4.here hx rfl (hb hby d3_15) rfl rfl rfl ?_
    show Steps p.tables e below (T4.setTop (mkF m 16 #[.val (.ref a1), .val (.int (Int32.ofNat m1)), .val (.int (Int32.ofNat m2))] [(.int (Int32.ofNat (own_ix m1 m2))), (.ref r), (.int (Int32.ofNat (own_ix m1 m2))), (.ref r)])) _
    refine X4.laload hx (j := (Int32.ofNat (own_ix m1 m2))) (v := (.long (f (own_ix m1 m2)))) (by rw [e4]; exact Ar3.1) (State.isArrayOf_alike hZ.alike Ar3.2.1) Ar3.2.2 (own_in S3 hj3) (own_at H3 hj3) (g := (mkF m 16 #[.val (.ref a1), .val (.int (Int32.ofNat m1)), .val (.int (Int32.ofNat m2))] [(.int (Int32.ofNat (own_ix m1 m2))), (.ref r), (.int (Int32.ofNat (own_ix m1 m2))), (.ref r)])) rfl rfl (hb hby d3_16) _ ?_
    show Steps p.tables e below (T4.setTop (mkF m 17 #[.val (.ref a1), .val (.int (Int32.ofNat m1)), .val (.int (Int32.ofNat m2))] [(.long (f (own_ix m1 m2))), (.int (Int32.ofNat (own_ix m1 m2))), (.ref r)])) _
    refine XS.lconst X4.here hx rfl (hb hby d3_17) ?_
    show Steps p.tables e below (T4.setTop (mkF m 18 #[.val (.ref a1), .val (.int (Int32.ofNat m1)), .val (.int (Int32.ofNat m2))] [(.long (1 : Int64)), (.long (f (own_ix m1 m2))), (.int (Int32.ofNat (own_ix m1 m2))), (.ref r)])) _
    refine XS.iloadN X4.here hx rfl (hb hby d3_18) rfl ?_
    show Steps p.tables e below (T4.setTop (mkF m 19 #[.val (.ref a1), .val (.int (Int32.ofNat m1)), .val (.int (Int32.ofNat m2))] [(.int (Int32.ofNat m2)), (.long (1 : Int64)), (.long (f (own_ix m1 m2))), (.int (Int32.ofNat (own_ix m1 m2))), (.ref r)])) _
    refine XS.lshl X4.here hx rfl (hb hby d3_19) rfl ?_
    show Steps p.tables e below (T4.setTop (mkF m 20 #[.val (.ref a1), .val (.int (Int32.ofNat m1)), .val (.int (Int32.ofNat m2))] [(.long ((1 : Int64) <<< ((Int32.ofNat m2) &&& 0x3f).toInt64)), (.long (f (own_ix m1 m2))), (.int (Int32.ofNat (own_ix m1 m2))), (.ref r)])) _
    refine XS.lor X4.here hx rfl (hb hby d3_20) rfl ?_
    show Steps p.tables e below (T4.setTop (mkF m 21 #[.val (.ref a1), .val (.int (Int32.ofNat m1)), .val (.int (Int32.ofNat m2))] [(.long ((f (own_ix m1 m2)) ||| ((1 : Int64) <<< ((Int32.ofNat m2) &&& 0x3f).toInt64))), (.int (Int32.ofNat (own_ix m1 m2))), (.ref r)])) _
    refine st5 _ ?_
    show Steps p.tables e below (T5.setTop (mkF m 22 #[.val (.ref a1), .val (.int (Int32.ofNat m1)), .val (.int (Int32.ofNat m2))] [])) _
    refine XS.aloadN X5.here hx rfl (hb hby d3_22) rfl rfl ?_
    show Steps p.tables e below (T5.setTop (mkF m 23 #[.val (.ref a1), .val (.int (Int32.ofNat m1)), .val (.int (Int32.ofNat m2))] [(.ref a1)])) _
    refine st6 _ ?_
    show Steps p.tables e below (T6.setTop (mkF m 26 #[.val (.ref a1), .val (.int (Int32.ofNat m1)), .val (.int (Int32.ofNat m2))] [(.ref r)])) _
    refine XS.iloadN X6.here hx rfl (hb hby d3_26) rfl ?_
    show Steps p.tables e below (T6.setTop (mkF m 27 #[.val (.ref a1), .val (.int (Int32.ofNat m1)), .val (.int (Int32.ofNat m2))] [(.int (Int32.ofNat m2)), (.ref r)])) _
    refine XS.aloadN X6.here hx rfl (hb hby d3_27) rfl rfl ?_
    show Steps p.tables e below (T6.setTop (mkF m 28 #[.val (.ref a1), .val (.int (Int32.ofNat m1)), .val (.int (Int32.ofNat m2))] [(.ref a1), (.int (Int32.ofNat m2)), (.ref r)])) _
    refine st7 _ ?_
    show Steps p.tables e below (T7.setTop (mkF m 31 #[.val (.ref a1), .val (.int (Int32.ofNat m1)), .val (.int (Int32.ofNat m2))] [(.int (3 : Int32)), (.int (Int32.ofNat m2)), (.ref r)])) _
    refine XS.imul X7.here hx rfl (hb hby d3_31) rfl ?_
    show Steps p.tables e below (T7.setTop (mkF m 32 #[.val (.ref a1), .val (.int (Int32.ofNat m1)), .val (.int (Int32.ofNat m2))] [(.int ((Int32.ofNat m2) * (3 : Int32))), (.ref r)])) _
    refine XS.iloadN X7.here hx rfl (hb hby d3_32) rfl ?_
    show Steps p.tables e below (T7.setTop (mkF m 33 #[.val (.ref a1), .val (.int (Int32.ofNat m1)), .val (.int (Int32.ofNat m2))] [(.int (Int32.ofNat m1)), (.int ((Int32.ofNat m2) * (3 : Int32))), (.ref r)])) _
    refine XS.bipush X7.here hx rfl (hb hby d3_33) ?_
    show Steps p.tables e below (T7.setTop (mkF m 35 #[.val (.ref a1), .val (.int (Int32.ofNat m1)), .val (.int (Int32.ofNat m2))] [(.int (64 : Int32)), (.int (Int32.ofNat m1)), (.int ((Int32.ofNat m2) * (3 : Int32))), (.ref r)])) _
    refine XS.idiv X7.here hx rfl (hb hby d3_35) rfl (by decide) ?_
    show Steps p.tables e below (T7.setTop (mkF m 36 #[.val (.ref a1), .val (.int (Int32.ofNat m1)), .val (.int (Int32.ofNat m2))] [(.int ((Int32.ofNat m1) / (64 : Int32))), (.int ((Int32.ofNat m2) * (3 : Int32))), (.ref r)])) _
    refine XS.iadd X7.here hx rfl (hb hby d3_36) rfl ?_
    show Steps p.tables e below (T7.setTop (mkF m 37 #[.val (.ref a1), .val (.int (Int32.ofNat m1)), .val (.int (Int32.ofNat m2))] [(.int (((Int32.ofNat m2) * (3 : Int32)) + ((Int32.ofNat m1) / (64 : Int32)))), (.ref r)])) _
    rw [own_ixeq m2 m1 (by assumption) (by assumption)]
    show Steps p.tables e below (T7.setTop (mkF m 37 #[.val (.ref a1), .val (.int (Int32.ofNat m1)), .val (.int (Int32.ofNat m2))] [(.int (Int32.ofNat (own_ix m2 m1))), (.ref r)])) _
    refine XT.dup2 X7.here hx rfl (hb hby d3_37) rfl rfl rfl ?_
    show Steps p.tables e below (T7.setTop (mkF m 38 #[.val (.ref a1), .val (.int (Int32.ofNat m1)), .val (.int (Int32.ofNat m2))] [(.int (Int32.ofNat (own_ix m2 m1))), (.ref r), (.int (Int32.ofNat (own_ix m2 m1))), (.ref r)])) _
    refine X7.laload hx (j := (Int32.ofNat (own_ix m2 m1))) (v := (.long ((own_or f m1 m2) (own_ix m2 m1)))) (by rw [e7]; exact Ar6.1) (State.isArrayOf_alike hZ.alike Ar6.2.1) Ar6.2.2 (own_in S6 hj6) (own_at H6 hj6) (g := (mkF m 38 #[.val (.ref a1), .val (.int (Int32.ofNat m1)), .val (.int (Int32.ofNat m2))] [(.int (Int32.ofNat (own_ix m2 m1))), (.ref r), (.int (Int32.ofNat (own_ix m2 m1))), (.ref r)])) rfl rfl (hb hby d3_38) _ ?_
    show Steps p.tables e below (T7.setTop (mkF m 39 #[.val (.ref a1), .val (.int (Int32.ofNat m1)), .val (.int (Int32.ofNat m2))] [(.long ((own_or f m1 m2) (own_ix m2 m1))), (.int (Int32.ofNat (own_ix m2 m1))), (.ref r)])) _
    refine XS.lconst X7.here hx rfl (hb hby d3_39) ?_
    show Steps p.tables e below (T7.setTop (mkF m 40 #[.val (.ref a1), .val (.int (Int32.ofNat m1)), .val (.int (Int32.ofNat m2))] [(.long (1 : Int64)), (.long ((own_or f m1 m2) (own_ix m2 m1))), (.int (Int32.ofNat (own_ix m2 m1))), (.ref r)])) _
    refine XS.iloadN X7.here hx rfl (hb hby d3_40) rfl ?_
    show Steps p.tables e below (T7.setTop (mkF m 41 #[.val (.ref a1), .val (.int (Int32.ofNat m1)), .val (.int (Int32.ofNat m2))] [(.int (Int32.ofNat m1)), (.long (1 : Int64)), (.long ((own_or f m1 m2) (own_ix m2 m1))), (.int (Int32.ofNat (own_ix m2 m1))), (.ref r)])) _
    refine XS.lshl X7.here hx rfl (hb hby d3_41) rfl ?_
    show Steps p.tables e below (T7.setTop (mkF m 42 #[.val (.ref a1), .val (.int (Int32.ofNat m1)), .val (.int (Int32.ofNat m2))] [(.long ((1 : Int64) <<< ((Int32.ofNat m1) &&& 0x3f).toInt64)), (.long ((own_or f m1 m2) (own_ix m2 m1))), (.int (Int32.ofNat (own_ix m2 m1))), (.ref r)])) _
    refine XS.lor X7.here hx rfl (hb hby d3_42) rfl ?_
    show Steps p.tables e below (T7.setTop (mkF m 43 #[.val (.ref a1), .val (.int (Int32.ofNat m1)), .val (.int (Int32.ofNat m2))] [(.long (((own_or f m1 m2) (own_ix m2 m1)) ||| ((1 : Int64) <<< ((Int32.ofNat m1) &&& 0x3f).toInt64))), (.int (Int32.ofNat (own_ix m2 m1))), (.ref r)])) _
    refine st8 _ ?_
    show Steps p.tables e below (T8.setTop (mkF m 44 #[.val (.ref a1), .val (.int (Int32.ofNat m1)), .val (.int (Int32.ofNat m2))] [])) _
    exact X8.returnOut hx Bd.returns (hb hby d3_44) hr
  · show Q3 Z a1 (Int32.ofNat m1) (Int32.ofNat m2) m1 m2 r f h0 n0 _ T8.heap _
    rw [e8]
    exact ⟨rfl, N8, K8, V8'⟩
theorem d4_0 : decode prog_8_method_4_code 0 = .ok (.aload_n 0, 1) := by decide +kernel
theorem d4_1 : decode prog_8_method_4_code 1 = .ok (.getfield 15, 3) := by decide +kernel
theorem d4_4 : decode prog_8_method_4_code 4 = .ok (.iload_n 1, 1) := by decide +kernel
theorem d4_5 : decode prog_8_method_4_code 5 = .ok (.aload_n 0, 1) := by decide +kernel
theorem d4_6 : decode prog_8_method_4_code 6 = .ok (.getfield 9, 3) := by decide +kernel
theorem d4_9 : decode prog_8_method_4_code 9 = .ok (.imul, 1) := by decide +kernel
theorem d4_10 : decode prog_8_method_4_code 10 = .ok (.iload_n 2, 1) := by decide +kernel
theorem d4_11 : decode prog_8_method_4_code 11 = .ok (.bipush 64, 2) := by decide +kernel
theorem d4_13 : decode prog_8_method_4_code 13 = .ok (.idiv, 1) := by decide +kernel
theorem d4_14 : decode prog_8_method_4_code 14 = .ok (.iadd, 1) := by decide +kernel
theorem d4_15 : decode prog_8_method_4_code 15 = .ok (.dup2, 1) := by decide +kernel
theorem d4_16 : decode prog_8_method_4_code 16 = .ok (.laload, 1) := by decide +kernel
theorem d4_17 : decode prog_8_method_4_code 17 = .ok (.lconst 1, 1) := by decide +kernel
theorem d4_18 : decode prog_8_method_4_code 18 = .ok (.iload_n 2, 1) := by decide +kernel
theorem d4_19 : decode prog_8_method_4_code 19 = .ok (.lshl, 1) := by decide +kernel
theorem d4_20 : decode prog_8_method_4_code 20 = .ok (.ldc2_w 25, 3) := by decide +kernel
theorem d4_23 : decode prog_8_method_4_code 23 = .ok (.lxor, 1) := by decide +kernel
theorem d4_24 : decode prog_8_method_4_code 24 = .ok (.land, 1) := by decide +kernel
theorem d4_25 : decode prog_8_method_4_code 25 = .ok (.lastore, 1) := by decide +kernel
theorem d4_26 : decode prog_8_method_4_code 26 = .ok (.aload_n 0, 1) := by decide +kernel
theorem d4_27 : decode prog_8_method_4_code 27 = .ok (.getfield 15, 3) := by decide +kernel
theorem d4_30 : decode prog_8_method_4_code 30 = .ok (.iload_n 2, 1) := by decide +kernel
theorem d4_31 : decode prog_8_method_4_code 31 = .ok (.aload_n 0, 1) := by decide +kernel
theorem d4_32 : decode prog_8_method_4_code 32 = .ok (.getfield 9, 3) := by decide +kernel
theorem d4_35 : decode prog_8_method_4_code 35 = .ok (.imul, 1) := by decide +kernel
theorem d4_36 : decode prog_8_method_4_code 36 = .ok (.iload_n 1, 1) := by decide +kernel
theorem d4_37 : decode prog_8_method_4_code 37 = .ok (.bipush 64, 2) := by decide +kernel
theorem d4_39 : decode prog_8_method_4_code 39 = .ok (.idiv, 1) := by decide +kernel
theorem d4_40 : decode prog_8_method_4_code 40 = .ok (.iadd, 1) := by decide +kernel
theorem d4_41 : decode prog_8_method_4_code 41 = .ok (.dup2, 1) := by decide +kernel
theorem d4_42 : decode prog_8_method_4_code 42 = .ok (.laload, 1) := by decide +kernel
theorem d4_43 : decode prog_8_method_4_code 43 = .ok (.lconst 1, 1) := by decide +kernel
theorem d4_44 : decode prog_8_method_4_code 44 = .ok (.iload_n 1, 1) := by decide +kernel
theorem d4_45 : decode prog_8_method_4_code 45 = .ok (.lshl, 1) := by decide +kernel
theorem d4_46 : decode prog_8_method_4_code 46 = .ok (.ldc2_w 25, 3) := by decide +kernel
theorem d4_49 : decode prog_8_method_4_code 49 = .ok (.lxor, 1) := by decide +kernel
theorem d4_50 : decode prog_8_method_4_code 50 = .ok (.land, 1) := by decide +kernel
theorem d4_51 : decode prog_8_method_4_code 51 = .ok (.lastore, 1) := by decide +kernel
theorem d4_52 : decode prog_8_method_4_code 52 = .ok (.return_, 1) := by decide +kernel
theorem pn_4 : plainName "com/example/tourbound/tourbound/core/EdgeSet" = true := by first | (simp [plainName, overriddenIn]; done) | decide +kernel
theorem ef_4 (m : MethodId) (a1 : Addr) (p1 : Int32) (p2 : Int32) : entryFrame m #[(.ref a1), (.int p1), (.int p2)] 3 = (mkF m 0 #[.val (.ref a1), .val (.int p1), .val (.int p2)] []) := by first | (simp [entryFrame, mkF, argsToLocals, Value.category]; done) | rfl
def Q4 (Z : State) (a1 : Addr) (p1 : Int32) (p2 : Int32) (m1 m2 : Nat) (r : Addr) (f : Nat → Int64) (h0 : Heap) (n0 : Nat) (v : Option Value) (h : Heap) (L : List Loc) : Prop := v = none ∧ Fr n0 L ∧ Keep h0 h [r] ∧ own_arr Z h r (own_rem f m1 m2)
set_option maxRecDepth 65536 in
set_option maxHeartbeats 40000000 in
theorem rm4 (l : Launch) (Z : State) (a0 : Array Value) (hw : ∀ d ∈ tables_1, d.before a0 Z = true) (ws : List Jvm.Cond) (a1 : Addr) (p1 : Int32) (p2 : Int32) (m1 m2 : Nat) (r : Addr) (f : Nat → Int64) (h0 : Heap) (n0 : Nat) (Z0 : n0 ≤ h0.size) (i1 : p1 = Int32.ofNat m1) (i2 : p2 = Int32.ofNat m2) (l1 : m1 < 130) (l2 : m2 < 130) (F1 : Fld Z h0 a1 "com/example/tourbound/tourbound/core/EdgeSet" "words" "I" (.int 3)) (G1 : Fld Z h0 a1 "com/example/tourbound/tourbound/core/EdgeSet" "bits" "[J" (.ref r)) (V1 : own_arr Z h0 r f) (ne : a1 ≠ r) (gr : n0 ≤ r) :
    MetFree l (⟨"com/example/tourbound/tourbound/core/EdgeSet", "remove", "(II)V"⟩ : MethodName) (head1 (Jvm.Cond.code (⟨"com/example/tourbound/tourbound/core/EdgeSet", "remove", "(II)V"⟩ : MethodName) prog_8_method_4_code 3 none :: ws) ({ frames := 0, cells := 0, slots := 0, locals := 0 } : Room)) (fun a U => a = #[(.ref a1), (.int p1), (.int p2)] ∧ Z.Warmed39 U.vm ∧ U.heap = h0) (fun _ _ _ _ _ => True) (fun _ U o U' => ∃ v L, o = .returned v ∧ Q4 Z a1 p1 p2 m1 m2 r f h0 n0 v U'.heap L ∧ FrameEnd U o U' L ({ frames := 0, cells := 0, slots := 0, locals := 0 } : Room).cells ({ frames := 0, cells := 0, slots := 0, locals := 0 } : Room).slots) := by
  refine MetFree.of_bodySF (plainFor_of_name pn_4) hisR ?_
  intro p e s m args below meth c s₁ Bd hml0 hP hK
  obtain ⟨rfl, hZ, hh⟩ := hP
  have hx := Bd.exec
  have hby := Bd.bytes
  have hml : c.maxLocals = 3 := hml0
  have hown : s.vm.findClass "com/example/tourbound/tourbound/core/EdgeSet" = some m.cls := findClass_of_methodNamed Bd.named
  have hnm := (name_of_methodNamed Bd.named Bd.method).1
  have X0 : Stand p l e ({ frames := 0, cells := 0, slots := 0, locals := 0 } : Room) s m #[(.ref a1), (.int p1), (.int p2)] below meth c s₁ [] 0 0 := Stand.of_body Bd
  have e0 : s₁.heap = h0 := by rw [← hh, Bd.state]; rfl
  have N0 := Fr.nil n0
  have pre0 : ∀ t, Steps p.tables e below (s₁.setTop (mkF m 0 #[.val (.ref a1), .val (.int p1), .val (.int p2)] [])) t → Steps p.tables e below (s₁.setTop (entryFrame m #[(.ref a1), (.int p1), (.int p2)] 3)) t := fun t k => castTop (ef_4 m a1 p1 p2) k
  subst i1 i2
  obtain ⟨T3, X3, e3, st3⟩ := getF X0 hx hZ hown (host := "") (Or.inl (hw _ (List.mem_of_getElem? (i := 13) rfl))) Via.refl e0 G1 (g := (mkF m 1 #[.val (.ref a1), .val (.int (Int32.ofNat m1)), .val (.int (Int32.ofNat m2))] [(.ref a1)])) rfl rfl (hb hby d4_1)
  obtain ⟨T4, X4, e4, st4⟩ := getF X3 hx hZ hown (host := "") (Or.inl (hw _ (List.mem_of_getElem? (i := 10) rfl))) Via.refl e3 F1 (g := (mkF m 6 #[.val (.ref a1), .val (.int (Int32.ofNat m1)), .val (.int (Int32.ofNat m2))] [(.ref a1), (.int (Int32.ofNat m1)), (.ref r)])) rfl rfl (hb hby d4_6)
  obtain ⟨cl3, Ar3, S3, H3⟩ := id V1
  have hj3 : (own_ix m1 m2) < 390 := own_ixlt _ _ (by assumption) (by assumption)
  obtain ⟨T5, h5, X5, e5, W5, st5⟩ := stJ X4 hx hZ e4 Ar3 (j := (Int32.ofNat (own_ix m1 m2))) (own_in S3 hj3) (g := (mkF m 25 #[.val (.ref a1), .val (.int (Int32.ofNat m1)), .val (.int (Int32.ofNat m2))] [(.long ((f (own_ix m1 m2)) &&& (((1 : Int64) <<< ((Int32.ofNat m2) &&& 0x3f).toInt64) ^^^ (-1 : Int64)))), (.int (Int32.ofNat (own_ix m1 m2))), (.ref r)])) rfl rfl (hb hby d4_25)
  have N5 := Fr.snoc X5 N0 gr
  have V5 := own_arr_set V1 hj3 W5
  have K5 : Keep h0 h5 [r] := (Keep.refl h0 [r]).wr W5 (Or.inl (List.mem_of_getElem? (i := 0) rfl))
  have F5 := F1.keep K5 (own_nin ne)
  have G5 := G1.keep K5 (own_nin ne)
  have V5' : own_arr Z h5 r (own_clr f m1 m2) := V5
  obtain ⟨T6, X6, e6, st6⟩ := getF X5 hx hZ hown (host := "") (Or.inl (hw _ (List.mem_of_getElem? (i := 13) rfl))) Via.refl e5 G5 (g := (mkF m 27 #[.val (.ref a1), .val (.int (Int32.ofNat m1)), .val (.int (Int32.ofNat m2))] [(.ref a1)])) rfl rfl (hb hby d4_27)
  obtain ⟨T7, X7, e7, st7⟩ := getF X6 hx hZ hown (host := "") (Or.inl (hw _ (List.mem_of_getElem? (i := 10) rfl))) Via.refl e6 F5 (g := (mkF m 32 #[.val (.ref a1), .val (.int (Int32.ofNat m1)), .val (.int (Int32.ofNat m2))] [(.ref a1), (.int (Int32.ofNat m2)), (.ref r)])) rfl rfl (hb hby d4_32)
  obtain ⟨cl6, Ar6, S6, H6⟩ := id V5'
  have hj6 : (own_ix m2 m1) < 390 := own_ixlt _ _ (by assumption) (by assumption)
  obtain ⟨T8, h8, X8, e8, W8, st8⟩ := stJ X7 hx hZ e7 Ar6 (j := (Int32.ofNat (own_ix m2 m1))) (own_in S6 hj6) (g := (mkF m 51 #[.val (.ref a1), .val (.int (Int32.ofNat m1)), .val (.int (Int32.ofNat m2))] [(.long (((own_clr f m1 m2) (own_ix m2 m1)) &&& (((1 : Int64) <<< ((Int32.ofNat m1) &&& 0x3f).toInt64) ^^^ (-1 : Int64)))), (.int (Int32.ofNat (own_ix m2 m1))), (.ref r)])) rfl rfl (hb hby d4_51)
  have N8 := Fr.snoc X8 N5 gr
  have V8 := own_arr_set V5' hj6 W8
  have K8 : Keep h0 h8 [r] := K5.wr W8 (Or.inl (List.mem_of_getElem? (i := 0) rfl))
  have V8' : own_arr Z h8 r (own_rem f m1 m2) := V8
  obtain ⟨fs, hr, hrun, hended, hW, hsame⟩ := X8.leave (v := none) (fun _ => rfl)
  refine ⟨_, _, pre0 _ ?_, hrun, hended, _, _, rfl, ?_, ⟨_, rfl⟩, hW, hsame.mono (by decide) (by decide)⟩
  · show Steps p.tables e below (s₁.setTop (mkF m 0 #[.val (.ref a1), .val (.int (Int32.ofNat m1)), .val (.int (Int32.ofNat m2))] [])) _
    show Steps p.tables e below (s₁.setTop (mkF m 0 #[.val (.ref a1), .val (.int (Int32.ofNat m1)), .val (.int (Int32.ofNat m2))] [])) _
    refine XS.aloadN X0.here hx rfl (hb hby d4_0) rfl rfl ?_
    show Steps p.tables e below (s₁.setTop (mkF m 1 #[.val (.ref a1), .val (.int (Int32.ofNat m1)), .val (.int (Int32.ofNat m2))] [(.ref a1)])) _
    refine st3 _ ?_
    show Steps p.tables e below (T3.setTop (mkF m 4 #[.val (.ref a1), .val (.int (Int32.ofNat m1)), .val (.int (Int32.ofNat m2))] [(.ref r)])) _
    refine XS.iloadN X3.here hx rfl (hb hby d4_4) rfl ?_
    show Steps p.tables e below (T3.setTop (mkF m 5 #[.val (.ref a1), .val (.int (Int32.ofNat m1)), .val (.int (Int32.ofNat m2))] [(.int (Int32.ofNat m1)), (.ref r)])) _
    refine XS.aloadN X3.here hx rfl (hb hby d4_5) rfl rfl ?_
    show Steps p.tables e below (T3.setTop (mkF m 6 #[.val (.ref a1), .val (.int (Int32.ofNat m1)), .val (.int (Int32.ofNat m2))] [(.ref a1), (.int (Int32.ofNat m1)), (.ref r)])) _
    refine st4 _ ?_
    show Steps p.tables e below (T4.setTop (mkF m 9 #[.val (.ref a1), .val (.int (Int32.ofNat m1)), .val (.int (Int32.ofNat m2))] [(.int (3 : Int32)), (.int (Int32.ofNat m1)), (.ref r)])) _
    refine XS.imul X4.here hx rfl (hb hby d4_9) rfl ?_
    show Steps p.tables e below (T4.setTop (mkF m 10 #[.val (.ref a1), .val (.int (Int32.ofNat m1)), .val (.int (Int32.ofNat m2))] [(.int ((Int32.ofNat m1) * (3 : Int32))), (.ref r)])) _
    refine XS.iloadN X4.here hx rfl (hb hby d4_10) rfl ?_
    show Steps p.tables e below (T4.setTop (mkF m 11 #[.val (.ref a1), .val (.int (Int32.ofNat m1)), .val (.int (Int32.ofNat m2))] [(.int (Int32.ofNat m2)), (.int ((Int32.ofNat m1) * (3 : Int32))), (.ref r)])) _
    refine XS.bipush X4.here hx rfl (hb hby d4_11) ?_
    show Steps p.tables e below (T4.setTop (mkF m 13 #[.val (.ref a1), .val (.int (Int32.ofNat m1)), .val (.int (Int32.ofNat m2))] [(.int (64 : Int32)), (.int (Int32.ofNat m2)), (.int ((Int32.ofNat m1) * (3 : Int32))), (.ref r)])) _
    refine XS.idiv X4.here hx rfl (hb hby d4_13) rfl (by decide) ?_
    show Steps p.tables e below (T4.setTop (mkF m 14 #[.val (.ref a1), .val (.int (Int32.ofNat m1)), .val (.int (Int32.ofNat m2))] [(.int ((Int32.ofNat m2) / (64 : Int32))), (.int ((Int32.ofNat m1) * (3 : Int32))), (.ref r)])) _
    refine XS.iadd X4.here hx rfl (hb hby d4_14) rfl ?_
    show Steps p.tables e below (T4.setTop (mkF m 15 #[.val (.ref a1), .val (.int (Int32.ofNat m1)), .val (.int (Int32.ofNat m2))] [(.int (((Int32.ofNat m1) * (3 : Int32)) + ((Int32.ofNat m2) / (64 : Int32)))), (.ref r)])) _
    rw [own_ixeq m1 m2 (by assumption) (by assumption)]
    show Steps p.tables e below (T4.setTop (mkF m 15 #[.val (.ref a1), .val (.int (Int32.ofNat m1)), .val (.int (Int32.ofNat m2))] [(.int (Int32.ofNat (own_ix m1 m2))), (.ref r)])) _
    refine XT.dup2 X4.here hx rfl (hb hby d4_15) rfl rfl rfl ?_
    show Steps p.tables e below (T4.setTop (mkF m 16 #[.val (.ref a1), .val (.int (Int32.ofNat m1)), .val (.int (Int32.ofNat m2))] [(.int (Int32.ofNat (own_ix m1 m2))), (.ref r), (.int (Int32.ofNat (own_ix m1 m2))), (.ref r)])) _
    refine X4.laload hx (j := (Int32.ofNat (own_ix m1 m2))) (v := (.long (f (own_ix m1 m2)))) (by rw [e4]; exact Ar3.1) (State.isArrayOf_alike hZ.alike Ar3.2.1) Ar3.2.2 (own_in S3 hj3) (own_at H3 hj3) (g := (mkF m 16 #[.val (.ref a1), .val (.int (Int32.ofNat m1)), .val (.int (Int32.ofNat m2))] [(.int (Int32.ofNat (own_ix m1 m2))), (.ref r), (.int (Int32.ofNat (own_ix m1 m2))), (.ref r)])) rfl rfl (hb hby d4_16) _ ?_
    show Steps p.tables e below (T4.setTop (mkF m 17 #[.val (.ref a1), .val (.int (Int32.ofNat m1)), .val (.int (Int32.ofNat m2))] [(.long (f (own_ix m1 m2))), (.int (Int32.ofNat (own_ix m1 m2))), (.ref r)])) _
    refine XS.lconst X4.here hx rfl (hb hby d4_17) ?_
    show Steps p.tables e below (T4.setTop (mkF m 18 #[.val (.ref a1), .val (.int (Int32.ofNat m1)), .val (.int (Int32.ofNat m2))] [(.long (1 : Int64)), (.long (f (own_ix m1 m2))), (.int (Int32.ofNat (own_ix m1 m2))), (.ref r)])) _
    refine XS.iloadN X4.here hx rfl (hb hby d4_18) rfl ?_
    show Steps p.tables e below (T4.setTop (mkF m 19 #[.val (.ref a1), .val (.int (Int32.ofNat m1)), .val (.int (Int32.ofNat m2))] [(.int (Int32.ofNat m2)), (.long (1 : Int64)), (.long (f (own_ix m1 m2))), (.int (Int32.ofNat (own_ix m1 m2))), (.ref r)])) _
    refine XS.lshl X4.here hx rfl (hb hby d4_19) rfl ?_
    show Steps p.tables e below (T4.setTop (mkF m 20 #[.val (.ref a1), .val (.int (Int32.ofNat m1)), .val (.int (Int32.ofNat m2))] [(.long ((1 : Int64) <<< ((Int32.ofNat m2) &&& 0x3f).toInt64)), (.long (f (own_ix m1 m2))), (.int (Int32.ofNat (own_ix m1 m2))), (.ref r)])) _
    refine X4.ldc2J hx hown (mvT hZ (hw _ (List.mem_of_getElem? (i := 25) rfl))) (g := (mkF m 20 #[.val (.ref a1), .val (.int (Int32.ofNat m1)), .val (.int (Int32.ofNat m2))] [(.long ((1 : Int64) <<< ((Int32.ofNat m2) &&& 0x3f).toInt64)), (.long (f (own_ix m1 m2))), (.int (Int32.ofNat (own_ix m1 m2))), (.ref r)])) rfl (hb hby d4_20) ?_
    show Steps p.tables e below (T4.setTop (mkF m 23 #[.val (.ref a1), .val (.int (Int32.ofNat m1)), .val (.int (Int32.ofNat m2))] [(.long (-1 : Int64)), (.long ((1 : Int64) <<< ((Int32.ofNat m2) &&& 0x3f).toInt64)), (.long (f (own_ix m1 m2))), (.int (Int32.ofNat (own_ix m1 m2))), (.ref r)])) _
    refine XS.lxor X4.here hx rfl (hb hby d4_23) rfl ?_
    show Steps p.tables e below (T4.setTop (mkF m 24 #[.val (.ref a1), .val (.int (Int32.ofNat m1)), .val (.int (Int32.ofNat m2))] [(.long (((1 : Int64) <<< ((Int32.ofNat m2) &&& 0x3f).toInt64) ^^^ (-1 : Int64))), (.long (f (own_ix m1 m2))), (.int (Int32.ofNat (own_ix m1 m2))), (.ref r)])) _
    refine XS.land X4.here hx rfl (hb hby d4_24) rfl ?_
    show Steps p.tables e below (T4.setTop (mkF m 25 #[.val (.ref a1), .val (.int (Int32.ofNat m1)), .val (.int (Int32.ofNat m2))] [(.long ((f (own_ix m1 m2)) &&& (((1 : Int64) <<< ((Int32.ofNat m2) &&& 0x3f).toInt64) ^^^ (-1 : Int64)))), (.int (Int32.ofNat (own_ix m1 m2))), (.ref r)])) _
    refine st5 _ ?_
    show Steps p.tables e below (T5.setTop (mkF m 26 #[.val (.ref a1), .val (.int (Int32.ofNat m1)), .val (.int (Int32.ofNat m2))] [])) _
    refine XS.aloadN X5.here hx rfl (hb hby d4_26) rfl rfl ?_
    show Steps p.tables e below (T5.setTop (mkF m 27 #[.val (.ref a1), .val (.int (Int32.ofNat m1)), .val (.int (Int32.ofNat m2))] [(.ref a1)])) _
    refine st6 _ ?_
    show Steps p.tables e below (T6.setTop (mkF m 30 #[.val (.ref a1), .val (.int (Int32.ofNat m1)), .val (.int (Int32.ofNat m2))] [(.ref r)])) _
    refine XS.iloadN X6.here hx rfl (hb hby d4_30) rfl ?_
    show Steps p.tables e below (T6.setTop (mkF m 31 #[.val (.ref a1), .val (.int (Int32.ofNat m1)), .val (.int (Int32.ofNat m2))] [(.int (Int32.ofNat m2)), (.ref r)])) _
    refine XS.aloadN X6.here hx rfl (hb hby d4_31) rfl rfl ?_
    show Steps p.tables e below (T6.setTop (mkF m 32 #[.val (.ref a1), .val (.int (Int32.ofNat m1)), .val (.int (Int32.ofNat m2))] [(.ref a1), (.int (Int32.ofNat m2)), (.ref r)])) _
    refine st7 _ ?_
    show Steps p.tables e below (T7.setTop (mkF m 35 #[.val (.ref a1), .val (.int (Int32.ofNat m1)), .val (.int (Int32.ofNat m2))] [(.int (3 : Int32)), (.int (Int32.ofNat m2)), (.ref r)])) _
    refine XS.imul X7.here hx rfl (hb hby d4_35) rfl ?_
    show Steps p.tables e below (T7.setTop (mkF m 36 #[.val (.ref a1), .val (.int (Int32.ofNat m1)), .val (.int (Int32.ofNat m2))] [(.int ((Int32.ofNat m2) * (3 : Int32))), (.ref r)])) _
    refine XS.iloadN X7.here hx rfl (hb hby d4_36) rfl ?_
    show Steps p.tables e below (T7.setTop (mkF m 37 #[.val (.ref a1), .val (.int (Int32.ofNat m1)), .val (.int (Int32.ofNat m2))] [(.int (Int32.ofNat m1)), (.int ((Int32.ofNat m2) * (3 : Int32))), (.ref r)])) _
    refine XS.bipush X7.here hx rfl (hb hby d4_37) ?_
    show Steps p.tables e below (T7.setTop (mkF m 39 #[.val (.ref a1), .val (.int (Int32.ofNat m1)), .val (.int (Int32.ofNat m2))] [(.int (64 : Int32)), (.int (Int32.ofNat m1)), (.int ((Int32.ofNat m2) * (3 : Int32))), (.ref r)])) _
    refine XS.idiv X7.here hx rfl (hb hby d4_39) rfl (by decide) ?_
    show Steps p.tables e below (T7.setTop (mkF m 40 #[.val (.ref a1), .val (.int (Int32.ofNat m1)), .val (.int (Int32.ofNat m2))] [(.int ((Int32.ofNat m1) / (64 : Int32))), (.int ((Int32.ofNat m2) * (3 : Int32))), (.ref r)])) _
    refine XS.iadd X7.here hx rfl (hb hby d4_40) rfl ?_
    show Steps p.tables e below (T7.setTop (mkF m 41 #[.val (.ref a1), .val (.int (Int32.ofNat m1)), .val (.int (Int32.ofNat m2))] [(.int (((Int32.ofNat m2) * (3 : Int32)) + ((Int32.ofNat m1) / (64 : Int32)))), (.ref r)])) _
    rw [own_ixeq m2 m1 (by assumption) (by assumption)]
    show Steps p.tables e below (T7.setTop (mkF m 41 #[.val (.ref a1), .val (.int (Int32.ofNat m1)), .val (.int (Int32.ofNat m2))] [(.int (Int32.ofNat (own_ix m2 m1))), (.ref r)])) _
    refine XT.dup2 X7.here hx rfl (hb hby d4_41) rfl rfl rfl ?_
    show Steps p.tables e below (T7.setTop (mkF m 42 #[.val (.ref a1), .val (.int (Int32.ofNat m1)), .val (.int (Int32.ofNat m2))] [(.int (Int32.ofNat (own_ix m2 m1))), (.ref r), (.int (Int32.ofNat (own_ix m2 m1))), (.ref r)])) _
    refine X7.laload hx (j := (Int32.ofNat (own_ix m2 m1))) (v := (.long ((own_clr f m1 m2) (own_ix m2 m1)))) (by rw [e7]; exact Ar6.1) (State.isArrayOf_alike hZ.alike Ar6.2.1) Ar6.2.2 (own_in S6 hj6) (own_at H6 hj6) (g := (mkF m 42 #[.val (.ref a1), .val (.int (Int32.ofNat m1)), .val (.int (Int32.ofNat m2))] [(.int (Int32.ofNat (own_ix m2 m1))), (.ref r), (.int (Int32.ofNat (own_ix m2 m1))), (.ref r)])) rfl rfl (hb hby d4_42) _ ?_
    show Steps p.tables e below (T7.setTop (mkF m 43 #[.val (.ref a1), .val (.int (Int32.ofNat m1)), .val (.int (Int32.ofNat m2))] [(.long ((own_clr f m1 m2) (own_ix m2 m1))), (.int (Int32.ofNat (own_ix m2 m1))), (.ref r)])) _
    refine XS.lconst X7.here hx rfl (hb hby d4_43) ?_
    show Steps p.tables e below (T7.setTop (mkF m 44 #[.val (.ref a1), .val (.int (Int32.ofNat m1)), .val (.int (Int32.ofNat m2))] [(.long (1 : Int64)), (.long ((own_clr f m1 m2) (own_ix m2 m1))), (.int (Int32.ofNat (own_ix m2 m1))), (.ref r)])) _
    refine XS.iloadN X7.here hx rfl (hb hby d4_44) rfl ?_
    show Steps p.tables e below (T7.setTop (mkF m 45 #[.val (.ref a1), .val (.int (Int32.ofNat m1)), .val (.int (Int32.ofNat m2))] [(.int (Int32.ofNat m1)), (.long (1 : Int64)), (.long ((own_clr f m1 m2) (own_ix m2 m1))), (.int (Int32.ofNat (own_ix m2 m1))), (.ref r)])) _
    refine XS.lshl X7.here hx rfl (hb hby d4_45) rfl ?_
    show Steps p.tables e below (T7.setTop (mkF m 46 #[.val (.ref a1), .val (.int (Int32.ofNat m1)), .val (.int (Int32.ofNat m2))] [(.long ((1 : Int64) <<< ((Int32.ofNat m1) &&& 0x3f).toInt64)), (.long ((own_clr f m1 m2) (own_ix m2 m1))), (.int (Int32.ofNat (own_ix m2 m1))), (.ref r)])) _
    refine X7.ldc2J hx hown (mvT hZ (hw _ (List.mem_of_getElem? (i := 25) rfl))) (g := (mkF m 46 #[.val (.ref a1), .val (.int (Int32.ofNat m1)), .val (.int (Int32.ofNat m2))] [(.long ((1 : Int64) <<< ((Int32.ofNat m1) &&& 0x3f).toInt64)), (.long ((own_clr f m1 m2) (own_ix m2 m1))), (.int (Int32.ofNat (own_ix m2 m1))), (.ref r)])) rfl (hb hby d4_46) ?_
    show Steps p.tables e below (T7.setTop (mkF m 49 #[.val (.ref a1), .val (.int (Int32.ofNat m1)), .val (.int (Int32.ofNat m2))] [(.long (-1 : Int64)), (.long ((1 : Int64) <<< ((Int32.ofNat m1) &&& 0x3f).toInt64)), (.long ((own_clr f m1 m2) (own_ix m2 m1))), (.int (Int32.ofNat (own_ix m2 m1))), (.ref r)])) _
    refine XS.lxor X7.here hx rfl (hb hby d4_49) rfl ?_
    show Steps p.tables e below (T7.setTop (mkF m 50 #[.val (.ref a1), .val (.int (Int32.ofNat m1)), .val (.int (Int32.ofNat m2))] [(.long (((1 : Int64) <<< ((Int32.ofNat m1) &&& 0x3f).toInt64) ^^^ (-1 : Int64))), (.long ((own_clr f m1 m2) (own_ix m2 m1))), (.int (Int32.ofNat (own_ix m2 m1))), (.ref r)])) _
    refine XS.land X7.here hx rfl (hb hby d4_50) rfl ?_
    show Steps p.tables e below (T7.setTop (mkF m 51 #[.val (.ref a1), .val (.int (Int32.ofNat m1)), .val (.int (Int32.ofNat m2))] [(.long (((own_clr f m1 m2) (own_ix m2 m1)) &&& (((1 : Int64) <<< ((Int32.ofNat m1) &&& 0x3f).toInt64) ^^^ (-1 : Int64)))), (.int (Int32.ofNat (own_ix m2 m1))), (.ref r)])) _
    refine st8 _ ?_
    show Steps p.tables e below (T8.setTop (mkF m 52 #[.val (.ref a1), .val (.int (Int32.ofNat m1)), .val (.int (Int32.ofNat m2))] [])) _
    exact X8.returnOut hx Bd.returns (hb hby d4_52) hr
  · show Q4 Z a1 (Int32.ofNat m1) (Int32.ofNat m2) m1 m2 r f h0 n0 _ T8.heap _
    rw [e8]
    exact ⟨rfl, N8, K8, V8'⟩
theorem d5_0 : decode prog_8_method_5_code 0 = .ok (.aload_n 0, 1) := by decide +kernel
theorem d5_1 : decode prog_8_method_5_code 1 = .ok (.getfield 15, 3) := by decide +kernel
theorem d5_4 : decode prog_8_method_5_code 4 = .ok (.iload_n 1, 1) := by decide +kernel
theorem d5_5 : decode prog_8_method_5_code 5 = .ok (.aload_n 0, 1) := by decide +kernel
theorem d5_6 : decode prog_8_method_5_code 6 = .ok (.getfield 9, 3) := by decide +kernel
theorem d5_9 : decode prog_8_method_5_code 9 = .ok (.imul, 1) := by decide +kernel
theorem d5_10 : decode prog_8_method_5_code 10 = .ok (.iload_n 2, 1) := by decide +kernel
theorem d5_11 : decode prog_8_method_5_code 11 = .ok (.bipush 64, 2) := by decide +kernel
theorem d5_13 : decode prog_8_method_5_code 13 = .ok (.idiv, 1) := by decide +kernel
theorem d5_14 : decode prog_8_method_5_code 14 = .ok (.iadd, 1) := by decide +kernel
theorem d5_15 : decode prog_8_method_5_code 15 = .ok (.laload, 1) := by decide +kernel
theorem d5_16 : decode prog_8_method_5_code 16 = .ok (.lconst 1, 1) := by decide +kernel
theorem d5_17 : decode prog_8_method_5_code 17 = .ok (.iload_n 2, 1) := by decide +kernel
theorem d5_18 : decode prog_8_method_5_code 18 = .ok (.lshl, 1) := by decide +kernel
theorem d5_19 : decode prog_8_method_5_code 19 = .ok (.land, 1) := by decide +kernel
theorem d5_20 : decode prog_8_method_5_code 20 = .ok (.lconst 0, 1) := by decide +kernel
theorem d5_21 : decode prog_8_method_5_code 21 = .ok (.lcmp, 1) := by decide +kernel
theorem d5_22 : decode prog_8_method_5_code 22 = .ok (.ifCond .eq 7, 3) := by decide +kernel
theorem d5_25 : decode prog_8_method_5_code 25 = .ok (.iconst 1, 1) := by decide +kernel
theorem d5_26 : decode prog_8_method_5_code 26 = .ok (.goto 4, 3) := by decide +kernel
theorem d5_29 : decode prog_8_method_5_code 29 = .ok (.iconst 0, 1) := by decide +kernel
theorem d5_30 : decode prog_8_method_5_code 30 = .ok (.ireturn, 1) := by decide +kernel
theorem pn_5 : plainName "com/example/tourbound/tourbound/core/EdgeSet" = true := by first | (simp [plainName, overriddenIn]; done) | decide +kernel
theorem ef_5 (m : MethodId) (a1 : Addr) (p1 : Int32) (p2 : Int32) : entryFrame m #[(.ref a1), (.int p1), (.int p2)] 3 = (mkF m 0 #[.val (.ref a1), .val (.int p1), .val (.int p2)] []) := by first | (simp [entryFrame, mkF, argsToLocals, Value.category]; done) | rfl
def Q5 (Z : State) (a1 : Addr) (p1 : Int32) (p2 : Int32) (m1 m2 : Nat) (r : Addr) (f : Nat → Int64) (h0 : Heap) (n0 : Nat) (v : Option Value) (h : Heap) (L : List Loc) : Prop := v = some (.int (own_b (¬ (f (own_ix m1 m2) &&& own_bit m2) = (0 : Int64)))) ∧ Fr n0 L ∧ h = h0
set_option maxRecDepth 65536 in
set_option maxHeartbeats 40000000 in
theorem rm5 (l : Launch) (Z : State) (a0 : Array Value) (hw : ∀ d ∈ tables_1, d.before a0 Z = true) (ws : List Jvm.Cond) (a1 : Addr) (p1 : Int32) (p2 : Int32) (m1 m2 : Nat) (r : Addr) (f : Nat → Int64) (h0 : Heap) (n0 : Nat) (Z0 : n0 ≤ h0.size) (i1 : p1 = Int32.ofNat m1) (i2 : p2 = Int32.ofNat m2) (l1 : m1 < 130) (l2 : m2 < 130) (F1 : Fld Z h0 a1 "com/example/tourbound/tourbound/core/EdgeSet" "words" "I" (.int 3)) (G1 : Fld Z h0 a1 "com/example/tourbound/tourbound/core/EdgeSet" "bits" "[J" (.ref r)) (V1 : own_arr Z h0 r f) (ne : a1 ≠ r) (gr : n0 ≤ r) :
    MetFree l (⟨"com/example/tourbound/tourbound/core/EdgeSet", "contains", "(II)Z"⟩ : MethodName) (head1 (Jvm.Cond.code (⟨"com/example/tourbound/tourbound/core/EdgeSet", "contains", "(II)Z"⟩ : MethodName) prog_8_method_5_code 3 (some .boolean) :: ws) ({ frames := 0, cells := 0, slots := 0, locals := 0 } : Room)) (fun a U => a = #[(.ref a1), (.int p1), (.int p2)] ∧ Z.Warmed39 U.vm ∧ U.heap = h0) (fun _ _ _ _ _ => True) (fun _ U o U' => ∃ v L, o = .returned v ∧ Q5 Z a1 p1 p2 m1 m2 r f h0 n0 v U'.heap L ∧ FrameEnd U o U' L ({ frames := 0, cells := 0, slots := 0, locals := 0 } : Room).cells ({ frames := 0, cells := 0, slots := 0, locals := 0 } : Room).slots) := by
  refine MetFree.of_bodySF (plainFor_of_name pn_5) hisR ?_
  intro p e s m args below meth c s₁ Bd hml0 hP hK
  obtain ⟨rfl, hZ, hh⟩ := hP
  have hx := Bd.exec
  have hby := Bd.bytes
  have hml : c.maxLocals = 3 := hml0
  have hown : s.vm.findClass "com/example/tourbound/tourbound/core/EdgeSet" = some m.cls := findClass_of_methodNamed Bd.named
  have hnm := (name_of_methodNamed Bd.named Bd.method).1
  have X0 : Stand p l e ({ frames := 0, cells := 0, slots := 0, locals := 0 } : Room) s m #[(.ref a1), (.int p1), (.int p2)] below meth c s₁ [] 0 0 := Stand.of_body Bd
  have e0 : s₁.heap = h0 := by rw [← hh, Bd.state]; rfl
  have N0 := Fr.nil n0
  have pre0 : ∀ t, Steps p.tables e below (s₁.setTop (mkF m 0 #[.val (.ref a1), .val (.int p1), .val (.int p2)] [])) t → Steps p.tables e below (s₁.setTop (entryFrame m #[(.ref a1), (.int p1), (.int p2)] 3)) t := fun t k => castTop (ef_5 m a1 p1 p2) k
  subst i1 i2
  obtain ⟨T3, X3, e3, st3⟩ := getF X0 hx hZ hown (host := "") (Or.inl (hw _ (List.mem_of_getElem? (i := 13) rfl))) Via.refl e0 G1 (g := (mkF m 1 #[.val (.ref a1), .val (.int (Int32.ofNat m1)), .val (.int (Int32.ofNat m2))] [(.ref a1)])) rfl rfl (hb hby d5_1)
  obtain ⟨T4, X4, e4, st4⟩ := getF X3 hx hZ hown (host := "") (Or.inl (hw _ (List.mem_of_getElem? (i := 10) rfl))) Via.refl e3 F1 (g := (mkF m 6 #[.val (.ref a1), .val (.int (Int32.ofNat m1)), .val (.int (Int32.ofNat m2))] [(.ref a1), (.int (Int32.ofNat m1)), (.ref r)])) rfl rfl (hb hby d5_6)
  obtain ⟨cl3, Ar3, S3, H3⟩ := id V1
  have hj3 : (own_ix m1 m2) < 390 := own_ixlt _ _ (by assumption) (by assumption)
  obtain ⟨fs, hr, hrun, hended, hW, hsame⟩ := X4.leave (v := some (.int (own_b (¬ (f (own_ix m1 m2) &&& own_bit m2) = (0 : Int64))))) (fun h => by rw [Bd.returns] at h; cases h)
  refine ⟨_, _, pre0 _ ?_, hrun, hended, _, _, rfl, ?_, ⟨_, rfl⟩, hW, hsame.mono (by decide) (by decide)⟩
  · show Steps p.tables e below (s₁.setTop (mkF m 0 #[.val (.ref a1), .val (.int (Int32.ofNat m1)), .val (.int (Int32.ofNat m2))] [])) _
    show Steps p.tables e below (s₁.setTop (mkF m 0 #[.val (.ref a1), .val (.int (Int32.ofNat m1)), .val (.int (Int32.ofNat m2))] [])) _
    refine XS.aloadN X0.here hx rfl (hb hby d5_0) rfl rfl ?_
    show Steps p.tables e below (s₁.setTop (mkF m 1 #[.val (.ref a1), .val (.int (Int32.ofNat m1)), .val (.int (Int32.ofNat m2))] [(.ref a1)])) _
    refine st3 _ ?_
    show Steps p.tables e below (T3.setTop (mkF m 4 #[.val (.ref a1), .val (.int (Int32.ofNat m1)), .val (.int (Int32.ofNat m2))] [(.ref r)])) _
    refine XS.iloadN X3.here hx rfl (hb hby d5_4) rfl ?_
    show Steps p.tables e below (T3.setTop (mkF m 5 #[.val (.ref a1), .val (.int (Int32.ofNat m1)), .val (.int (Int32.ofNat m2))] [(.int (Int32.ofNat m1)), (.ref r)])) _
    refine XS.aloadN X3.here hx rfl (hb hby d5_5) rfl rfl ?_
    show Steps p.tables e below (T3.setTop (mkF m 6 #[.val (.ref a1), .val (.int (Int32.ofNat m1)), .val (.int (Int32.ofNat m2))] [(.ref a1), (.int (Int32.ofNat m1)), (.ref r)])) _
    refine st4 _ ?_
    show Steps p.tables e below (T4.setTop (mkF m 9 #[.val (.ref a1), .val (.int (Int32.ofNat m1)), .val (.int (Int32.ofNat m2))] [(.int (3 : Int32)), (.int (Int32.ofNat m1)), (.ref r)])) _
    refine XS.imul X4.here hx rfl (hb hby d5_9) rfl ?_
    show Steps p.tables e below (T4.setTop (mkF m 10 #[.val (.ref a1), .val (.int (Int32.ofNat m1)), .val (.int (Int32.ofNat m2))] [(.int ((Int32.ofNat m1) * (3 : Int32))), (.ref r)])) _
    refine XS.iloadN X4.here hx rfl (hb hby d5_10) rfl ?_
    show Steps p.tables e below (T4.setTop (mkF m 11 #[.val (.ref a1), .val (.int (Int32.ofNat m1)), .val (.int (Int32.ofNat m2))] [(.int (Int32.ofNat m2)), (.int ((Int32.ofNat m1) * (3 : Int32))), (.ref r)])) _
    refine XS.bipush X4.here hx rfl (hb hby d5_11) ?_
    show Steps p.tables e below (T4.setTop (mkF m 13 #[.val (.ref a1), .val (.int (Int32.ofNat m1)), .val (.int (Int32.ofNat m2))] [(.int (64 : Int32)), (.int (Int32.ofNat m2)), (.int ((Int32.ofNat m1) * (3 : Int32))), (.ref r)])) _
    refine XS.idiv X4.here hx rfl (hb hby d5_13) rfl (by decide) ?_
    show Steps p.tables e below (T4.setTop (mkF m 14 #[.val (.ref a1), .val (.int (Int32.ofNat m1)), .val (.int (Int32.ofNat m2))] [(.int ((Int32.ofNat m2) / (64 : Int32))), (.int ((Int32.ofNat m1) * (3 : Int32))), (.ref r)])) _
    refine XS.iadd X4.here hx rfl (hb hby d5_14) rfl ?_
    show Steps p.tables e below (T4.setTop (mkF m 15 #[.val (.ref a1), .val (.int (Int32.ofNat m1)), .val (.int (Int32.ofNat m2))] [(.int (((Int32.ofNat m1) * (3 : Int32)) + ((Int32.ofNat m2) / (64 : Int32)))), (.ref r)])) _
    rw [own_ixeq m1 m2 (by assumption) (by assumption)]
    show Steps p.tables e below (T4.setTop (mkF m 15 #[.val (.ref a1), .val (.int (Int32.ofNat m1)), .val (.int (Int32.ofNat m2))] [(.int (Int32.ofNat (own_ix m1 m2))), (.ref r)])) _
    refine X4.laload hx (j := (Int32.ofNat (own_ix m1 m2))) (v := (.long (f (own_ix m1 m2)))) (by rw [e4]; exact Ar3.1) (State.isArrayOf_alike hZ.alike Ar3.2.1) Ar3.2.2 (own_in S3 hj3) (own_at H3 hj3) (g := (mkF m 15 #[.val (.ref a1), .val (.int (Int32.ofNat m1)), .val (.int (Int32.ofNat m2))] [(.int (Int32.ofNat (own_ix m1 m2))), (.ref r)])) rfl rfl (hb hby d5_15) _ ?_
    show Steps p.tables e below (T4.setTop (mkF m 16 #[.val (.ref a1), .val (.int (Int32.ofNat m1)), .val (.int (Int32.ofNat m2))] [(.long (f (own_ix m1 m2)))])) _
    refine XS.lconst X4.here hx rfl (hb hby d5_16) ?_
    show Steps p.tables e below (T4.setTop (mkF m 17 #[.val (.ref a1), .val (.int (Int32.ofNat m1)), .val (.int (Int32.ofNat m2))] [(.long (1 : Int64)), (.long (f (own_ix m1 m2)))])) _
    refine XS.iloadN X4.here hx rfl (hb hby d5_17) rfl ?_
    show Steps p.tables e below (T4.setTop (mkF m 18 #[.val (.ref a1), .val (.int (Int32.ofNat m1)), .val (.int (Int32.ofNat m2))] [(.int (Int32.ofNat m2)), (.long (1 : Int64)), (.long (f (own_ix m1 m2)))])) _
    refine XS.lshl X4.here hx rfl (hb hby d5_18) rfl ?_
    show Steps p.tables e below (T4.setTop (mkF m 19 #[.val (.ref a1), .val (.int (Int32.ofNat m1)), .val (.int (Int32.ofNat m2))] [(.long (own_bit m2)), (.long (f (own_ix m1 m2)))])) _
    refine XS.land X4.here hx rfl (hb hby d5_19) rfl ?_
    show Steps p.tables e below (T4.setTop (mkF m 20 #[.val (.ref a1), .val (.int (Int32.ofNat m1)), .val (.int (Int32.ofNat m2))] [(.long ((f (own_ix m1 m2)) &&& (own_bit m2)))])) _
    refine XS.lconst X4.here hx rfl (hb hby d5_20) ?_
    show Steps p.tables e below (T4.setTop (mkF m 21 #[.val (.ref a1), .val (.int (Int32.ofNat m1)), .val (.int (Int32.ofNat m2))] [(.long (0 : Int64)), (.long ((f (own_ix m1 m2)) &&& (own_bit m2)))])) _
    refine XS.lcmp X4.here hx rfl (hb hby d5_21) rfl ?_
    by_cases hc : (f (own_ix m1 m2) &&& own_bit m2) = (0 : Int64)
    · rw [own_bf (fun q => q hc)] at hr
      show Steps p.tables e below (T4.setTop (mkF m 22 #[.val (.ref a1), .val (.int (Int32.ofNat m1)), .val (.int (Int32.ofNat m2))] [(.int (lcmpW ((f (own_ix m1 m2)) &&& (own_bit m2)) (0 : Int64)))])) _
      refine XS.ifYes X4.here hx rfl (pc0 := 22) (pc' := 29) rfl (hb hby d5_22) rfl ((if0 _ _).trans (teq ((lw_eq _ _).mpr hc)).1) (by decide) (by decide) ?_
      show Steps p.tables e below (T4.setTop (mkF m 29 #[.val (.ref a1), .val (.int (Int32.ofNat m1)), .val (.int (Int32.ofNat m2))] [])) _
      refine XS.iconst X4.here hx rfl (hb hby d5_29) ?_
      show Steps p.tables e below (T4.setTop (mkF m 30 #[.val (.ref a1), .val (.int (Int32.ofNat m1)), .val (.int (Int32.ofNat m2))] [(.int (0 : Int32))])) _
      exact retN X4 hx (t := .boolean) Bd.returns (by simp) (hb hby d5_30) hr
    · rw [own_bt hc] at hr
      show Steps p.tables e below (T4.setTop (mkF m 22 #[.val (.ref a1), .val (.int (Int32.ofNat m1)), .val (.int (Int32.ofNat m2))] [(.int (lcmpW ((f (own_ix m1 m2)) &&& (own_bit m2)) (0 : Int64)))])) _
      refine XS.ifNo X4.here hx rfl (hb hby d5_22) rfl ((if0 _ _).trans (feq (fun q => hc ((lw_eq _ _).mp q))).1) ?_
      show Steps p.tables e below (T4.setTop (mkF m 25 #[.val (.ref a1), .val (.int (Int32.ofNat m1)), .val (.int (Int32.ofNat m2))] [])) _
      refine XS.iconst X4.here hx rfl (hb hby d5_25) ?_
      show Steps p.tables e below (T4.setTop (mkF m 26 #[.val (.ref a1), .val (.int (Int32.ofNat m1)), .val (.int (Int32.ofNat m2))] [(.int (1 : Int32))])) _
      refine XS.goto X4.here hx rfl (pc0 := 26) (pc' := 30) rfl (hb hby d5_26) (by decide) (by decide) ?_
      show Steps p.tables e below (T4.setTop (mkF m 30 #[.val (.ref a1), .val (.int (Int32.ofNat m1)), .val (.int (Int32.ofNat m2))] [(.int (1 : Int32))])) _
      exact retN X4 hx (t := .boolean) Bd.returns (by simp) (hb hby d5_30) hr
  · show Q5 Z a1 (Int32.ofNat m1) (Int32.ofNat m2) m1 m2 r f h0 n0 _ T4.heap _
    rw [e4]
    exact ⟨rfl, N0, rfl⟩
theorem pn_0 : plainName "com/example/tourbound/tourbound/core/EdgeSetRemovePinLaw" = true := by first | (simp [plainName, overriddenIn]; done) | decide +kernel
theorem ef_0 (m : MethodId) (p1 : Int32) (p2 : Int32) (p3 : Int32) (p4 : Int32) (p5 : Int32) : entryFrame m #[(.int p1), (.int p2), (.int p3), (.int p4), (.int p5)] maxLocals = (mkF m 0 #[.val (.int p1), .val (.int p2), .val (.int p3), .val (.int p4), .val (.int p5), .unset, .unset, .unset, .unset, .unset, .unset, .unset, .unset, .unset] []) := by first | (simp [entryFrame, mkF, argsToLocals, Value.category, maxLocals]; done) | rfl
def Q0 (Z : State) (p1 : Int32) (p2 : Int32) (p3 : Int32) (p4 : Int32) (p5 : Int32)  (h0 : Heap) (n0 : Nat) (v : Option Value) (h : Heap) (L : List Loc) : Prop := v = some (.int 1) ∧ Fr n0 L
set_option maxRecDepth 65536 in
set_option maxHeartbeats 40000000 in
theorem rm0 (l : Launch) (Z : State) (a0 : Array Value) (hw : ∀ d ∈ tables_1, d.before a0 Z = true) (ws : List Jvm.Cond) (p1 : Int32) (p2 : Int32) (p3 : Int32) (p4 : Int32) (p5 : Int32)  (h0 : Heap) (n0 : Nat) (Z0 : n0 ≤ h0.size)  :
    MetFree l x (head1 (Jvm.Cond.code x code maxLocals ret :: ws) room_1) (fun a U => a = #[(.int p1), (.int p2), (.int p3), (.int p4), (.int p5)] ∧ Z.Warmed39 U.vm ∧ U.heap = h0) (fun _ _ _ _ _ => True) (fun _ U o U' => ∃ v L, o = .returned v ∧ Q0 Z p1 p2 p3 p4 p5  h0 n0 v U'.heap L ∧ FrameEnd U o U' L 2 392) := by
  refine MetFree.of_bodySF (plainFor_of_name pn_0) hisR ?_
  intro p e s m args below meth c s₁ Bd hml0 hP hK
  obtain ⟨rfl, hZ, hh⟩ := hP
  have hx := Bd.exec
  have hby := Bd.bytes
  have hml : c.maxLocals = 14 := hml0
  have hown : s.vm.findClass "com/example/tourbound/tourbound/core/EdgeSetRemovePinLaw" = some m.cls := findClass_of_methodNamed Bd.named
  have hnm := (name_of_methodNamed Bd.named Bd.method).1
  have X0 : Stand p l e room_1 s m #[(.int p1), (.int p2), (.int p3), (.int p4), (.int p5)] below meth c s₁ [] 0 0 := Stand.of_body Bd
  have e0 : s₁.heap = h0 := by rw [← hh, Bd.state]; rfl
  have N0 := Fr.nil n0
  have pre0 : ∀ t, Steps p.tables e below (s₁.setTop (mkF m 0 #[.val (.int p1), .val (.int p2), .val (.int p3), .val (.int p4), .val (.int p5), .unset, .unset, .unset, .unset, .unset, .unset, .unset, .unset, .unset] [])) t → Steps p.tables e below (s₁.setTop (entryFrame m #[(.int p1), (.int p2), (.int p3), (.int p4), (.int p5)] maxLocals)) t := fun t k => castTop (ef_0 m p1 p2 p3 p4 p5) k
  obtain ⟨na, lna, ina⟩ := own_130 p1
  obtain ⟨nb, lnb, inb⟩ := own_130 p2
  obtain ⟨nc, lnc, inc⟩ := own_130 p3
  obtain ⟨nd, lnd, ind⟩ := own_130 p4
  have sg40 : ∀ t, Steps p.tables e below (s₁.setTop (mkF m 52 #[.val (.int p1), .val (.int p2), .val (.int p3), .val (.int p4), .val (.int p5), .val (.int (Int32.ofNat na)), .val (.int (Int32.ofNat nb)), .val (.int (Int32.ofNat nc)), .val (.int (Int32.ofNat nd)), .unset, .unset, .unset, .unset, .unset] [(.int (own_b (¬ (p5 &&& (1 : Int32)) = 0)))])) t → Steps p.tables e below (s₁.setTop (mkF m 40 #[.val (.int p1), .val (.int p2), .val (.int p3), .val (.int p4), .val (.int p5), .val (.int (Int32.ofNat na)), .val (.int (Int32.ofNat nb)), .val (.int (Int32.ofNat nc)), .val (.int (Int32.ofNat nd)), .unset, .unset, .unset, .unset, .unset] [])) t := by
    intro t k
    by_cases hc : (p5 &&& (1 : Int32)) = 0
    · rw [own_bf (fun q => q hc)] at k
      show Steps p.tables e below (s₁.setTop (mkF m 40 #[.val (.int p1), .val (.int p2), .val (.int p3), .val (.int p4), .val (.int p5), .val (.int (Int32.ofNat na)), .val (.int (Int32.ofNat nb)), .val (.int (Int32.ofNat nc)), .val (.int (Int32.ofNat nd)), .unset, .unset, .unset, .unset, .unset] [])) _
      refine XS.iload X0.here hx rfl (hb hby at_40) rfl ?_
      show Steps p.tables e below (s₁.setTop (mkF m 42 #[.val (.int p1), .val (.int p2), .val (.int p3), .val (.int p4), .val (.int p5), .val (.int (Int32.ofNat na)), .val (.int (Int32.ofNat nb)), .val (.int (Int32.ofNat nc)), .val (.int (Int32.ofNat nd)), .unset, .unset, .unset, .unset, .unset] [(.int p5)])) _
      refine XS.iconst X0.here hx rfl (hb hby at_42) ?_
      show Steps p.tables e below (s₁.setTop (mkF m 43 #[.val (.int p1), .val (.int p2), .val (.int p3), .val (.int p4), .val (.int p5), .val (.int (Int32.ofNat na)), .val (.int (Int32.ofNat nb)), .val (.int (Int32.ofNat nc)), .val (.int (Int32.ofNat nd)), .unset, .unset, .unset, .unset, .unset] [(.int (1 : Int32)), (.int p5)])) _
      refine XS.iand X0.here hx rfl (hb hby at_43) rfl ?_
      show Steps p.tables e below (s₁.setTop (mkF m 44 #[.val (.int p1), .val (.int p2), .val (.int p3), .val (.int p4), .val (.int p5), .val (.int (Int32.ofNat na)), .val (.int (Int32.ofNat nb)), .val (.int (Int32.ofNat nc)), .val (.int (Int32.ofNat nd)), .unset, .unset, .unset, .unset, .unset] [(.int (p5 &&& (1 : Int32)))])) _
      refine XS.ifYes X0.here hx rfl (pc0 := 44) (pc' := 51) rfl (hb hby at_44) rfl ((if0 _ _).trans (teq hc).1) (by decide) (by decide) ?_
      show Steps p.tables e below (s₁.setTop (mkF m 51 #[.val (.int p1), .val (.int p2), .val (.int p3), .val (.int p4), .val (.int p5), .val (.int (Int32.ofNat na)), .val (.int (Int32.ofNat nb)), .val (.int (Int32.ofNat nc)), .val (.int (Int32.ofNat nd)), .unset, .unset, .unset, .unset, .unset] [])) _
      refine XS.iconst X0.here hx rfl (hb hby at_51) ?_
      exact k
    · rw [own_bt hc] at k
      show Steps p.tables e below (s₁.setTop (mkF m 40 #[.val (.int p1), .val (.int p2), .val (.int p3), .val (.int p4), .val (.int p5), .val (.int (Int32.ofNat na)), .val (.int (Int32.ofNat nb)), .val (.int (Int32.ofNat nc)), .val (.int (Int32.ofNat nd)), .unset, .unset, .unset, .unset, .unset] [])) _
      refine XS.iload X0.here hx rfl (hb hby at_40) rfl ?_
      show Steps p.tables e below (s₁.setTop (mkF m 42 #[.val (.int p1), .val (.int p2), .val (.int p3), .val (.int p4), .val (.int p5), .val (.int (Int32.ofNat na)), .val (.int (Int32.ofNat nb)), .val (.int (Int32.ofNat nc)), .val (.int (Int32.ofNat nd)), .unset, .unset, .unset, .unset, .unset] [(.int p5)])) _
      refine XS.iconst X0.here hx rfl (hb hby at_42) ?_
      show Steps p.tables e below (s₁.setTop (mkF m 43 #[.val (.int p1), .val (.int p2), .val (.int p3), .val (.int p4), .val (.int p5), .val (.int (Int32.ofNat na)), .val (.int (Int32.ofNat nb)), .val (.int (Int32.ofNat nc)), .val (.int (Int32.ofNat nd)), .unset, .unset, .unset, .unset, .unset] [(.int (1 : Int32)), (.int p5)])) _
      refine XS.iand X0.here hx rfl (hb hby at_43) rfl ?_
      show Steps p.tables e below (s₁.setTop (mkF m 44 #[.val (.int p1), .val (.int p2), .val (.int p3), .val (.int p4), .val (.int p5), .val (.int (Int32.ofNat na)), .val (.int (Int32.ofNat nb)), .val (.int (Int32.ofNat nc)), .val (.int (Int32.ofNat nd)), .unset, .unset, .unset, .unset, .unset] [(.int (p5 &&& (1 : Int32)))])) _
      refine XS.ifNo X0.here hx rfl (hb hby at_44) rfl ((if0 _ _).trans (feq hc).1) ?_
      show Steps p.tables e below (s₁.setTop (mkF m 47 #[.val (.int p1), .val (.int p2), .val (.int p3), .val (.int p4), .val (.int p5), .val (.int (Int32.ofNat na)), .val (.int (Int32.ofNat nb)), .val (.int (Int32.ofNat nc)), .val (.int (Int32.ofNat nd)), .unset, .unset, .unset, .unset, .unset] [])) _
      refine XS.iconst X0.here hx rfl (hb hby at_47) ?_
      show Steps p.tables e below (s₁.setTop (mkF m 48 #[.val (.int p1), .val (.int p2), .val (.int p3), .val (.int p4), .val (.int p5), .val (.int (Int32.ofNat na)), .val (.int (Int32.ofNat nb)), .val (.int (Int32.ofNat nc)), .val (.int (Int32.ofNat nd)), .unset, .unset, .unset, .unset, .unset] [(.int (1 : Int32))])) _
      refine XS.goto X0.here hx rfl (pc0 := 48) (pc' := 52) rfl (hb hby at_48) (by decide) (by decide) ?_
      exact k
  obtain ⟨T1, h1, X1, e1, E1, A1, D1, -, st1⟩ := newO X0 hx hZ hown (hw _ (List.mem_of_getElem? (i := 1) rfl)) (hw _ (List.mem_of_getElem? (i := 2) rfl)) (hw _ (List.mem_of_getElem? (i := 3) rfl)) e0 (g := (mkF m 54 #[.val (.int p1), .val (.int p2), .val (.int p3), .val (.int p4), .val (.int p5), .val (.int (Int32.ofNat na)), .val (.int (Int32.ofNat nb)), .val (.int (Int32.ofNat nc)), .val (.int (Int32.ofNat nd)), .val (.int (own_b (¬ (p5 &&& (1 : Int32)) = 0))), .unset, .unset, .unset, .unset] [])) rfl (hb hby at_54) (by decide) (by decide)
  obtain ⟨b1, g1⟩ : ∃ z, z = h0.size := ⟨_, rfl⟩
  rw [← g1] at A1 D1 st1
  have F1 : Fld Z h1 b1 "com/example/tourbound/tourbound/core/EdgeSet" "words" "I" (.int (0 : Int32)) := D1 (Or.inr (hw _ (List.mem_of_getElem? (i := 11) rfl))) (ty := .int) (by decide)
  have G1 : Fld Z h1 b1 "com/example/tourbound/tourbound/core/EdgeSet" "bits" "[J" .null := D1 (Or.inr (hw _ (List.mem_of_getElem? (i := 14) rfl))) (ty := .array .long) (by decide)
  have Z1 : n0 ≤ h1.size := Nat.le_trans Z0 E1.1
  have gb : n0 ≤ b1 := Nat.le_trans Z0 (Nat.le_of_eq g1.symm)
  obtain ⟨_, _, ⟨T2, L2, k2, n2⟩, -, X2, ⟨Lc2, hQ2, l2, y2, z2⟩, st2⟩ := X1.specialBack hx (y := (⟨"com/example/tourbound/tourbound/core/EdgeSet", "<init>", "(I)V"⟩ : MethodName)) rfl hown (mvT hZ (hw _ (List.mem_of_getElem? (i := 4) rfl))) (mvT hZ (hw _ (List.mem_of_getElem? (i := 5) rfl))) (mvT hZ (hw _ (List.mem_of_getElem? (i := 6) rfl))) (by decide) (backOf (W := 1) (rm1 l Z a0 hw [] b1 130 h1 n0 Z1 rfl F1 G1 A1 gb) hZ (hw _ (List.mem_of_getElem? (i := 6) rfl)) (hw _ (List.mem_of_getElem? (i := 3) rfl)) (by decide) (by decide)) (g := (mkF m 61 #[.val (.int p1), .val (.int p2), .val (.int p3), .val (.int p4), .val (.int p5), .val (.int (Int32.ofNat na)), .val (.int (Int32.ofNat nb)), .val (.int (Int32.ofNat nc)), .val (.int (Int32.ofNat nd)), .val (.int (own_b (¬ (p5 &&& (1 : Int32)) = 0))), .unset, .unset, .unset, .unset] [(.int (130 : Int32)), (.ref b1), (.ref b1)])) rfl (by rw [hml]; rfl) (Steps.refl _) (a := b1) (argsL := [(.int (130 : Int32))]) (rest := [(.ref b1)]) (lenOf pd_oIcV rfl) rfl (by show 2 * 0 + _ ≤ _; exact Nat.le_of_eq rfl) (hb hby at_61) (fun _ _ => ⟨rfl, e1, (by decide : 1 + 1 ≤ _), (by decide : 2 + 390 ≤ _)⟩)
  dsimp only [Pt.U, Pt.locs, Pt.cells, Pt.slots] at X2 l2 y2 z2 st2 hQ2
  subst l2 y2 z2
  obtain ⟨rfl, N2q, K2, E2, F2, r, G2, V2, gr, ne⟩ := hQ2
  have N2 := Fr.app N0 N2q
  have Z2 : n0 ≤ T2.heap.size := Nat.le_trans Z1 K2.1
  obtain ⟨T4, L4, f4, X4, N4, Z4, E4, F4, G4, V4, hf4, st4⟩ : ∃ (T' : State) (L' : List Loc) (f : Nat → Int64), Stand p l e room_1 s m #[(.int p1), (.int p2), (.int p3), (.int p4), (.int p5)] below meth c T' L' 2 392 ∧ Fr n0 L' ∧ n0 ≤ T'.heap.size ∧ Exa Z T'.heap b1 "com/example/tourbound/tourbound/core/EdgeSet" ∧ Fld Z T'.heap b1 "com/example/tourbound/tourbound/core/EdgeSet" "words" "I" (.int 3) ∧ Fld Z T'.heap b1 "com/example/tourbound/tourbound/core/EdgeSet" "bits" "[J" (.ref r) ∧ own_arr Z T'.heap r f ∧ (∀ x y, y < 130 → own_has f x y → (x = na ∧ y = nb) ∨ (x = nb ∧ y = na)) ∧ ∀ t, Steps p.tables e below (T'.setTop (mkF m 80 #[.val (.int p1), .val (.int p2), .val (.int p3), .val (.int p4), .val (.int p5), .val (.int (Int32.ofNat na)), .val (.int (Int32.ofNat nb)), .val (.int (Int32.ofNat nc)), .val (.int (Int32.ofNat nd)), .val (.int (own_b (¬ (p5 &&& (1 : Int32)) = 0))), .val (.ref b1), .unset, .unset, .unset] [])) t → Steps p.tables e below (T2.setTop (mkF m 66 #[.val (.int p1), .val (.int p2), .val (.int p3), .val (.int p4), .val (.int p5), .val (.int (Int32.ofNat na)), .val (.int (Int32.ofNat nb)), .val (.int (Int32.ofNat nc)), .val (.int (Int32.ofNat nd)), .val (.int (own_b (¬ (p5 &&& (1 : Int32)) = 0))), .val (.ref b1), .unset, .unset, .unset] [])) t := by
    by_cases hf0 : (p5 &&& (1 : Int32)) = 0
    · have hf : (own_b (¬ (p5 &&& (1 : Int32)) = 0)) = 0 := own_bf (fun q => q hf0)
      refine ⟨T2, _, _, X2, N2, Z2, E2, F2, G2, V2, fun x y _ q => absurd q (own_has_0 x y), fun t k => ?_⟩
      show Steps p.tables e below (T2.setTop (mkF m 66 #[.val (.int p1), .val (.int p2), .val (.int p3), .val (.int p4), .val (.int p5), .val (.int (Int32.ofNat na)), .val (.int (Int32.ofNat nb)), .val (.int (Int32.ofNat nc)), .val (.int (Int32.ofNat nd)), .val (.int (own_b (¬ (p5 &&& (1 : Int32)) = 0))), .val (.ref b1), .unset, .unset, .unset] [])) _
      refine XS.iload X2.here hx rfl (hb hby at_66) rfl ?_
      show Steps p.tables e below (T2.setTop (mkF m 68 #[.val (.int p1), .val (.int p2), .val (.int p3), .val (.int p4), .val (.int p5), .val (.int (Int32.ofNat na)), .val (.int (Int32.ofNat nb)), .val (.int (Int32.ofNat nc)), .val (.int (Int32.ofNat nd)), .val (.int (own_b (¬ (p5 &&& (1 : Int32)) = 0))), .val (.ref b1), .unset, .unset, .unset] [(.int (own_b (¬ (p5 &&& (1 : Int32)) = 0)))])) _
      refine XS.ifYes X2.here hx rfl (pc0 := 68) (pc' := 80) rfl (hb hby at_68) rfl ((if0 _ _).trans (teq hf).1) (by decide) (by decide) ?_
      exact k
    · have hf : ¬ (own_b (¬ (p5 &&& (1 : Int32)) = 0)) = 0 := by rw [own_bt hf0]; decide
      obtain ⟨cq3, kq3, q3a, q3b, q3c⟩ := isOf hZ rfl E2
      obtain ⟨_, _, ⟨T3, L3, k3, n3⟩, -, X3, ⟨Lc3, hQ3, l3, y3, z3⟩, st3⟩ := X2.virtualBack hx (y := (⟨"com/example/tourbound/tourbound/core/EdgeSet", "add", "(II)V"⟩ : MethodName)) (z := (⟨"com/example/tourbound/tourbound/core/EdgeSet", "add", "(II)V"⟩ : MethodName)) hown (mvT hZ (hw _ (List.mem_of_getElem? (i := 15) rfl))) (mvT hZ (hw _ (List.mem_of_getElem? (i := 16) rfl))) (notFace_of_selects (args := #[]) (mvT hZ (hw _ (List.mem_of_getElem? (i := 18) rfl)))) (mvT hZ (hw _ (List.mem_of_getElem? (i := 18) rfl))) (mvT hZ (hw _ (List.mem_of_getElem? (i := 17) rfl))) (by decide) (backOf (W := 0) (rm3 l Z a0 hw [] b1 (Int32.ofNat na) (Int32.ofNat nb) na nb r (fun _ => 0) T2.heap n0 Z2 rfl rfl lna lnb F2 G2 V2 ne gr) hZ (hw _ (List.mem_of_getElem? (i := 19) rfl)) (hw _ (List.mem_of_getElem? (i := 3) rfl)) (by decide) (by decide)) q3a q3c (g := (mkF m 77 #[.val (.int p1), .val (.int p2), .val (.int p3), .val (.int p4), .val (.int p5), .val (.int (Int32.ofNat na)), .val (.int (Int32.ofNat nb)), .val (.int (Int32.ofNat nc)), .val (.int (Int32.ofNat nd)), .val (.int (own_b (¬ (p5 &&& (1 : Int32)) = 0))), .val (.ref b1), .unset, .unset, .unset] [(.int (Int32.ofNat nb)), (.int (Int32.ofNat na)), (.ref b1)])) rfl (by rw [hml]; rfl) (Steps.refl _) (argsL := [(.int (Int32.ofNat na)), (.int (Int32.ofNat nb))]) (rest := []) (lenOf pd_oIIcV rfl) rfl (by show 2 * 0 + _ ≤ _; exact Nat.le_of_eq rfl) (hb hby at_77) (fun _ _ => ⟨rfl, rfl, (by decide : 2 + 0 ≤ _), (by decide : 392 + 0 ≤ _)⟩)
      dsimp only [Pt.U, Pt.locs, Pt.cells, Pt.slots] at X3 l3 y3 z3 st3 hQ3
      subst l3 y3 z3
      obtain ⟨rfl, N3q, K3, V3⟩ := hQ3
      have N3 := Fr.app N2 N3q
      refine ⟨T3, _, _, X3, N3, Nat.le_trans Z2 K3.1, E2.keep K3, F2.keep K3 (own_nin ne), G2.keep K3 (own_nin ne), V3, fun x y hy q => ?_, fun t k => ?_⟩
      · rcases (own_has_add _ lna lnb hy).mp q with q | q | q
        · exact absurd q (own_has_0 x y)
        · exact Or.inl q
        · exact Or.inr q
      · show Steps p.tables e below (T2.setTop (mkF m 66 #[.val (.int p1), .val (.int p2), .val (.int p3), .val (.int p4), .val (.int p5), .val (.int (Int32.ofNat na)), .val (.int (Int32.ofNat nb)), .val (.int (Int32.ofNat nc)), .val (.int (Int32.ofNat nd)), .val (.int (own_b (¬ (p5 &&& (1 : Int32)) = 0))), .val (.ref b1), .unset, .unset, .unset] [])) _
        refine XS.iload X2.here hx rfl (hb hby at_66) rfl ?_
        show Steps p.tables e below (T2.setTop (mkF m 68 #[.val (.int p1), .val (.int p2), .val (.int p3), .val (.int p4), .val (.int p5), .val (.int (Int32.ofNat na)), .val (.int (Int32.ofNat nb)), .val (.int (Int32.ofNat nc)), .val (.int (Int32.ofNat nd)), .val (.int (own_b (¬ (p5 &&& (1 : Int32)) = 0))), .val (.ref b1), .unset, .unset, .unset] [(.int (own_b (¬ (p5 &&& (1 : Int32)) = 0)))])) _
        refine XS.ifNo X2.here hx rfl (hb hby at_68) rfl ((if0 _ _).trans (feq hf).1) ?_
        show Steps p.tables e below (T2.setTop (mkF m 71 #[.val (.int p1), .val (.int p2), .val (.int p3), .val (.int p4), .val (.int p5), .val (.int (Int32.ofNat na)), .val (.int (Int32.ofNat nb)), .val (.int (Int32.ofNat nc)), .val (.int (Int32.ofNat nd)), .val (.int (own_b (¬ (p5 &&& (1 : Int32)) = 0))), .val (.ref b1), .unset, .unset, .unset] [])) _
        refine XS.aload X2.here hx rfl (hb hby at_71) rfl rfl ?_
        show Steps p.tables e below (T2.setTop (mkF m 73 #[.val (.int p1), .val (.int p2), .val (.int p3), .val (.int p4), .val (.int p5), .val (.int (Int32.ofNat na)), .val (.int (Int32.ofNat nb)), .val (.int (Int32.ofNat nc)), .val (.int (Int32.ofNat nd)), .val (.int (own_b (¬ (p5 &&& (1 : Int32)) = 0))), .val (.ref b1), .unset, .unset, .unset] [(.ref b1)])) _
        refine XS.iload X2.here hx rfl (hb hby at_73) rfl ?_
        show Steps p.tables e below (T2.setTop (mkF m 75 #[.val (.int p1), .val (.int p2), .val (.int p3), .val (.int p4), .val (.int p5), .val (.int (Int32.ofNat na)), .val (.int (Int32.ofNat nb)), .val (.int (Int32.ofNat nc)), .val (.int (Int32.ofNat nd)), .val (.int (own_b (¬ (p5 &&& (1 : Int32)) = 0))), .val (.ref b1), .unset, .unset, .unset] [(.int (Int32.ofNat na)), (.ref b1)])) _
        refine XS.iload X2.here hx rfl (hb hby at_75) rfl ?_
        show Steps p.tables e below (T2.setTop (mkF m 77 #[.val (.int p1), .val (.int p2), .val (.int p3), .val (.int p4), .val (.int p5), .val (.int (Int32.ofNat na)), .val (.int (Int32.ofNat nb)), .val (.int (Int32.ofNat nc)), .val (.int (Int32.ofNat nd)), .val (.int (own_b (¬ (p5 &&& (1 : Int32)) = 0))), .val (.ref b1), .unset, .unset, .unset] [(.int (Int32.ofNat nb)), (.int (Int32.ofNat na)), (.ref b1)])) _
        refine st3.trans ?_
        exact k
  obtain ⟨cq5, kq5, q5a, q5b, q5c⟩ := isOf hZ rfl E4
  obtain ⟨_, _, ⟨T5, L5, k5, n5⟩, -, X5, ⟨Lc5, hQ5, l5, y5, z5⟩, st5⟩ := X4.virtualBack hx (y := (⟨"com/example/tourbound/tourbound/core/EdgeSet", "add", "(II)V"⟩ : MethodName)) (z := (⟨"com/example/tourbound/tourbound/core/EdgeSet", "add", "(II)V"⟩ : MethodName)) hown (mvT hZ (hw _ (List.mem_of_getElem? (i := 15) rfl))) (mvT hZ (hw _ (List.mem_of_getElem? (i := 16) rfl))) (notFace_of_selects (args := #[]) (mvT hZ (hw _ (List.mem_of_getElem? (i := 18) rfl)))) (mvT hZ (hw _ (List.mem_of_getElem? (i := 18) rfl))) (mvT hZ (hw _ (List.mem_of_getElem? (i := 17) rfl))) (by decide) (backOf (W := 0) (rm3 l Z a0 hw [] b1 (Int32.ofNat nc) (Int32.ofNat nd) nc nd r f4 T4.heap n0 Z4 rfl rfl lnc lnd F4 G4 V4 ne gr) hZ (hw _ (List.mem_of_getElem? (i := 19) rfl)) (hw _ (List.mem_of_getElem? (i := 3) rfl)) (by decide) (by decide)) q5a q5c (g := (mkF m 86 #[.val (.int p1), .val (.int p2), .val (.int p3), .val (.int p4), .val (.int p5), .val (.int (Int32.ofNat na)), .val (.int (Int32.ofNat nb)), .val (.int (Int32.ofNat nc)), .val (.int (Int32.ofNat nd)), .val (.int (own_b (¬ (p5 &&& (1 : Int32)) = 0))), .val (.ref b1), .unset, .unset, .unset] [(.int (Int32.ofNat nd)), (.int (Int32.ofNat nc)), (.ref b1)])) rfl (by rw [hml]; rfl) (Steps.refl _) (argsL := [(.int (Int32.ofNat nc)), (.int (Int32.ofNat nd))]) (rest := []) (lenOf pd_oIIcV rfl) rfl (by show 2 * 0 + _ ≤ _; exact Nat.le_of_eq rfl) (hb hby at_86) (fun _ _ => ⟨rfl, rfl, (by decide : 2 + 0 ≤ _), (by decide : 392 + 0 ≤ _)⟩)
  dsimp only [Pt.U, Pt.locs, Pt.cells, Pt.slots] at X5 l5 y5 z5 st5 hQ5
  subst l5 y5 z5
  obtain ⟨rfl, N5q, K5, V5⟩ := hQ5
  have N5 := Fr.app N4 N5q
  have Z5 := Nat.le_trans Z4 K5.1
  have E5 := E4.keep K5
  have F5 := F4.keep K5 (own_nin ne)
  have G5 := G4.keep K5 (own_nin ne)
  obtain ⟨cq6, kq6, q6a, q6b, q6c⟩ := isOf hZ rfl E5
  obtain ⟨_, _, ⟨T6, L6, k6, n6⟩, -, X6, ⟨Lc6, hQ6, l6, y6, z6⟩, st6⟩ := X5.virtualBack hx (y := (⟨"com/example/tourbound/tourbound/core/EdgeSet", "remove", "(II)V"⟩ : MethodName)) (z := (⟨"com/example/tourbound/tourbound/core/EdgeSet", "remove", "(II)V"⟩ : MethodName)) hown (mvT hZ (hw _ (List.mem_of_getElem? (i := 20) rfl))) (mvT hZ (hw _ (List.mem_of_getElem? (i := 21) rfl))) (notFace_of_selects (args := #[]) (mvT hZ (hw _ (List.mem_of_getElem? (i := 23) rfl)))) (mvT hZ (hw _ (List.mem_of_getElem? (i := 23) rfl))) (mvT hZ (hw _ (List.mem_of_getElem? (i := 22) rfl))) (by decide) (backOf (W := 0) (rm4 l Z a0 hw [] b1 (Int32.ofNat na) (Int32.ofNat nb) na nb r (own_add f4 nc nd) T5.heap n0 Z5 rfl rfl lna lnb F5 G5 V5 ne gr) hZ (hw _ (List.mem_of_getElem? (i := 24) rfl)) (hw _ (List.mem_of_getElem? (i := 3) rfl)) (by decide) (by decide)) q6a q6c (g := (mkF m 95 #[.val (.int p1), .val (.int p2), .val (.int p3), .val (.int p4), .val (.int p5), .val (.int (Int32.ofNat na)), .val (.int (Int32.ofNat nb)), .val (.int (Int32.ofNat nc)), .val (.int (Int32.ofNat nd)), .val (.int (own_b (¬ (p5 &&& (1 : Int32)) = 0))), .val (.ref b1), .unset, .unset, .unset] [(.int (Int32.ofNat nb)), (.int (Int32.ofNat na)), (.ref b1)])) rfl (by rw [hml]; rfl) (Steps.refl _) (argsL := [(.int (Int32.ofNat na)), (.int (Int32.ofNat nb))]) (rest := []) (lenOf pd_oIIcV rfl) rfl (by show 2 * 0 + _ ≤ _; exact Nat.le_of_eq rfl) (hb hby at_95) (fun _ _ => ⟨rfl, rfl, (by decide : 2 + 0 ≤ _), (by decide : 392 + 0 ≤ _)⟩)
  dsimp only [Pt.U, Pt.locs, Pt.cells, Pt.slots] at X6 l6 y6 z6 st6 hQ6
  subst l6 y6 z6
  obtain ⟨rfl, N6q, K6, V6⟩ := hQ6
  have N6 := Fr.app N5 N6q
  have Z6 := Nat.le_trans Z5 K6.1
  have E6 := E5.keep K6
  have F6 := F5.keep K6 (own_nin ne)
  have G6 := G5.keep K6 (own_nin ne)
  have sg98 : ∀ t, Steps p.tables e below (T6.setTop (mkF m 131 #[.val (.int p1), .val (.int p2), .val (.int p3), .val (.int p4), .val (.int p5), .val (.int (Int32.ofNat na)), .val (.int (Int32.ofNat nb)), .val (.int (Int32.ofNat nc)), .val (.int (Int32.ofNat nd)), .val (.int (own_b (¬ (p5 &&& (1 : Int32)) = 0))), .val (.ref b1), .unset, .unset, .unset] [(.int (own_b ((nc = na ∧ nd = nb) ∨ (nc = nb ∧ nd = na))))])) t → Steps p.tables e below (T6.setTop (mkF m 98 #[.val (.int p1), .val (.int p2), .val (.int p3), .val (.int p4), .val (.int p5), .val (.int (Int32.ofNat na)), .val (.int (Int32.ofNat nb)), .val (.int (Int32.ofNat nc)), .val (.int (Int32.ofNat nd)), .val (.int (own_b (¬ (p5 &&& (1 : Int32)) = 0))), .val (.ref b1), .unset, .unset, .unset] [])) t := by
    intro t k
    by_cases c1 : nc = na
    · by_cases c2 : nd = nb
      · rw [own_bt (P := ((nc = na ∧ nd = nb) ∨ (nc = nb ∧ nd = na))) (Or.inl ⟨c1, c2⟩)] at k
        show Steps p.tables e below (T6.setTop (mkF m 98 #[.val (.int p1), .val (.int p2), .val (.int p3), .val (.int p4), .val (.int p5), .val (.int (Int32.ofNat na)), .val (.int (Int32.ofNat nb)), .val (.int (Int32.ofNat nc)), .val (.int (Int32.ofNat nd)), .val (.int (own_b (¬ (p5 &&& (1 : Int32)) = 0))), .val (.ref b1), .unset, .unset, .unset] [])) _
        refine XS.iload X6.here hx rfl (hb hby at_98) rfl ?_
        show Steps p.tables e below (T6.setTop (mkF m 100 #[.val (.int p1), .val (.int p2), .val (.int p3), .val (.int p4), .val (.int p5), .val (.int (Int32.ofNat na)), .val (.int (Int32.ofNat nb)), .val (.int (Int32.ofNat nc)), .val (.int (Int32.ofNat nd)), .val (.int (own_b (¬ (p5 &&& (1 : Int32)) = 0))), .val (.ref b1), .unset, .unset, .unset] [(.int (Int32.ofNat nc))])) _
        refine XS.iload X6.here hx rfl (hb hby at_100) rfl ?_
        show Steps p.tables e below (T6.setTop (mkF m 102 #[.val (.int p1), .val (.int p2), .val (.int p3), .val (.int p4), .val (.int p5), .val (.int (Int32.ofNat na)), .val (.int (Int32.ofNat nb)), .val (.int (Int32.ofNat nc)), .val (.int (Int32.ofNat nd)), .val (.int (own_b (¬ (p5 &&& (1 : Int32)) = 0))), .val (.ref b1), .unset, .unset, .unset] [(.int (Int32.ofNat na)), (.int (Int32.ofNat nc))])) _
        refine XS.icmpNo X6.here hx rfl (hb hby at_102) rfl (teq ((own_ofNat lnc lna).mpr c1)).2 ?_
        show Steps p.tables e below (T6.setTop (mkF m 105 #[.val (.int p1), .val (.int p2), .val (.int p3), .val (.int p4), .val (.int p5), .val (.int (Int32.ofNat na)), .val (.int (Int32.ofNat nb)), .val (.int (Int32.ofNat nc)), .val (.int (Int32.ofNat nd)), .val (.int (own_b (¬ (p5 &&& (1 : Int32)) = 0))), .val (.ref b1), .unset, .unset, .unset] [])) _
        refine XS.iload X6.here hx rfl (hb hby at_105) rfl ?_
        show Steps p.tables e below (T6.setTop (mkF m 107 #[.val (.int p1), .val (.int p2), .val (.int p3), .val (.int p4), .val (.int p5), .val (.int (Int32.ofNat na)), .val (.int (Int32.ofNat nb)), .val (.int (Int32.ofNat nc)), .val (.int (Int32.ofNat nd)), .val (.int (own_b (¬ (p5 &&& (1 : Int32)) = 0))), .val (.ref b1), .unset, .unset, .unset] [(.int (Int32.ofNat nd))])) _
        refine XS.iload X6.here hx rfl (hb hby at_107) rfl ?_
        show Steps p.tables e below (T6.setTop (mkF m 109 #[.val (.int p1), .val (.int p2), .val (.int p3), .val (.int p4), .val (.int p5), .val (.int (Int32.ofNat na)), .val (.int (Int32.ofNat nb)), .val (.int (Int32.ofNat nc)), .val (.int (Int32.ofNat nd)), .val (.int (own_b (¬ (p5 &&& (1 : Int32)) = 0))), .val (.ref b1), .unset, .unset, .unset] [(.int (Int32.ofNat nb)), (.int (Int32.ofNat nd))])) _
        refine XS.icmpYes X6.here hx rfl (pc0 := 109) (pc' := 126) rfl (hb hby at_109) rfl (teq ((own_ofNat lnd lnb).mpr c2)).1 (by decide) (by decide) ?_
        show Steps p.tables e below (T6.setTop (mkF m 126 #[.val (.int p1), .val (.int p2), .val (.int p3), .val (.int p4), .val (.int p5), .val (.int (Int32.ofNat na)), .val (.int (Int32.ofNat nb)), .val (.int (Int32.ofNat nc)), .val (.int (Int32.ofNat nd)), .val (.int (own_b (¬ (p5 &&& (1 : Int32)) = 0))), .val (.ref b1), .unset, .unset, .unset] [])) _
        refine XS.iconst X6.here hx rfl (hb hby at_126) ?_
        show Steps p.tables e below (T6.setTop (mkF m 127 #[.val (.int p1), .val (.int p2), .val (.int p3), .val (.int p4), .val (.int p5), .val (.int (Int32.ofNat na)), .val (.int (Int32.ofNat nb)), .val (.int (Int32.ofNat nc)), .val (.int (Int32.ofNat nd)), .val (.int (own_b (¬ (p5 &&& (1 : Int32)) = 0))), .val (.ref b1), .unset, .unset, .unset] [(.int (1 : Int32))])) _
        refine XS.goto X6.here hx rfl (pc0 := 127) (pc' := 131) rfl (hb hby at_127) (by decide) (by decide) ?_
        exact k
      · have nab : ¬ (nc = na ∧ nd = nb) := fun q => c2 q.2
        by_cases c3 : nc = nb
        · by_cases c4 : nd = na
          · rw [own_bt (P := ((nc = na ∧ nd = nb) ∨ (nc = nb ∧ nd = na))) (Or.inr ⟨c3, c4⟩)] at k
            show Steps p.tables e below (T6.setTop (mkF m 98 #[.val (.int p1), .val (.int p2), .val (.int p3), .val (.int p4), .val (.int p5), .val (.int (Int32.ofNat na)), .val (.int (Int32.ofNat nb)), .val (.int (Int32.ofNat nc)), .val (.int (Int32.ofNat nd)), .val (.int (own_b (¬ (p5 &&& (1 : Int32)) = 0))), .val (.ref b1), .unset, .unset, .unset] [])) _
            refine XS.iload X6.here hx rfl (hb hby at_98) rfl ?_
            show Steps p.tables e below (T6.setTop (mkF m 100 #[.val (.int p1), .val (.int p2), .val (.int p3), .val (.int p4), .val (.int p5), .val (.int (Int32.ofNat na)), .val (.int (Int32.ofNat nb)), .val (.int (Int32.ofNat nc)), .val (.int (Int32.ofNat nd)), .val (.int (own_b (¬ (p5 &&& (1 : Int32)) = 0))), .val (.ref b1), .unset, .unset, .unset] [(.int (Int32.ofNat nc))])) _
            refine XS.iload X6.here hx rfl (hb hby at_100) rfl ?_
            show Steps p.tables e below (T6.setTop (mkF m 102 #[.val (.int p1), .val (.int p2), .val (.int p3), .val (.int p4), .val (.int p5), .val (.int (Int32.ofNat na)), .val (.int (Int32.ofNat nb)), .val (.int (Int32.ofNat nc)), .val (.int (Int32.ofNat nd)), .val (.int (own_b (¬ (p5 &&& (1 : Int32)) = 0))), .val (.ref b1), .unset, .unset, .unset] [(.int (Int32.ofNat na)), (.int (Int32.ofNat nc))])) _
            refine XS.icmpNo X6.here hx rfl (hb hby at_102) rfl (teq ((own_ofNat lnc lna).mpr c1)).2 ?_
            show Steps p.tables e below (T6.setTop (mkF m 105 #[.val (.int p1), .val (.int p2), .val (.int p3), .val (.int p4), .val (.int p5), .val (.int (Int32.ofNat na)), .val (.int (Int32.ofNat nb)), .val (.int (Int32.ofNat nc)), .val (.int (Int32.ofNat nd)), .val (.int (own_b (¬ (p5 &&& (1 : Int32)) = 0))), .val (.ref b1), .unset, .unset, .unset] [])) _
            refine XS.iload X6.here hx rfl (hb hby at_105) rfl ?_
            show Steps p.tables e below (T6.setTop (mkF m 107 #[.val (.int p1), .val (.int p2), .val (.int p3), .val (.int p4), .val (.int p5), .val (.int (Int32.ofNat na)), .val (.int (Int32.ofNat nb)), .val (.int (Int32.ofNat nc)), .val (.int (Int32.ofNat nd)), .val (.int (own_b (¬ (p5 &&& (1 : Int32)) = 0))), .val (.ref b1), .unset, .unset, .unset] [(.int (Int32.ofNat nd))])) _
            refine XS.iload X6.here hx rfl (hb hby at_107) rfl ?_
            show Steps p.tables e below (T6.setTop (mkF m 109 #[.val (.int p1), .val (.int p2), .val (.int p3), .val (.int p4), .val (.int p5), .val (.int (Int32.ofNat na)), .val (.int (Int32.ofNat nb)), .val (.int (Int32.ofNat nc)), .val (.int (Int32.ofNat nd)), .val (.int (own_b (¬ (p5 &&& (1 : Int32)) = 0))), .val (.ref b1), .unset, .unset, .unset] [(.int (Int32.ofNat nb)), (.int (Int32.ofNat nd))])) _
            refine XS.icmpNo X6.here hx rfl (hb hby at_109) rfl (feq (fun q => c2 ((own_ofNat lnd lnb).mp q))).1 ?_
            show Steps p.tables e below (T6.setTop (mkF m 112 #[.val (.int p1), .val (.int p2), .val (.int p3), .val (.int p4), .val (.int p5), .val (.int (Int32.ofNat na)), .val (.int (Int32.ofNat nb)), .val (.int (Int32.ofNat nc)), .val (.int (Int32.ofNat nd)), .val (.int (own_b (¬ (p5 &&& (1 : Int32)) = 0))), .val (.ref b1), .unset, .unset, .unset] [])) _
            refine XS.iload X6.here hx rfl (hb hby at_112) rfl ?_
            show Steps p.tables e below (T6.setTop (mkF m 114 #[.val (.int p1), .val (.int p2), .val (.int p3), .val (.int p4), .val (.int p5), .val (.int (Int32.ofNat na)), .val (.int (Int32.ofNat nb)), .val (.int (Int32.ofNat nc)), .val (.int (Int32.ofNat nd)), .val (.int (own_b (¬ (p5 &&& (1 : Int32)) = 0))), .val (.ref b1), .unset, .unset, .unset] [(.int (Int32.ofNat nc))])) _
            refine XS.iload X6.here hx rfl (hb hby at_114) rfl ?_
            show Steps p.tables e below (T6.setTop (mkF m 116 #[.val (.int p1), .val (.int p2), .val (.int p3), .val (.int p4), .val (.int p5), .val (.int (Int32.ofNat na)), .val (.int (Int32.ofNat nb)), .val (.int (Int32.ofNat nc)), .val (.int (Int32.ofNat nd)), .val (.int (own_b (¬ (p5 &&& (1 : Int32)) = 0))), .val (.ref b1), .unset, .unset, .unset] [(.int (Int32.ofNat nb)), (.int (Int32.ofNat nc))])) _
            refine XS.icmpNo X6.here hx rfl (hb hby at_116) rfl (teq ((own_ofNat lnc lnb).mpr c3)).2 ?_
            show Steps p.tables e below (T6.setTop (mkF m 119 #[.val (.int p1), .val (.int p2), .val (.int p3), .val (.int p4), .val (.int p5), .val (.int (Int32.ofNat na)), .val (.int (Int32.ofNat nb)), .val (.int (Int32.ofNat nc)), .val (.int (Int32.ofNat nd)), .val (.int (own_b (¬ (p5 &&& (1 : Int32)) = 0))), .val (.ref b1), .unset, .unset, .unset] [])) _
            refine XS.iload X6.here hx rfl (hb hby at_119) rfl ?_
            show Steps p.tables e below (T6.setTop (mkF m 121 #[.val (.int p1), .val (.int p2), .val (.int p3), .val (.int p4), .val (.int p5), .val (.int (Int32.ofNat na)), .val (.int (Int32.ofNat nb)), .val (.int (Int32.ofNat nc)), .val (.int (Int32.ofNat nd)), .val (.int (own_b (¬ (p5 &&& (1 : Int32)) = 0))), .val (.ref b1), .unset, .unset, .unset] [(.int (Int32.ofNat nd))])) _
            refine XS.iload X6.here hx rfl (hb hby at_121) rfl ?_
            show Steps p.tables e below (T6.setTop (mkF m 123 #[.val (.int p1), .val (.int p2), .val (.int p3), .val (.int p4), .val (.int p5), .val (.int (Int32.ofNat na)), .val (.int (Int32.ofNat nb)), .val (.int (Int32.ofNat nc)), .val (.int (Int32.ofNat nd)), .val (.int (own_b (¬ (p5 &&& (1 : Int32)) = 0))), .val (.ref b1), .unset, .unset, .unset] [(.int (Int32.ofNat na)), (.int (Int32.ofNat nd))])) _
            refine XS.icmpNo X6.here hx rfl (hb hby at_123) rfl (teq ((own_ofNat lnd lna).mpr c4)).2 ?_
            show Steps p.tables e below (T6.setTop (mkF m 126 #[.val (.int p1), .val (.int p2), .val (.int p3), .val (.int p4), .val (.int p5), .val (.int (Int32.ofNat na)), .val (.int (Int32.ofNat nb)), .val (.int (Int32.ofNat nc)), .val (.int (Int32.ofNat nd)), .val (.int (own_b (¬ (p5 &&& (1 : Int32)) = 0))), .val (.ref b1), .unset, .unset, .unset] [])) _
            refine XS.iconst X6.here hx rfl (hb hby at_126) ?_
            show Steps p.tables e below (T6.setTop (mkF m 127 #[.val (.int p1), .val (.int p2), .val (.int p3), .val (.int p4), .val (.int p5), .val (.int (Int32.ofNat na)), .val (.int (Int32.ofNat nb)), .val (.int (Int32.ofNat nc)), .val (.int (Int32.ofNat nd)), .val (.int (own_b (¬ (p5 &&& (1 : Int32)) = 0))), .val (.ref b1), .unset, .unset, .unset] [(.int (1 : Int32))])) _
            refine XS.goto X6.here hx rfl (pc0 := 127) (pc' := 131) rfl (hb hby at_127) (by decide) (by decide) ?_
            exact k
          · rw [own_bf (P := ((nc = na ∧ nd = nb) ∨ (nc = nb ∧ nd = na))) (fun q => q.elim nab (fun q => c4 q.2))] at k
            show Steps p.tables e below (T6.setTop (mkF m 98 #[.val (.int p1), .val (.int p2), .val (.int p3), .val (.int p4), .val (.int p5), .val (.int (Int32.ofNat na)), .val (.int (Int32.ofNat nb)), .val (.int (Int32.ofNat nc)), .val (.int (Int32.ofNat nd)), .val (.int (own_b (¬ (p5 &&& (1 : Int32)) = 0))), .val (.ref b1), .unset, .unset, .unset] [])) _
            refine XS.iload X6.here hx rfl (hb hby at_98) rfl ?_
            show Steps p.tables e below (T6.setTop (mkF m 100 #[.val (.int p1), .val (.int p2), .val (.int p3), .val (.int p4), .val (.int p5), .val (.int (Int32.ofNat na)), .val (.int (Int32.ofNat nb)), .val (.int (Int32.ofNat nc)), .val (.int (Int32.ofNat nd)), .val (.int (own_b (¬ (p5 &&& (1 : Int32)) = 0))), .val (.ref b1), .unset, .unset, .unset] [(.int (Int32.ofNat nc))])) _
            refine XS.iload X6.here hx rfl (hb hby at_100) rfl ?_
            show Steps p.tables e below (T6.setTop (mkF m 102 #[.val (.int p1), .val (.int p2), .val (.int p3), .val (.int p4), .val (.int p5), .val (.int (Int32.ofNat na)), .val (.int (Int32.ofNat nb)), .val (.int (Int32.ofNat nc)), .val (.int (Int32.ofNat nd)), .val (.int (own_b (¬ (p5 &&& (1 : Int32)) = 0))), .val (.ref b1), .unset, .unset, .unset] [(.int (Int32.ofNat na)), (.int (Int32.ofNat nc))])) _
            refine XS.icmpNo X6.here hx rfl (hb hby at_102) rfl (teq ((own_ofNat lnc lna).mpr c1)).2 ?_
            show Steps p.tables e below (T6.setTop (mkF m 105 #[.val (.int p1), .val (.int p2), .val (.int p3), .val (.int p4), .val (.int p5), .val (.int (Int32.ofNat na)), .val (.int (Int32.ofNat nb)), .val (.int (Int32.ofNat nc)), .val (.int (Int32.ofNat nd)), .val (.int (own_b (¬ (p5 &&& (1 : Int32)) = 0))), .val (.ref b1), .unset, .unset, .unset] [])) _
            refine XS.iload X6.here hx rfl (hb hby at_105) rfl ?_
            show Steps p.tables e below (T6.setTop (mkF m 107 #[.val (.int p1), .val (.int p2), .val (.int p3), .val (.int p4), .val (.int p5), .val (.int (Int32.ofNat na)), .val (.int (Int32.ofNat nb)), .val (.int (Int32.ofNat nc)), .val (.int (Int32.ofNat nd)), .val (.int (own_b (¬ (p5 &&& (1 : Int32)) = 0))), .val (.ref b1), .unset, .unset, .unset] [(.int (Int32.ofNat nd))])) _
            refine XS.iload X6.here hx rfl (hb hby at_107) rfl ?_
            show Steps p.tables e below (T6.setTop (mkF m 109 #[.val (.int p1), .val (.int p2), .val (.int p3), .val (.int p4), .val (.int p5), .val (.int (Int32.ofNat na)), .val (.int (Int32.ofNat nb)), .val (.int (Int32.ofNat nc)), .val (.int (Int32.ofNat nd)), .val (.int (own_b (¬ (p5 &&& (1 : Int32)) = 0))), .val (.ref b1), .unset, .unset, .unset] [(.int (Int32.ofNat nb)), (.int (Int32.ofNat nd))])) _
            refine XS.icmpNo X6.here hx rfl (hb hby at_109) rfl (feq (fun q => c2 ((own_ofNat lnd lnb).mp q))).1 ?_
            show Steps p.tables e below (T6.setTop (mkF m 112 #[.val (.int p1), .val (.int p2), .val (.int p3), .val (.int p4), .val (.int p5), .val (.int (Int32.ofNat na)), .val (.int (Int32.ofNat nb)), .val (.int (Int32.ofNat nc)), .val (.int (Int32.ofNat nd)), .val (.int (own_b (¬ (p5 &&& (1 : Int32)) = 0))), .val (.ref b1), .unset, .unset, .unset] [])) _
            refine XS.iload X6.here hx rfl (hb hby at_112) rfl ?_
            show Steps p.tables e below (T6.setTop (mkF m 114 #[.val (.int p1), .val (.int p2), .val (.int p3), .val (.int p4), .val (.int p5), .val (.int (Int32.ofNat na)), .val (.int (Int32.ofNat nb)), .val (.int (Int32.ofNat nc)), .val (.int (Int32.ofNat nd)), .val (.int (own_b (¬ (p5 &&& (1 : Int32)) = 0))), .val (.ref b1), .unset, .unset, .unset] [(.int (Int32.ofNat nc))])) _
            refine XS.iload X6.here hx rfl (hb hby at_114) rfl ?_
            show Steps p.tables e below (T6.setTop (mkF m 116 #[.val (.int p1), .val (.int p2), .val (.int p3), .val (.int p4), .val (.int p5), .val (.int (Int32.ofNat na)), .val (.int (Int32.ofNat nb)), .val (.int (Int32.ofNat nc)), .val (.int (Int32.ofNat nd)), .val (.int (own_b (¬ (p5 &&& (1 : Int32)) = 0))), .val (.ref b1), .unset, .unset, .unset] [(.int (Int32.ofNat nb)), (.int (Int32.ofNat nc))])) _
            refine XS.icmpNo X6.here hx rfl (hb hby at_116) rfl (teq ((own_ofNat lnc lnb).mpr c3)).2 ?_
            show Steps p.tables e below (T6.setTop (mkF m 119 #[.val (.int p1), .val (.int p2), .val (.int p3), .val (.int p4), .val (.int p5), .val (.int (Int32.ofNat na)), .val (.int (Int32.ofNat nb)), .val (.int (Int32.ofNat nc)), .val (.int (Int32.ofNat nd)), .val (.int (own_b (¬ (p5 &&& (1 : Int32)) = 0))), .val (.ref b1), .unset, .unset, .unset] [])) _
            refine XS.iload X6.here hx rfl (hb hby at_119) rfl ?_
            show Steps p.tables e below (T6.setTop (mkF m 121 #[.val (.int p1), .val (.int p2), .val (.int p3), .val (.int p4), .val (.int p5), .val (.int (Int32.ofNat na)), .val (.int (Int32.ofNat nb)), .val (.int (Int32.ofNat nc)), .val (.int (Int32.ofNat nd)), .val (.int (own_b (¬ (p5 &&& (1 : Int32)) = 0))), .val (.ref b1), .unset, .unset, .unset] [(.int (Int32.ofNat nd))])) _
            refine XS.iload X6.here hx rfl (hb hby at_121) rfl ?_
            show Steps p.tables e below (T6.setTop (mkF m 123 #[.val (.int p1), .val (.int p2), .val (.int p3), .val (.int p4), .val (.int p5), .val (.int (Int32.ofNat na)), .val (.int (Int32.ofNat nb)), .val (.int (Int32.ofNat nc)), .val (.int (Int32.ofNat nd)), .val (.int (own_b (¬ (p5 &&& (1 : Int32)) = 0))), .val (.ref b1), .unset, .unset, .unset] [(.int (Int32.ofNat na)), (.int (Int32.ofNat nd))])) _
            refine XS.icmpYes X6.here hx rfl (pc0 := 123) (pc' := 130) rfl (hb hby at_123) rfl (feq (fun q => c4 ((own_ofNat lnd lna).mp q))).2 (by decide) (by decide) ?_
            show Steps p.tables e below (T6.setTop (mkF m 130 #[.val (.int p1), .val (.int p2), .val (.int p3), .val (.int p4), .val (.int p5), .val (.int (Int32.ofNat na)), .val (.int (Int32.ofNat nb)), .val (.int (Int32.ofNat nc)), .val (.int (Int32.ofNat nd)), .val (.int (own_b (¬ (p5 &&& (1 : Int32)) = 0))), .val (.ref b1), .unset, .unset, .unset] [])) _
            refine XS.iconst X6.here hx rfl (hb hby at_130) ?_
            exact k
        · rw [own_bf (P := ((nc = na ∧ nd = nb) ∨ (nc = nb ∧ nd = na))) (fun q => q.elim nab (fun q => c3 q.1))] at k
          show Steps p.tables e below (T6.setTop (mkF m 98 #[.val (.int p1), .val (.int p2), .val (.int p3), .val (.int p4), .val (.int p5), .val (.int (Int32.ofNat na)), .val (.int (Int32.ofNat nb)), .val (.int (Int32.ofNat nc)), .val (.int (Int32.ofNat nd)), .val (.int (own_b (¬ (p5 &&& (1 : Int32)) = 0))), .val (.ref b1), .unset, .unset, .unset] [])) _
          refine XS.iload X6.here hx rfl (hb hby at_98) rfl ?_
          show Steps p.tables e below (T6.setTop (mkF m 100 #[.val (.int p1), .val (.int p2), .val (.int p3), .val (.int p4), .val (.int p5), .val (.int (Int32.ofNat na)), .val (.int (Int32.ofNat nb)), .val (.int (Int32.ofNat nc)), .val (.int (Int32.ofNat nd)), .val (.int (own_b (¬ (p5 &&& (1 : Int32)) = 0))), .val (.ref b1), .unset, .unset, .unset] [(.int (Int32.ofNat nc))])) _
          refine XS.iload X6.here hx rfl (hb hby at_100) rfl ?_
          show Steps p.tables e below (T6.setTop (mkF m 102 #[.val (.int p1), .val (.int p2), .val (.int p3), .val (.int p4), .val (.int p5), .val (.int (Int32.ofNat na)), .val (.int (Int32.ofNat nb)), .val (.int (Int32.ofNat nc)), .val (.int (Int32.ofNat nd)), .val (.int (own_b (¬ (p5 &&& (1 : Int32)) = 0))), .val (.ref b1), .unset, .unset, .unset] [(.int (Int32.ofNat na)), (.int (Int32.ofNat nc))])) _
          refine XS.icmpNo X6.here hx rfl (hb hby at_102) rfl (teq ((own_ofNat lnc lna).mpr c1)).2 ?_
          show Steps p.tables e below (T6.setTop (mkF m 105 #[.val (.int p1), .val (.int p2), .val (.int p3), .val (.int p4), .val (.int p5), .val (.int (Int32.ofNat na)), .val (.int (Int32.ofNat nb)), .val (.int (Int32.ofNat nc)), .val (.int (Int32.ofNat nd)), .val (.int (own_b (¬ (p5 &&& (1 : Int32)) = 0))), .val (.ref b1), .unset, .unset, .unset] [])) _
          refine XS.iload X6.here hx rfl (hb hby at_105) rfl ?_
          show Steps p.tables e below (T6.setTop (mkF m 107 #[.val (.int p1), .val (.int p2), .val (.int p3), .val (.int p4), .val (.int p5), .val (.int (Int32.ofNat na)), .val (.int (Int32.ofNat nb)), .val (.int (Int32.ofNat nc)), .val (.int (Int32.ofNat nd)), .val (.int (own_b (¬ (p5 &&& (1 : Int32)) = 0))), .val (.ref b1), .unset, .unset, .unset] [(.int (Int32.ofNat nd))])) _
          refine XS.iload X6.here hx rfl (hb hby at_107) rfl ?_
          show Steps p.tables e below (T6.setTop (mkF m 109 #[.val (.int p1), .val (.int p2), .val (.int p3), .val (.int p4), .val (.int p5), .val (.int (Int32.ofNat na)), .val (.int (Int32.ofNat nb)), .val (.int (Int32.ofNat nc)), .val (.int (Int32.ofNat nd)), .val (.int (own_b (¬ (p5 &&& (1 : Int32)) = 0))), .val (.ref b1), .unset, .unset, .unset] [(.int (Int32.ofNat nb)), (.int (Int32.ofNat nd))])) _
          refine XS.icmpNo X6.here hx rfl (hb hby at_109) rfl (feq (fun q => c2 ((own_ofNat lnd lnb).mp q))).1 ?_
          show Steps p.tables e below (T6.setTop (mkF m 112 #[.val (.int p1), .val (.int p2), .val (.int p3), .val (.int p4), .val (.int p5), .val (.int (Int32.ofNat na)), .val (.int (Int32.ofNat nb)), .val (.int (Int32.ofNat nc)), .val (.int (Int32.ofNat nd)), .val (.int (own_b (¬ (p5 &&& (1 : Int32)) = 0))), .val (.ref b1), .unset, .unset, .unset] [])) _
          refine XS.iload X6.here hx rfl (hb hby at_112) rfl ?_
          show Steps p.tables e below (T6.setTop (mkF m 114 #[.val (.int p1), .val (.int p2), .val (.int p3), .val (.int p4), .val (.int p5), .val (.int (Int32.ofNat na)), .val (.int (Int32.ofNat nb)), .val (.int (Int32.ofNat nc)), .val (.int (Int32.ofNat nd)), .val (.int (own_b (¬ (p5 &&& (1 : Int32)) = 0))), .val (.ref b1), .unset, .unset, .unset] [(.int (Int32.ofNat nc))])) _
          refine XS.iload X6.here hx rfl (hb hby at_114) rfl ?_
          show Steps p.tables e below (T6.setTop (mkF m 116 #[.val (.int p1), .val (.int p2), .val (.int p3), .val (.int p4), .val (.int p5), .val (.int (Int32.ofNat na)), .val (.int (Int32.ofNat nb)), .val (.int (Int32.ofNat nc)), .val (.int (Int32.ofNat nd)), .val (.int (own_b (¬ (p5 &&& (1 : Int32)) = 0))), .val (.ref b1), .unset, .unset, .unset] [(.int (Int32.ofNat nb)), (.int (Int32.ofNat nc))])) _
          refine XS.icmpYes X6.here hx rfl (pc0 := 116) (pc' := 130) rfl (hb hby at_116) rfl (feq (fun q => c3 ((own_ofNat lnc lnb).mp q))).2 (by decide) (by decide) ?_
          show Steps p.tables e below (T6.setTop (mkF m 130 #[.val (.int p1), .val (.int p2), .val (.int p3), .val (.int p4), .val (.int p5), .val (.int (Int32.ofNat na)), .val (.int (Int32.ofNat nb)), .val (.int (Int32.ofNat nc)), .val (.int (Int32.ofNat nd)), .val (.int (own_b (¬ (p5 &&& (1 : Int32)) = 0))), .val (.ref b1), .unset, .unset, .unset] [])) _
          refine XS.iconst X6.here hx rfl (hb hby at_130) ?_
          exact k
    · have nab : ¬ (nc = na ∧ nd = nb) := fun q => c1 q.1
      by_cases c3 : nc = nb
      · by_cases c4 : nd = na
        · rw [own_bt (P := ((nc = na ∧ nd = nb) ∨ (nc = nb ∧ nd = na))) (Or.inr ⟨c3, c4⟩)] at k
          show Steps p.tables e below (T6.setTop (mkF m 98 #[.val (.int p1), .val (.int p2), .val (.int p3), .val (.int p4), .val (.int p5), .val (.int (Int32.ofNat na)), .val (.int (Int32.ofNat nb)), .val (.int (Int32.ofNat nc)), .val (.int (Int32.ofNat nd)), .val (.int (own_b (¬ (p5 &&& (1 : Int32)) = 0))), .val (.ref b1), .unset, .unset, .unset] [])) _
          refine XS.iload X6.here hx rfl (hb hby at_98) rfl ?_
          show Steps p.tables e below (T6.setTop (mkF m 100 #[.val (.int p1), .val (.int p2), .val (.int p3), .val (.int p4), .val (.int p5), .val (.int (Int32.ofNat na)), .val (.int (Int32.ofNat nb)), .val (.int (Int32.ofNat nc)), .val (.int (Int32.ofNat nd)), .val (.int (own_b (¬ (p5 &&& (1 : Int32)) = 0))), .val (.ref b1), .unset, .unset, .unset] [(.int (Int32.ofNat nc))])) _
          refine XS.iload X6.here hx rfl (hb hby at_100) rfl ?_
          show Steps p.tables e below (T6.setTop (mkF m 102 #[.val (.int p1), .val (.int p2), .val (.int p3), .val (.int p4), .val (.int p5), .val (.int (Int32.ofNat na)), .val (.int (Int32.ofNat nb)), .val (.int (Int32.ofNat nc)), .val (.int (Int32.ofNat nd)), .val (.int (own_b (¬ (p5 &&& (1 : Int32)) = 0))), .val (.ref b1), .unset, .unset, .unset] [(.int (Int32.ofNat na)), (.int (Int32.ofNat nc))])) _
          refine XS.icmpYes X6.here hx rfl (pc0 := 102) (pc' := 112) rfl (hb hby at_102) rfl (feq (fun q => c1 ((own_ofNat lnc lna).mp q))).2 (by decide) (by decide) ?_
          show Steps p.tables e below (T6.setTop (mkF m 112 #[.val (.int p1), .val (.int p2), .val (.int p3), .val (.int p4), .val (.int p5), .val (.int (Int32.ofNat na)), .val (.int (Int32.ofNat nb)), .val (.int (Int32.ofNat nc)), .val (.int (Int32.ofNat nd)), .val (.int (own_b (¬ (p5 &&& (1 : Int32)) = 0))), .val (.ref b1), .unset, .unset, .unset] [])) _
          refine XS.iload X6.here hx rfl (hb hby at_112) rfl ?_
          show Steps p.tables e below (T6.setTop (mkF m 114 #[.val (.int p1), .val (.int p2), .val (.int p3), .val (.int p4), .val (.int p5), .val (.int (Int32.ofNat na)), .val (.int (Int32.ofNat nb)), .val (.int (Int32.ofNat nc)), .val (.int (Int32.ofNat nd)), .val (.int (own_b (¬ (p5 &&& (1 : Int32)) = 0))), .val (.ref b1), .unset, .unset, .unset] [(.int (Int32.ofNat nc))])) _
          refine XS.iload X6.here hx rfl (hb hby at_114) rfl ?_
          show Steps p.tables e below (T6.setTop (mkF m 116 #[.val (.int p1), .val (.int p2), .val (.int p3), .val (.int p4), .val (.int p5), .val (.int (Int32.ofNat na)), .val (.int (Int32.ofNat nb)), .val (.int (Int32.ofNat nc)), .val (.int (Int32.ofNat nd)), .val (.int (own_b (¬ (p5 &&& (1 : Int32)) = 0))), .val (.ref b1), .unset, .unset, .unset] [(.int (Int32.ofNat nb)), (.int (Int32.ofNat nc))])) _
          refine XS.icmpNo X6.here hx rfl (hb hby at_116) rfl (teq ((own_ofNat lnc lnb).mpr c3)).2 ?_
          show Steps p.tables e below (T6.setTop (mkF m 119 #[.val (.int p1), .val (.int p2), .val (.int p3), .val (.int p4), .val (.int p5), .val (.int (Int32.ofNat na)), .val (.int (Int32.ofNat nb)), .val (.int (Int32.ofNat nc)), .val (.int (Int32.ofNat nd)), .val (.int (own_b (¬ (p5 &&& (1 : Int32)) = 0))), .val (.ref b1), .unset, .unset, .unset] [])) _
          refine XS.iload X6.here hx rfl (hb hby at_119) rfl ?_
          show Steps p.tables e below (T6.setTop (mkF m 121 #[.val (.int p1), .val (.int p2), .val (.int p3), .val (.int p4), .val (.int p5), .val (.int (Int32.ofNat na)), .val (.int (Int32.ofNat nb)), .val (.int (Int32.ofNat nc)), .val (.int (Int32.ofNat nd)), .val (.int (own_b (¬ (p5 &&& (1 : Int32)) = 0))), .val (.ref b1), .unset, .unset, .unset] [(.int (Int32.ofNat nd))])) _
          refine XS.iload X6.here hx rfl (hb hby at_121) rfl ?_
          show Steps p.tables e below (T6.setTop (mkF m 123 #[.val (.int p1), .val (.int p2), .val (.int p3), .val (.int p4), .val (.int p5), .val (.int (Int32.ofNat na)), .val (.int (Int32.ofNat nb)), .val (.int (Int32.ofNat nc)), .val (.int (Int32.ofNat nd)), .val (.int (own_b (¬ (p5 &&& (1 : Int32)) = 0))), .val (.ref b1), .unset, .unset, .unset] [(.int (Int32.ofNat na)), (.int (Int32.ofNat nd))])) _
          refine XS.icmpNo X6.here hx rfl (hb hby at_123) rfl (teq ((own_ofNat lnd lna).mpr c4)).2 ?_
          show Steps p.tables e below (T6.setTop (mkF m 126 #[.val (.int p1), .val (.int p2), .val (.int p3), .val (.int p4), .val (.int p5), .val (.int (Int32.ofNat na)), .val (.int (Int32.ofNat nb)), .val (.int (Int32.ofNat nc)), .val (.int (Int32.ofNat nd)), .val (.int (own_b (¬ (p5 &&& (1 : Int32)) = 0))), .val (.ref b1), .unset, .unset, .unset] [])) _
          refine XS.iconst X6.here hx rfl (hb hby at_126) ?_
          show Steps p.tables e below (T6.setTop (mkF m 127 #[.val (.int p1), .val (.int p2), .val (.int p3), .val (.int p4), .val (.int p5), .val (.int (Int32.ofNat na)), .val (.int (Int32.ofNat nb)), .val (.int (Int32.ofNat nc)), .val (.int (Int32.ofNat nd)), .val (.int (own_b (¬ (p5 &&& (1 : Int32)) = 0))), .val (.ref b1), .unset, .unset, .unset] [(.int (1 : Int32))])) _
          refine XS.goto X6.here hx rfl (pc0 := 127) (pc' := 131) rfl (hb hby at_127) (by decide) (by decide) ?_
          exact k
        · rw [own_bf (P := ((nc = na ∧ nd = nb) ∨ (nc = nb ∧ nd = na))) (fun q => q.elim nab (fun q => c4 q.2))] at k
          show Steps p.tables e below (T6.setTop (mkF m 98 #[.val (.int p1), .val (.int p2), .val (.int p3), .val (.int p4), .val (.int p5), .val (.int (Int32.ofNat na)), .val (.int (Int32.ofNat nb)), .val (.int (Int32.ofNat nc)), .val (.int (Int32.ofNat nd)), .val (.int (own_b (¬ (p5 &&& (1 : Int32)) = 0))), .val (.ref b1), .unset, .unset, .unset] [])) _
          refine XS.iload X6.here hx rfl (hb hby at_98) rfl ?_
          show Steps p.tables e below (T6.setTop (mkF m 100 #[.val (.int p1), .val (.int p2), .val (.int p3), .val (.int p4), .val (.int p5), .val (.int (Int32.ofNat na)), .val (.int (Int32.ofNat nb)), .val (.int (Int32.ofNat nc)), .val (.int (Int32.ofNat nd)), .val (.int (own_b (¬ (p5 &&& (1 : Int32)) = 0))), .val (.ref b1), .unset, .unset, .unset] [(.int (Int32.ofNat nc))])) _
          refine XS.iload X6.here hx rfl (hb hby at_100) rfl ?_
          show Steps p.tables e below (T6.setTop (mkF m 102 #[.val (.int p1), .val (.int p2), .val (.int p3), .val (.int p4), .val (.int p5), .val (.int (Int32.ofNat na)), .val (.int (Int32.ofNat nb)), .val (.int (Int32.ofNat nc)), .val (.int (Int32.ofNat nd)), .val (.int (own_b (¬ (p5 &&& (1 : Int32)) = 0))), .val (.ref b1), .unset, .unset, .unset] [(.int (Int32.ofNat na)), (.int (Int32.ofNat nc))])) _
          refine XS.icmpYes X6.here hx rfl (pc0 := 102) (pc' := 112) rfl (hb hby at_102) rfl (feq (fun q => c1 ((own_ofNat lnc lna).mp q))).2 (by decide) (by decide) ?_
          show Steps p.tables e below (T6.setTop (mkF m 112 #[.val (.int p1), .val (.int p2), .val (.int p3), .val (.int p4), .val (.int p5), .val (.int (Int32.ofNat na)), .val (.int (Int32.ofNat nb)), .val (.int (Int32.ofNat nc)), .val (.int (Int32.ofNat nd)), .val (.int (own_b (¬ (p5 &&& (1 : Int32)) = 0))), .val (.ref b1), .unset, .unset, .unset] [])) _
          refine XS.iload X6.here hx rfl (hb hby at_112) rfl ?_
          show Steps p.tables e below (T6.setTop (mkF m 114 #[.val (.int p1), .val (.int p2), .val (.int p3), .val (.int p4), .val (.int p5), .val (.int (Int32.ofNat na)), .val (.int (Int32.ofNat nb)), .val (.int (Int32.ofNat nc)), .val (.int (Int32.ofNat nd)), .val (.int (own_b (¬ (p5 &&& (1 : Int32)) = 0))), .val (.ref b1), .unset, .unset, .unset] [(.int (Int32.ofNat nc))])) _
          refine XS.iload X6.here hx rfl (hb hby at_114) rfl ?_
          show Steps p.tables e below (T6.setTop (mkF m 116 #[.val (.int p1), .val (.int p2), .val (.int p3), .val (.int p4), .val (.int p5), .val (.int (Int32.ofNat na)), .val (.int (Int32.ofNat nb)), .val (.int (Int32.ofNat nc)), .val (.int (Int32.ofNat nd)), .val (.int (own_b (¬ (p5 &&& (1 : Int32)) = 0))), .val (.ref b1), .unset, .unset, .unset] [(.int (Int32.ofNat nb)), (.int (Int32.ofNat nc))])) _
          refine XS.icmpNo X6.here hx rfl (hb hby at_116) rfl (teq ((own_ofNat lnc lnb).mpr c3)).2 ?_
          show Steps p.tables e below (T6.setTop (mkF m 119 #[.val (.int p1), .val (.int p2), .val (.int p3), .val (.int p4), .val (.int p5), .val (.int (Int32.ofNat na)), .val (.int (Int32.ofNat nb)), .val (.int (Int32.ofNat nc)), .val (.int (Int32.ofNat nd)), .val (.int (own_b (¬ (p5 &&& (1 : Int32)) = 0))), .val (.ref b1), .unset, .unset, .unset] [])) _
          refine XS.iload X6.here hx rfl (hb hby at_119) rfl ?_
          show Steps p.tables e below (T6.setTop (mkF m 121 #[.val (.int p1), .val (.int p2), .val (.int p3), .val (.int p4), .val (.int p5), .val (.int (Int32.ofNat na)), .val (.int (Int32.ofNat nb)), .val (.int (Int32.ofNat nc)), .val (.int (Int32.ofNat nd)), .val (.int (own_b (¬ (p5 &&& (1 : Int32)) = 0))), .val (.ref b1), .unset, .unset, .unset] [(.int (Int32.ofNat nd))])) _
          refine XS.iload X6.here hx rfl (hb hby at_121) rfl ?_
          show Steps p.tables e below (T6.setTop (mkF m 123 #[.val (.int p1), .val (.int p2), .val (.int p3), .val (.int p4), .val (.int p5), .val (.int (Int32.ofNat na)), .val (.int (Int32.ofNat nb)), .val (.int (Int32.ofNat nc)), .val (.int (Int32.ofNat nd)), .val (.int (own_b (¬ (p5 &&& (1 : Int32)) = 0))), .val (.ref b1), .unset, .unset, .unset] [(.int (Int32.ofNat na)), (.int (Int32.ofNat nd))])) _
          refine XS.icmpYes X6.here hx rfl (pc0 := 123) (pc' := 130) rfl (hb hby at_123) rfl (feq (fun q => c4 ((own_ofNat lnd lna).mp q))).2 (by decide) (by decide) ?_
          show Steps p.tables e below (T6.setTop (mkF m 130 #[.val (.int p1), .val (.int p2), .val (.int p3), .val (.int p4), .val (.int p5), .val (.int (Int32.ofNat na)), .val (.int (Int32.ofNat nb)), .val (.int (Int32.ofNat nc)), .val (.int (Int32.ofNat nd)), .val (.int (own_b (¬ (p5 &&& (1 : Int32)) = 0))), .val (.ref b1), .unset, .unset, .unset] [])) _
          refine XS.iconst X6.here hx rfl (hb hby at_130) ?_
          exact k
      · rw [own_bf (P := ((nc = na ∧ nd = nb) ∨ (nc = nb ∧ nd = na))) (fun q => q.elim nab (fun q => c3 q.1))] at k
        show Steps p.tables e below (T6.setTop (mkF m 98 #[.val (.int p1), .val (.int p2), .val (.int p3), .val (.int p4), .val (.int p5), .val (.int (Int32.ofNat na)), .val (.int (Int32.ofNat nb)), .val (.int (Int32.ofNat nc)), .val (.int (Int32.ofNat nd)), .val (.int (own_b (¬ (p5 &&& (1 : Int32)) = 0))), .val (.ref b1), .unset, .unset, .unset] [])) _
        refine XS.iload X6.here hx rfl (hb hby at_98) rfl ?_
        show Steps p.tables e below (T6.setTop (mkF m 100 #[.val (.int p1), .val (.int p2), .val (.int p3), .val (.int p4), .val (.int p5), .val (.int (Int32.ofNat na)), .val (.int (Int32.ofNat nb)), .val (.int (Int32.ofNat nc)), .val (.int (Int32.ofNat nd)), .val (.int (own_b (¬ (p5 &&& (1 : Int32)) = 0))), .val (.ref b1), .unset, .unset, .unset] [(.int (Int32.ofNat nc))])) _
        refine XS.iload X6.here hx rfl (hb hby at_100) rfl ?_
        show Steps p.tables e below (T6.setTop (mkF m 102 #[.val (.int p1), .val (.int p2), .val (.int p3), .val (.int p4), .val (.int p5), .val (.int (Int32.ofNat na)), .val (.int (Int32.ofNat nb)), .val (.int (Int32.ofNat nc)), .val (.int (Int32.ofNat nd)), .val (.int (own_b (¬ (p5 &&& (1 : Int32)) = 0))), .val (.ref b1), .unset, .unset, .unset] [(.int (Int32.ofNat na)), (.int (Int32.ofNat nc))])) _
        refine XS.icmpYes X6.here hx rfl (pc0 := 102) (pc' := 112) rfl (hb hby at_102) rfl (feq (fun q => c1 ((own_ofNat lnc lna).mp q))).2 (by decide) (by decide) ?_
        show Steps p.tables e below (T6.setTop (mkF m 112 #[.val (.int p1), .val (.int p2), .val (.int p3), .val (.int p4), .val (.int p5), .val (.int (Int32.ofNat na)), .val (.int (Int32.ofNat nb)), .val (.int (Int32.ofNat nc)), .val (.int (Int32.ofNat nd)), .val (.int (own_b (¬ (p5 &&& (1 : Int32)) = 0))), .val (.ref b1), .unset, .unset, .unset] [])) _
        refine XS.iload X6.here hx rfl (hb hby at_112) rfl ?_
        show Steps p.tables e below (T6.setTop (mkF m 114 #[.val (.int p1), .val (.int p2), .val (.int p3), .val (.int p4), .val (.int p5), .val (.int (Int32.ofNat na)), .val (.int (Int32.ofNat nb)), .val (.int (Int32.ofNat nc)), .val (.int (Int32.ofNat nd)), .val (.int (own_b (¬ (p5 &&& (1 : Int32)) = 0))), .val (.ref b1), .unset, .unset, .unset] [(.int (Int32.ofNat nc))])) _
        refine XS.iload X6.here hx rfl (hb hby at_114) rfl ?_
        show Steps p.tables e below (T6.setTop (mkF m 116 #[.val (.int p1), .val (.int p2), .val (.int p3), .val (.int p4), .val (.int p5), .val (.int (Int32.ofNat na)), .val (.int (Int32.ofNat nb)), .val (.int (Int32.ofNat nc)), .val (.int (Int32.ofNat nd)), .val (.int (own_b (¬ (p5 &&& (1 : Int32)) = 0))), .val (.ref b1), .unset, .unset, .unset] [(.int (Int32.ofNat nb)), (.int (Int32.ofNat nc))])) _
        refine XS.icmpYes X6.here hx rfl (pc0 := 116) (pc' := 130) rfl (hb hby at_116) rfl (feq (fun q => c3 ((own_ofNat lnc lnb).mp q))).2 (by decide) (by decide) ?_
        show Steps p.tables e below (T6.setTop (mkF m 130 #[.val (.int p1), .val (.int p2), .val (.int p3), .val (.int p4), .val (.int p5), .val (.int (Int32.ofNat na)), .val (.int (Int32.ofNat nb)), .val (.int (Int32.ofNat nc)), .val (.int (Int32.ofNat nd)), .val (.int (own_b (¬ (p5 &&& (1 : Int32)) = 0))), .val (.ref b1), .unset, .unset, .unset] [])) _
        refine XS.iconst X6.here hx rfl (hb hby at_130) ?_
        exact k
  obtain ⟨cq7, kq7, q7a, q7b, q7c⟩ := isOf hZ rfl E6
  obtain ⟨_, _, ⟨T7, L7, k7, n7⟩, -, X7, ⟨Lc7, hQ7, l7, y7, z7⟩, st7⟩ := X6.virtualBack hx (y := (⟨"com/example/tourbound/tourbound/core/EdgeSet", "contains", "(II)Z"⟩ : MethodName)) (z := (⟨"com/example/tourbound/tourbound/core/EdgeSet", "contains", "(II)Z"⟩ : MethodName)) hown (mvT hZ (hw _ (List.mem_of_getElem? (i := 26) rfl))) (mvT hZ (hw _ (List.mem_of_getElem? (i := 27) rfl))) (notFace_of_selects (args := #[]) (mvT hZ (hw _ (List.mem_of_getElem? (i := 29) rfl)))) (mvT hZ (hw _ (List.mem_of_getElem? (i := 29) rfl))) (mvT hZ (hw _ (List.mem_of_getElem? (i := 28) rfl))) (by decide) (backOf (W := 0) (rm5 l Z a0 hw [] b1 (Int32.ofNat na) (Int32.ofNat nb) na nb r (own_rem (own_add f4 nc nd) na nb) T6.heap n0 Z6 rfl rfl lna lnb F6 G6 V6 ne gr) hZ (hw _ (List.mem_of_getElem? (i := 30) rfl)) (hw _ (List.mem_of_getElem? (i := 3) rfl)) (by decide) (by decide)) q7a q7c (g := (mkF m 139 #[.val (.int p1), .val (.int p2), .val (.int p3), .val (.int p4), .val (.int p5), .val (.int (Int32.ofNat na)), .val (.int (Int32.ofNat nb)), .val (.int (Int32.ofNat nc)), .val (.int (Int32.ofNat nd)), .val (.int (own_b (¬ (p5 &&& (1 : Int32)) = 0))), .val (.ref b1), .val (.int (own_b ((nc = na ∧ nd = nb) ∨ (nc = nb ∧ nd = na)))), .unset, .unset] [(.int (Int32.ofNat nb)), (.int (Int32.ofNat na)), (.ref b1)])) rfl (by rw [hml]; rfl) (Steps.refl _) (argsL := [(.int (Int32.ofNat na)), (.int (Int32.ofNat nb))]) (rest := []) (lenOf pd_oIIcZ rfl) rfl (by show 2 * 0 + _ ≤ _; exact Nat.le_of_eq rfl) (hb hby at_139) (fun _ _ => ⟨rfl, rfl, (by decide : 2 + 0 ≤ _), (by decide : 392 + 0 ≤ _)⟩)
  dsimp only [Pt.U, Pt.locs, Pt.cells, Pt.slots] at X7 l7 y7 z7 st7 hQ7
  subst l7 y7 z7
  obtain ⟨rfl, N7q, eq7⟩ := hQ7
  have N7 := Fr.app N6 N7q
  have Z7 : n0 ≤ T7.heap.size := by rw [eq7]; exact Z6
  have E7 : Exa Z T7.heap b1 "com/example/tourbound/tourbound/core/EdgeSet" := by rw [eq7]; exact E6
  have F7 : Fld Z T7.heap b1 "com/example/tourbound/tourbound/core/EdgeSet" "words" "I" (.int 3) := by rw [eq7]; exact F6
  have G7 : Fld Z T7.heap b1 "com/example/tourbound/tourbound/core/EdgeSet" "bits" "[J" (.ref r) := by rw [eq7]; exact G6
  have V7 : own_arr Z T7.heap r (own_rem (own_add f4 nc nd) na nb) := by rw [eq7]; exact V6
  obtain ⟨cq8, kq8, q8a, q8b, q8c⟩ := isOf hZ rfl E7
  obtain ⟨_, _, ⟨T8, L8, k8, n8⟩, -, X8, ⟨Lc8, hQ8, l8, y8, z8⟩, st8⟩ := X7.virtualBack hx (y := (⟨"com/example/tourbound/tourbound/core/EdgeSet", "contains", "(II)Z"⟩ : MethodName)) (z := (⟨"com/example/tourbound/tourbound/core/EdgeSet", "contains", "(II)Z"⟩ : MethodName)) hown (mvT hZ (hw _ (List.mem_of_getElem? (i := 26) rfl))) (mvT hZ (hw _ (List.mem_of_getElem? (i := 27) rfl))) (notFace_of_selects (args := #[]) (mvT hZ (hw _ (List.mem_of_getElem? (i := 29) rfl)))) (mvT hZ (hw _ (List.mem_of_getElem? (i := 29) rfl))) (mvT hZ (hw _ (List.mem_of_getElem? (i := 28) rfl))) (by decide) (backOf (W := 0) (rm5 l Z a0 hw [] b1 (Int32.ofNat nb) (Int32.ofNat na) nb na r (own_rem (own_add f4 nc nd) na nb) T7.heap n0 Z7 rfl rfl lnb lna F7 G7 V7 ne gr) hZ (hw _ (List.mem_of_getElem? (i := 30) rfl)) (hw _ (List.mem_of_getElem? (i := 3) rfl)) (by decide) (by decide)) q8a q8c (g := (mkF m 151 #[.val (.int p1), .val (.int p2), .val (.int p3), .val (.int p4), .val (.int p5), .val (.int (Int32.ofNat na)), .val (.int (Int32.ofNat nb)), .val (.int (Int32.ofNat nc)), .val (.int (Int32.ofNat nd)), .val (.int (own_b (¬ (p5 &&& (1 : Int32)) = 0))), .val (.ref b1), .val (.int (own_b ((nc = na ∧ nd = nb) ∨ (nc = nb ∧ nd = na)))), .unset, .unset] [(.int (Int32.ofNat na)), (.int (Int32.ofNat nb)), (.ref b1)])) rfl (by rw [hml]; rfl) (Steps.refl _) (argsL := [(.int (Int32.ofNat nb)), (.int (Int32.ofNat na))]) (rest := []) (lenOf pd_oIIcZ rfl) rfl (by show 2 * 0 + _ ≤ _; exact Nat.le_of_eq rfl) (hb hby at_151) (fun _ _ => ⟨rfl, rfl, (by decide : 2 + 0 ≤ _), (by decide : 392 + 0 ≤ _)⟩)
  dsimp only [Pt.U, Pt.locs, Pt.cells, Pt.slots] at X8 l8 y8 z8 st8 hQ8
  subst l8 y8 z8
  obtain ⟨rfl, N8q, eq8⟩ := hQ8
  have N8 := Fr.app N7 N8q
  have Z8 : n0 ≤ T8.heap.size := by rw [eq8]; exact Z7
  have E8 : Exa Z T8.heap b1 "com/example/tourbound/tourbound/core/EdgeSet" := by rw [eq8]; exact E7
  have F8 : Fld Z T8.heap b1 "com/example/tourbound/tourbound/core/EdgeSet" "words" "I" (.int 3) := by rw [eq8]; exact F7
  have G8 : Fld Z T8.heap b1 "com/example/tourbound/tourbound/core/EdgeSet" "bits" "[J" (.ref r) := by rw [eq8]; exact G7
  have V8 : own_arr Z T8.heap r (own_rem (own_add f4 nc nd) na nb) := by rw [eq8]; exact V7
  have hgone1 : ¬ own_has (own_rem (own_add f4 nc nd) na nb) na nb := fun q => ((own_has_rem _ lna lnb lnb).mp q).2.1 ⟨rfl, rfl⟩
  have hgone2 : ¬ own_has (own_rem (own_add f4 nc nd) na nb) nb na := fun q => ((own_has_rem _ lna lnb lna).mp q).2.2 ⟨rfl, rfl⟩
  have hkept1 : own_has (own_rem (own_add f4 nc nd) na nb) nc nd ↔ ¬ ((nc = na ∧ nd = nb) ∨ (nc = nb ∧ nd = na)) := (own_has_rem _ lna lnb lnd).trans ⟨fun q z => z.elim q.2.1 q.2.2, fun q => ⟨(own_has_add _ lnc lnd lnd).mpr (Or.inr (Or.inl ⟨rfl, rfl⟩)), fun z => q (Or.inl z), fun z => q (Or.inr z)⟩⟩
  have hkept2 : own_has (own_rem (own_add f4 nc nd) na nb) nd nc ↔ ¬ ((nc = na ∧ nd = nb) ∨ (nc = nb ∧ nd = na)) := (own_has_rem _ lna lnb lnc).trans ⟨fun q z => z.elim (fun u => q.2.2 ⟨u.2, u.1⟩) (fun u => q.2.1 ⟨u.2, u.1⟩), fun q => ⟨(own_has_add _ lnc lnd lnc).mpr (Or.inr (Or.inr ⟨rfl, rfl⟩)), fun z => q (Or.inr ⟨z.2, z.1⟩), fun z => q (Or.inl ⟨z.2, z.1⟩)⟩⟩
  obtain ⟨cq9, kq9, q9a, q9b, q9c⟩ := isOf hZ rfl E8
  obtain ⟨_, _, ⟨T9, L9, k9, n9⟩, -, X9, ⟨Lc9, hQ9, l9, y9, z9⟩, st9⟩ := X8.virtualBack hx (y := (⟨"com/example/tourbound/tourbound/core/EdgeSet", "contains", "(II)Z"⟩ : MethodName)) (z := (⟨"com/example/tourbound/tourbound/core/EdgeSet", "contains", "(II)Z"⟩ : MethodName)) hown (mvT hZ (hw _ (List.mem_of_getElem? (i := 26) rfl))) (mvT hZ (hw _ (List.mem_of_getElem? (i := 27) rfl))) (notFace_of_selects (args := #[]) (mvT hZ (hw _ (List.mem_of_getElem? (i := 29) rfl)))) (mvT hZ (hw _ (List.mem_of_getElem? (i := 29) rfl))) (mvT hZ (hw _ (List.mem_of_getElem? (i := 28) rfl))) (by decide) (backOf (W := 0) (rm5 l Z a0 hw [] b1 (Int32.ofNat nc) (Int32.ofNat nd) nc nd r (own_rem (own_add f4 nc nd) na nb) T8.heap n0 Z8 rfl rfl lnc lnd F8 G8 V8 ne gr) hZ (hw _ (List.mem_of_getElem? (i := 30) rfl)) (hw _ (List.mem_of_getElem? (i := 3) rfl)) (by decide) (by decide)) q9a q9c (g := (mkF m 170 #[.val (.int p1), .val (.int p2), .val (.int p3), .val (.int p4), .val (.int p5), .val (.int (Int32.ofNat na)), .val (.int (Int32.ofNat nb)), .val (.int (Int32.ofNat nc)), .val (.int (Int32.ofNat nd)), .val (.int (own_b (¬ (p5 &&& (1 : Int32)) = 0))), .val (.ref b1), .val (.int (own_b ((nc = na ∧ nd = nb) ∨ (nc = nb ∧ nd = na)))), .val (.int (1 : Int32)), .unset] [(.int (Int32.ofNat nd)), (.int (Int32.ofNat nc)), (.ref b1)])) rfl (by rw [hml]; rfl) (Steps.refl _) (argsL := [(.int (Int32.ofNat nc)), (.int (Int32.ofNat nd))]) (rest := []) (lenOf pd_oIIcZ rfl) rfl (by show 2 * 0 + _ ≤ _; exact Nat.le_of_eq rfl) (hb hby at_170) (fun _ _ => ⟨rfl, rfl, (by decide : 2 + 0 ≤ _), (by decide : 392 + 0 ≤ _)⟩)
  dsimp only [Pt.U, Pt.locs, Pt.cells, Pt.slots] at X9 l9 y9 z9 st9 hQ9
  subst l9 y9 z9
  obtain ⟨rfl, N9q, eq9⟩ := hQ9
  have N9 := Fr.app N8 N9q
  have Z9 : n0 ≤ T9.heap.size := by rw [eq9]; exact Z8
  have E9 : Exa Z T9.heap b1 "com/example/tourbound/tourbound/core/EdgeSet" := by rw [eq9]; exact E8
  have F9 : Fld Z T9.heap b1 "com/example/tourbound/tourbound/core/EdgeSet" "words" "I" (.int 3) := by rw [eq9]; exact F8
  have G9 : Fld Z T9.heap b1 "com/example/tourbound/tourbound/core/EdgeSet" "bits" "[J" (.ref r) := by rw [eq9]; exact G8
  have V9 : own_arr Z T9.heap r (own_rem (own_add f4 nc nd) na nb) := by rw [eq9]; exact V8
  have sg173 : ∀ t, Steps p.tables e below (T9.setTop (mkF m 183 #[.val (.int p1), .val (.int p2), .val (.int p3), .val (.int p4), .val (.int p5), .val (.int (Int32.ofNat na)), .val (.int (Int32.ofNat nb)), .val (.int (Int32.ofNat nc)), .val (.int (Int32.ofNat nd)), .val (.int (own_b (¬ (p5 &&& (1 : Int32)) = 0))), .val (.ref b1), .val (.int (own_b ((nc = na ∧ nd = nb) ∨ (nc = nb ∧ nd = na)))), .val (.int (1 : Int32)), .unset] [(.int (own_b (¬ ((nc = na ∧ nd = nb) ∨ (nc = nb ∧ nd = na))))), (.int (own_b (¬ ((own_rem (own_add f4 nc nd) na nb) (own_ix nc nd) &&& own_bit nd) = (0 : Int64))))])) t → Steps p.tables e below (T9.setTop (mkF m 173 #[.val (.int p1), .val (.int p2), .val (.int p3), .val (.int p4), .val (.int p5), .val (.int (Int32.ofNat na)), .val (.int (Int32.ofNat nb)), .val (.int (Int32.ofNat nc)), .val (.int (Int32.ofNat nd)), .val (.int (own_b (¬ (p5 &&& (1 : Int32)) = 0))), .val (.ref b1), .val (.int (own_b ((nc = na ∧ nd = nb) ∨ (nc = nb ∧ nd = na)))), .val (.int (1 : Int32)), .unset] [(.int (own_b (¬ ((own_rem (own_add f4 nc nd) na nb) (own_ix nc nd) &&& own_bit nd) = (0 : Int64))))])) t := by
    intro t k
    by_cases hc : ((nc = na ∧ nd = nb) ∨ (nc = nb ∧ nd = na))
    · rw [own_bf (P := ¬ ((nc = na ∧ nd = nb) ∨ (nc = nb ∧ nd = na))) (fun q => q hc)] at k
      show Steps p.tables e below (T9.setTop (mkF m 173 #[.val (.int p1), .val (.int p2), .val (.int p3), .val (.int p4), .val (.int p5), .val (.int (Int32.ofNat na)), .val (.int (Int32.ofNat nb)), .val (.int (Int32.ofNat nc)), .val (.int (Int32.ofNat nd)), .val (.int (own_b (¬ (p5 &&& (1 : Int32)) = 0))), .val (.ref b1), .val (.int (own_b ((nc = na ∧ nd = nb) ∨ (nc = nb ∧ nd = na)))), .val (.int (1 : Int32)), .unset] [(.int (own_b (¬ ((own_rem (own_add f4 nc nd) na nb) (own_ix nc nd) &&& own_bit nd) = (0 : Int64))))])) _
      refine XS.iload X9.here hx rfl (hb hby at_173) rfl ?_
      show Steps p.tables e below (T9.setTop (mkF m 175 #[.val (.int p1), .val (.int p2), .val (.int p3), .val (.int p4), .val (.int p5), .val (.int (Int32.ofNat na)), .val (.int (Int32.ofNat nb)), .val (.int (Int32.ofNat nc)), .val (.int (Int32.ofNat nd)), .val (.int (own_b (¬ (p5 &&& (1 : Int32)) = 0))), .val (.ref b1), .val (.int (own_b ((nc = na ∧ nd = nb) ∨ (nc = nb ∧ nd = na)))), .val (.int (1 : Int32)), .unset] [(.int (own_b ((nc = na ∧ nd = nb) ∨ (nc = nb ∧ nd = na)))), (.int (own_b (¬ ((own_rem (own_add f4 nc nd) na nb) (own_ix nc nd) &&& own_bit nd) = (0 : Int64))))])) _
      refine XS.ifYes X9.here hx rfl (pc0 := 175) (pc' := 182) rfl (hb hby at_175) rfl ((if0 _ _).trans (feq (by rw [own_bt hc]; decide)).2) (by decide) (by decide) ?_
      show Steps p.tables e below (T9.setTop (mkF m 182 #[.val (.int p1), .val (.int p2), .val (.int p3), .val (.int p4), .val (.int p5), .val (.int (Int32.ofNat na)), .val (.int (Int32.ofNat nb)), .val (.int (Int32.ofNat nc)), .val (.int (Int32.ofNat nd)), .val (.int (own_b (¬ (p5 &&& (1 : Int32)) = 0))), .val (.ref b1), .val (.int (own_b ((nc = na ∧ nd = nb) ∨ (nc = nb ∧ nd = na)))), .val (.int (1 : Int32)), .unset] [(.int (own_b (¬ ((own_rem (own_add f4 nc nd) na nb) (own_ix nc nd) &&& own_bit nd) = (0 : Int64))))])) _
      refine XS.iconst X9.here hx rfl (hb hby at_182) ?_
      exact k
    · rw [own_bt (P := ¬ ((nc = na ∧ nd = nb) ∨ (nc = nb ∧ nd = na))) hc] at k
      show Steps p.tables e below (T9.setTop (mkF m 173 #[.val (.int p1), .val (.int p2), .val (.int p3), .val (.int p4), .val (.int p5), .val (.int (Int32.ofNat na)), .val (.int (Int32.ofNat nb)), .val (.int (Int32.ofNat nc)), .val (.int (Int32.ofNat nd)), .val (.int (own_b (¬ (p5 &&& (1 : Int32)) = 0))), .val (.ref b1), .val (.int (own_b ((nc = na ∧ nd = nb) ∨ (nc = nb ∧ nd = na)))), .val (.int (1 : Int32)), .unset] [(.int (own_b (¬ ((own_rem (own_add f4 nc nd) na nb) (own_ix nc nd) &&& own_bit nd) = (0 : Int64))))])) _
      refine XS.iload X9.here hx rfl (hb hby at_173) rfl ?_
      show Steps p.tables e below (T9.setTop (mkF m 175 #[.val (.int p1), .val (.int p2), .val (.int p3), .val (.int p4), .val (.int p5), .val (.int (Int32.ofNat na)), .val (.int (Int32.ofNat nb)), .val (.int (Int32.ofNat nc)), .val (.int (Int32.ofNat nd)), .val (.int (own_b (¬ (p5 &&& (1 : Int32)) = 0))), .val (.ref b1), .val (.int (own_b ((nc = na ∧ nd = nb) ∨ (nc = nb ∧ nd = na)))), .val (.int (1 : Int32)), .unset] [(.int (own_b ((nc = na ∧ nd = nb) ∨ (nc = nb ∧ nd = na)))), (.int (own_b (¬ ((own_rem (own_add f4 nc nd) na nb) (own_ix nc nd) &&& own_bit nd) = (0 : Int64))))])) _
      refine XS.ifNo X9.here hx rfl (hb hby at_175) rfl ((if0 _ _).trans (teq (own_bf hc)).2) ?_
      show Steps p.tables e below (T9.setTop (mkF m 178 #[.val (.int p1), .val (.int p2), .val (.int p3), .val (.int p4), .val (.int p5), .val (.int (Int32.ofNat na)), .val (.int (Int32.ofNat nb)), .val (.int (Int32.ofNat nc)), .val (.int (Int32.ofNat nd)), .val (.int (own_b (¬ (p5 &&& (1 : Int32)) = 0))), .val (.ref b1), .val (.int (own_b ((nc = na ∧ nd = nb) ∨ (nc = nb ∧ nd = na)))), .val (.int (1 : Int32)), .unset] [(.int (own_b (¬ ((own_rem (own_add f4 nc nd) na nb) (own_ix nc nd) &&& own_bit nd) = (0 : Int64))))])) _
      refine XS.iconst X9.here hx rfl (hb hby at_178) ?_
      show Steps p.tables e below (T9.setTop (mkF m 179 #[.val (.int p1), .val (.int p2), .val (.int p3), .val (.int p4), .val (.int p5), .val (.int (Int32.ofNat na)), .val (.int (Int32.ofNat nb)), .val (.int (Int32.ofNat nc)), .val (.int (Int32.ofNat nd)), .val (.int (own_b (¬ (p5 &&& (1 : Int32)) = 0))), .val (.ref b1), .val (.int (own_b ((nc = na ∧ nd = nb) ∨ (nc = nb ∧ nd = na)))), .val (.int (1 : Int32)), .unset] [(.int (1 : Int32)), (.int (own_b (¬ ((own_rem (own_add f4 nc nd) na nb) (own_ix nc nd) &&& own_bit nd) = (0 : Int64))))])) _
      refine XS.goto X9.here hx rfl (pc0 := 179) (pc' := 183) rfl (hb hby at_179) (by decide) (by decide) ?_
      exact k
  obtain ⟨cq10, kq10, q10a, q10b, q10c⟩ := isOf hZ rfl E9
  obtain ⟨_, _, ⟨T10, L10, k10, n10⟩, -, X10, ⟨Lc10, hQ10, l10, y10, z10⟩, st10⟩ := X9.virtualBack hx (y := (⟨"com/example/tourbound/tourbound/core/EdgeSet", "contains", "(II)Z"⟩ : MethodName)) (z := (⟨"com/example/tourbound/tourbound/core/EdgeSet", "contains", "(II)Z"⟩ : MethodName)) hown (mvT hZ (hw _ (List.mem_of_getElem? (i := 26) rfl))) (mvT hZ (hw _ (List.mem_of_getElem? (i := 27) rfl))) (notFace_of_selects (args := #[]) (mvT hZ (hw _ (List.mem_of_getElem? (i := 29) rfl)))) (mvT hZ (hw _ (List.mem_of_getElem? (i := 29) rfl))) (mvT hZ (hw _ (List.mem_of_getElem? (i := 28) rfl))) (by decide) (backOf (W := 0) (rm5 l Z a0 hw [] b1 (Int32.ofNat nd) (Int32.ofNat nc) nd nc r (own_rem (own_add f4 nc nd) na nb) T9.heap n0 Z9 rfl rfl lnd lnc F9 G9 V9 ne gr) hZ (hw _ (List.mem_of_getElem? (i := 30) rfl)) (hw _ (List.mem_of_getElem? (i := 3) rfl)) (by decide) (by decide)) q10a q10c (g := (mkF m 192 #[.val (.int p1), .val (.int p2), .val (.int p3), .val (.int p4), .val (.int p5), .val (.int (Int32.ofNat na)), .val (.int (Int32.ofNat nb)), .val (.int (Int32.ofNat nc)), .val (.int (Int32.ofNat nd)), .val (.int (own_b (¬ (p5 &&& (1 : Int32)) = 0))), .val (.ref b1), .val (.int (own_b ((nc = na ∧ nd = nb) ∨ (nc = nb ∧ nd = na)))), .val (.int (1 : Int32)), .unset] [(.int (Int32.ofNat nc)), (.int (Int32.ofNat nd)), (.ref b1)])) rfl (by rw [hml]; rfl) (Steps.refl _) (argsL := [(.int (Int32.ofNat nd)), (.int (Int32.ofNat nc))]) (rest := []) (lenOf pd_oIIcZ rfl) rfl (by show 2 * 0 + _ ≤ _; exact Nat.le_of_eq rfl) (hb hby at_192) (fun _ _ => ⟨rfl, rfl, (by decide : 2 + 0 ≤ _), (by decide : 392 + 0 ≤ _)⟩)
  dsimp only [Pt.U, Pt.locs, Pt.cells, Pt.slots] at X10 l10 y10 z10 st10 hQ10
  subst l10 y10 z10
  obtain ⟨rfl, N10q, eq10⟩ := hQ10
  have N10 := Fr.app N9 N10q
  have Z10 : n0 ≤ T10.heap.size := by rw [eq10]; exact Z9
  have E10 : Exa Z T10.heap b1 "com/example/tourbound/tourbound/core/EdgeSet" := by rw [eq10]; exact E9
  have F10 : Fld Z T10.heap b1 "com/example/tourbound/tourbound/core/EdgeSet" "words" "I" (.int 3) := by rw [eq10]; exact F9
  have G10 : Fld Z T10.heap b1 "com/example/tourbound/tourbound/core/EdgeSet" "bits" "[J" (.ref r) := by rw [eq10]; exact G9
  have V10 : own_arr Z T10.heap r (own_rem (own_add f4 nc nd) na nb) := by rw [eq10]; exact V9
  have sg195 : ∀ t, Steps p.tables e below (T10.setTop (mkF m 205 #[.val (.int p1), .val (.int p2), .val (.int p3), .val (.int p4), .val (.int p5), .val (.int (Int32.ofNat na)), .val (.int (Int32.ofNat nb)), .val (.int (Int32.ofNat nc)), .val (.int (Int32.ofNat nd)), .val (.int (own_b (¬ (p5 &&& (1 : Int32)) = 0))), .val (.ref b1), .val (.int (own_b ((nc = na ∧ nd = nb) ∨ (nc = nb ∧ nd = na)))), .val (.int (1 : Int32)), .unset] [(.int (own_b (¬ ((nc = na ∧ nd = nb) ∨ (nc = nb ∧ nd = na))))), (.int (own_b (¬ ((own_rem (own_add f4 nc nd) na nb) (own_ix nd nc) &&& own_bit nc) = (0 : Int64))))])) t → Steps p.tables e below (T10.setTop (mkF m 195 #[.val (.int p1), .val (.int p2), .val (.int p3), .val (.int p4), .val (.int p5), .val (.int (Int32.ofNat na)), .val (.int (Int32.ofNat nb)), .val (.int (Int32.ofNat nc)), .val (.int (Int32.ofNat nd)), .val (.int (own_b (¬ (p5 &&& (1 : Int32)) = 0))), .val (.ref b1), .val (.int (own_b ((nc = na ∧ nd = nb) ∨ (nc = nb ∧ nd = na)))), .val (.int (1 : Int32)), .unset] [(.int (own_b (¬ ((own_rem (own_add f4 nc nd) na nb) (own_ix nd nc) &&& own_bit nc) = (0 : Int64))))])) t := by
    intro t k
    by_cases hc : ((nc = na ∧ nd = nb) ∨ (nc = nb ∧ nd = na))
    · rw [own_bf (P := ¬ ((nc = na ∧ nd = nb) ∨ (nc = nb ∧ nd = na))) (fun q => q hc)] at k
      show Steps p.tables e below (T10.setTop (mkF m 195 #[.val (.int p1), .val (.int p2), .val (.int p3), .val (.int p4), .val (.int p5), .val (.int (Int32.ofNat na)), .val (.int (Int32.ofNat nb)), .val (.int (Int32.ofNat nc)), .val (.int (Int32.ofNat nd)), .val (.int (own_b (¬ (p5 &&& (1 : Int32)) = 0))), .val (.ref b1), .val (.int (own_b ((nc = na ∧ nd = nb) ∨ (nc = nb ∧ nd = na)))), .val (.int (1 : Int32)), .unset] [(.int (own_b (¬ ((own_rem (own_add f4 nc nd) na nb) (own_ix nd nc) &&& own_bit nc) = (0 : Int64))))])) _
      refine XS.iload X10.here hx rfl (hb hby at_195) rfl ?_
      show Steps p.tables e below (T10.setTop (mkF m 197 #[.val (.int p1), .val (.int p2), .val (.int p3), .val (.int p4), .val (.int p5), .val (.int (Int32.ofNat na)), .val (.int (Int32.ofNat nb)), .val (.int (Int32.ofNat nc)), .val (.int (Int32.ofNat nd)), .val (.int (own_b (¬ (p5 &&& (1 : Int32)) = 0))), .val (.ref b1), .val (.int (own_b ((nc = na ∧ nd = nb) ∨ (nc = nb ∧ nd = na)))), .val (.int (1 : Int32)), .unset] [(.int (own_b ((nc = na ∧ nd = nb) ∨ (nc = nb ∧ nd = na)))), (.int (own_b (¬ ((own_rem (own_add f4 nc nd) na nb) (own_ix nd nc) &&& own_bit nc) = (0 : Int64))))])) _
      refine XS.ifYes X10.here hx rfl (pc0 := 197) (pc' := 204) rfl (hb hby at_197) rfl ((if0 _ _).trans (feq (by rw [own_bt hc]; decide)).2) (by decide) (by decide) ?_
      show Steps p.tables e below (T10.setTop (mkF m 204 #[.val (.int p1), .val (.int p2), .val (.int p3), .val (.int p4), .val (.int p5), .val (.int (Int32.ofNat na)), .val (.int (Int32.ofNat nb)), .val (.int (Int32.ofNat nc)), .val (.int (Int32.ofNat nd)), .val (.int (own_b (¬ (p5 &&& (1 : Int32)) = 0))), .val (.ref b1), .val (.int (own_b ((nc = na ∧ nd = nb) ∨ (nc = nb ∧ nd = na)))), .val (.int (1 : Int32)), .unset] [(.int (own_b (¬ ((own_rem (own_add f4 nc nd) na nb) (own_ix nd nc) &&& own_bit nc) = (0 : Int64))))])) _
      refine XS.iconst X10.here hx rfl (hb hby at_204) ?_
      exact k
    · rw [own_bt (P := ¬ ((nc = na ∧ nd = nb) ∨ (nc = nb ∧ nd = na))) hc] at k
      show Steps p.tables e below (T10.setTop (mkF m 195 #[.val (.int p1), .val (.int p2), .val (.int p3), .val (.int p4), .val (.int p5), .val (.int (Int32.ofNat na)), .val (.int (Int32.ofNat nb)), .val (.int (Int32.ofNat nc)), .val (.int (Int32.ofNat nd)), .val (.int (own_b (¬ (p5 &&& (1 : Int32)) = 0))), .val (.ref b1), .val (.int (own_b ((nc = na ∧ nd = nb) ∨ (nc = nb ∧ nd = na)))), .val (.int (1 : Int32)), .unset] [(.int (own_b (¬ ((own_rem (own_add f4 nc nd) na nb) (own_ix nd nc) &&& own_bit nc) = (0 : Int64))))])) _
      refine XS.iload X10.here hx rfl (hb hby at_195) rfl ?_
      show Steps p.tables e below (T10.setTop (mkF m 197 #[.val (.int p1), .val (.int p2), .val (.int p3), .val (.int p4), .val (.int p5), .val (.int (Int32.ofNat na)), .val (.int (Int32.ofNat nb)), .val (.int (Int32.ofNat nc)), .val (.int (Int32.ofNat nd)), .val (.int (own_b (¬ (p5 &&& (1 : Int32)) = 0))), .val (.ref b1), .val (.int (own_b ((nc = na ∧ nd = nb) ∨ (nc = nb ∧ nd = na)))), .val (.int (1 : Int32)), .unset] [(.int (own_b ((nc = na ∧ nd = nb) ∨ (nc = nb ∧ nd = na)))), (.int (own_b (¬ ((own_rem (own_add f4 nc nd) na nb) (own_ix nd nc) &&& own_bit nc) = (0 : Int64))))])) _
      refine XS.ifNo X10.here hx rfl (hb hby at_197) rfl ((if0 _ _).trans (teq (own_bf hc)).2) ?_
      show Steps p.tables e below (T10.setTop (mkF m 200 #[.val (.int p1), .val (.int p2), .val (.int p3), .val (.int p4), .val (.int p5), .val (.int (Int32.ofNat na)), .val (.int (Int32.ofNat nb)), .val (.int (Int32.ofNat nc)), .val (.int (Int32.ofNat nd)), .val (.int (own_b (¬ (p5 &&& (1 : Int32)) = 0))), .val (.ref b1), .val (.int (own_b ((nc = na ∧ nd = nb) ∨ (nc = nb ∧ nd = na)))), .val (.int (1 : Int32)), .unset] [(.int (own_b (¬ ((own_rem (own_add f4 nc nd) na nb) (own_ix nd nc) &&& own_bit nc) = (0 : Int64))))])) _
      refine XS.iconst X10.here hx rfl (hb hby at_200) ?_
      show Steps p.tables e below (T10.setTop (mkF m 201 #[.val (.int p1), .val (.int p2), .val (.int p3), .val (.int p4), .val (.int p5), .val (.int (Int32.ofNat na)), .val (.int (Int32.ofNat nb)), .val (.int (Int32.ofNat nc)), .val (.int (Int32.ofNat nd)), .val (.int (own_b (¬ (p5 &&& (1 : Int32)) = 0))), .val (.ref b1), .val (.int (own_b ((nc = na ∧ nd = nb) ∨ (nc = nb ∧ nd = na)))), .val (.int (1 : Int32)), .unset] [(.int (1 : Int32)), (.int (own_b (¬ ((own_rem (own_add f4 nc nd) na nb) (own_ix nd nc) &&& own_bit nc) = (0 : Int64))))])) _
      refine XS.goto X10.here hx rfl (pc0 := 201) (pc' := 205) rfl (hb hby at_201) (by decide) (by decide) ?_
      exact k
  obtain ⟨fs, hr, hrun, hended, hW, hsame⟩ := X10.leave (v := some (.int (1 : Int32))) (fun h => by rw [Bd.returns] at h; cases h)
  refine ⟨_, _, pre0 _ ?_, hrun, hended, _, _, rfl, ?_, ⟨_, rfl⟩, hW, hsame.mono (by decide) (by decide)⟩
  · show Steps p.tables e below (s₁.setTop (mkF m 0 #[.val (.int p1), .val (.int p2), .val (.int p3), .val (.int p4), .val (.int p5), .unset, .unset, .unset, .unset, .unset, .unset, .unset, .unset, .unset] [])) _
    show Steps p.tables e below (s₁.setTop (mkF m 0 #[.val (.int p1), .val (.int p2), .val (.int p3), .val (.int p4), .val (.int p5), .unset, .unset, .unset, .unset, .unset, .unset, .unset, .unset, .unset] [])) _
    refine XS.iloadN X0.here hx rfl (hb hby at_0) rfl ?_
    show Steps p.tables e below (s₁.setTop (mkF m 1 #[.val (.int p1), .val (.int p2), .val (.int p3), .val (.int p4), .val (.int p5), .unset, .unset, .unset, .unset, .unset, .unset, .unset, .unset, .unset] [(.int p1)])) _
    refine X0.ldcI hx hown (mvT hZ (hw _ (List.mem_of_getElem? (i := 0) rfl))) (g := (mkF m 1 #[.val (.int p1), .val (.int p2), .val (.int p3), .val (.int p4), .val (.int p5), .unset, .unset, .unset, .unset, .unset, .unset, .unset, .unset, .unset] [(.int p1)])) rfl (hb hby at_1) ?_
    show Steps p.tables e below (s₁.setTop (mkF m 3 #[.val (.int p1), .val (.int p2), .val (.int p3), .val (.int p4), .val (.int p5), .unset, .unset, .unset, .unset, .unset, .unset, .unset, .unset, .unset] [(.int (2147483647 : Int32)), (.int p1)])) _
    refine XS.iand X0.here hx rfl (hb hby at_3) rfl ?_
    show Steps p.tables e below (s₁.setTop (mkF m 4 #[.val (.int p1), .val (.int p2), .val (.int p3), .val (.int p4), .val (.int p5), .unset, .unset, .unset, .unset, .unset, .unset, .unset, .unset, .unset] [(.int (p1 &&& (2147483647 : Int32)))])) _
    refine XS.sipush X0.here hx rfl (hb hby at_4) ?_
    show Steps p.tables e below (s₁.setTop (mkF m 7 #[.val (.int p1), .val (.int p2), .val (.int p3), .val (.int p4), .val (.int p5), .unset, .unset, .unset, .unset, .unset, .unset, .unset, .unset, .unset] [(.int (130 : Int32)), (.int (p1 &&& (2147483647 : Int32)))])) _
    refine iremM X0 hx rfl (hb hby at_7) rfl (by decide) ?_
    show Steps p.tables e below (s₁.setTop (mkF m 8 #[.val (.int p1), .val (.int p2), .val (.int p3), .val (.int p4), .val (.int p5), .unset, .unset, .unset, .unset, .unset, .unset, .unset, .unset, .unset] [(.int ((p1 &&& (2147483647 : Int32)) % (130 : Int32)))])) _
    rw [ina]
    show Steps p.tables e below (s₁.setTop (mkF m 8 #[.val (.int p1), .val (.int p2), .val (.int p3), .val (.int p4), .val (.int p5), .unset, .unset, .unset, .unset, .unset, .unset, .unset, .unset, .unset] [(.int (Int32.ofNat na))])) _
    refine XS.istore X0.here hx rfl (hb hby at_8) rfl (l' := #[.val (.int p1), .val (.int p2), .val (.int p3), .val (.int p4), .val (.int p5), .val (.int (Int32.ofNat na)), .unset, .unset, .unset, .unset, .unset, .unset, .unset, .unset]) rfl ?_
    show Steps p.tables e below (s₁.setTop (mkF m 10 #[.val (.int p1), .val (.int p2), .val (.int p3), .val (.int p4), .val (.int p5), .val (.int (Int32.ofNat na)), .unset, .unset, .unset, .unset, .unset, .unset, .unset, .unset] [])) _
    refine XS.iloadN X0.here hx rfl (hb hby at_10) rfl ?_
    show Steps p.tables e below (s₁.setTop (mkF m 11 #[.val (.int p1), .val (.int p2), .val (.int p3), .val (.int p4), .val (.int p5), .val (.int (Int32.ofNat na)), .unset, .unset, .unset, .unset, .unset, .unset, .unset, .unset] [(.int p2)])) _
    refine X0.ldcI hx hown (mvT hZ (hw _ (List.mem_of_getElem? (i := 0) rfl))) (g := (mkF m 11 #[.val (.int p1), .val (.int p2), .val (.int p3), .val (.int p4), .val (.int p5), .val (.int (Int32.ofNat na)), .unset, .unset, .unset, .unset, .unset, .unset, .unset, .unset] [(.int p2)])) rfl (hb hby at_11) ?_
    show Steps p.tables e below (s₁.setTop (mkF m 13 #[.val (.int p1), .val (.int p2), .val (.int p3), .val (.int p4), .val (.int p5), .val (.int (Int32.ofNat na)), .unset, .unset, .unset, .unset, .unset, .unset, .unset, .unset] [(.int (2147483647 : Int32)), (.int p2)])) _
    refine XS.iand X0.here hx rfl (hb hby at_13) rfl ?_
    show Steps p.tables e below (s₁.setTop (mkF m 14 #[.val (.int p1), .val (.int p2), .val (.int p3), .val (.int p4), .val (.int p5), .val (.int (Int32.ofNat na)), .unset, .unset, .unset, .unset, .unset, .unset, .unset, .unset] [(.int (p2 &&& (2147483647 : Int32)))])) _
    refine XS.sipush X0.here hx rfl (hb hby at_14) ?_
    show Steps p.tables e below (s₁.setTop (mkF m 17 #[.val (.int p1), .val (.int p2), .val (.int p3), .val (.int p4), .val (.int p5), .val (.int (Int32.ofNat na)), .unset, .unset, .unset, .unset, .unset, .unset, .unset, .unset] [(.int (130 : Int32)), (.int (p2 &&& (2147483647 : Int32)))])) _
    refine iremM X0 hx rfl (hb hby at_17) rfl (by decide) ?_
    show Steps p.tables e below (s₁.setTop (mkF m 18 #[.val (.int p1), .val (.int p2), .val (.int p3), .val (.int p4), .val (.int p5), .val (.int (Int32.ofNat na)), .unset, .unset, .unset, .unset, .unset, .unset, .unset, .unset] [(.int ((p2 &&& (2147483647 : Int32)) % (130 : Int32)))])) _
    rw [inb]
    show Steps p.tables e below (s₁.setTop (mkF m 18 #[.val (.int p1), .val (.int p2), .val (.int p3), .val (.int p4), .val (.int p5), .val (.int (Int32.ofNat na)), .unset, .unset, .unset, .unset, .unset, .unset, .unset, .unset] [(.int (Int32.ofNat nb))])) _
    refine XS.istore X0.here hx rfl (hb hby at_18) rfl (l' := #[.val (.int p1), .val (.int p2), .val (.int p3), .val (.int p4), .val (.int p5), .val (.int (Int32.ofNat na)), .val (.int (Int32.ofNat nb)), .unset, .unset, .unset, .unset, .unset, .unset, .unset]) rfl ?_
    show Steps p.tables e below (s₁.setTop (mkF m 20 #[.val (.int p1), .val (.int p2), .val (.int p3), .val (.int p4), .val (.int p5), .val (.int (Int32.ofNat na)), .val (.int (Int32.ofNat nb)), .unset, .unset, .unset, .unset, .unset, .unset, .unset] [])) _
    refine XS.iloadN X0.here hx rfl (hb hby at_20) rfl ?_
    show Steps p.tables e below (s₁.setTop (mkF m 21 #[.val (.int p1), .val (.int p2), .val (.int p3), .val (.int p4), .val (.int p5), .val (.int (Int32.ofNat na)), .val (.int (Int32.ofNat nb)), .unset, .unset, .unset, .unset, .unset, .unset, .unset] [(.int p3)])) _
    refine X0.ldcI hx hown (mvT hZ (hw _ (List.mem_of_getElem? (i := 0) rfl))) (g := (mkF m 21 #[.val (.int p1), .val (.int p2), .val (.int p3), .val (.int p4), .val (.int p5), .val (.int (Int32.ofNat na)), .val (.int (Int32.ofNat nb)), .unset, .unset, .unset, .unset, .unset, .unset, .unset] [(.int p3)])) rfl (hb hby at_21) ?_
    show Steps p.tables e below (s₁.setTop (mkF m 23 #[.val (.int p1), .val (.int p2), .val (.int p3), .val (.int p4), .val (.int p5), .val (.int (Int32.ofNat na)), .val (.int (Int32.ofNat nb)), .unset, .unset, .unset, .unset, .unset, .unset, .unset] [(.int (2147483647 : Int32)), (.int p3)])) _
    refine XS.iand X0.here hx rfl (hb hby at_23) rfl ?_
    show Steps p.tables e below (s₁.setTop (mkF m 24 #[.val (.int p1), .val (.int p2), .val (.int p3), .val (.int p4), .val (.int p5), .val (.int (Int32.ofNat na)), .val (.int (Int32.ofNat nb)), .unset, .unset, .unset, .unset, .unset, .unset, .unset] [(.int (p3 &&& (2147483647 : Int32)))])) _
    refine XS.sipush X0.here hx rfl (hb hby at_24) ?_
    show Steps p.tables e below (s₁.setTop (mkF m 27 #[.val (.int p1), .val (.int p2), .val (.int p3), .val (.int p4), .val (.int p5), .val (.int (Int32.ofNat na)), .val (.int (Int32.ofNat nb)), .unset, .unset, .unset, .unset, .unset, .unset, .unset] [(.int (130 : Int32)), (.int (p3 &&& (2147483647 : Int32)))])) _
    refine iremM X0 hx rfl (hb hby at_27) rfl (by decide) ?_
    show Steps p.tables e below (s₁.setTop (mkF m 28 #[.val (.int p1), .val (.int p2), .val (.int p3), .val (.int p4), .val (.int p5), .val (.int (Int32.ofNat na)), .val (.int (Int32.ofNat nb)), .unset, .unset, .unset, .unset, .unset, .unset, .unset] [(.int ((p3 &&& (2147483647 : Int32)) % (130 : Int32)))])) _
    rw [inc]
    show Steps p.tables e below (s₁.setTop (mkF m 28 #[.val (.int p1), .val (.int p2), .val (.int p3), .val (.int p4), .val (.int p5), .val (.int (Int32.ofNat na)), .val (.int (Int32.ofNat nb)), .unset, .unset, .unset, .unset, .unset, .unset, .unset] [(.int (Int32.ofNat nc))])) _
    refine XS.istore X0.here hx rfl (hb hby at_28) rfl (l' := #[.val (.int p1), .val (.int p2), .val (.int p3), .val (.int p4), .val (.int p5), .val (.int (Int32.ofNat na)), .val (.int (Int32.ofNat nb)), .val (.int (Int32.ofNat nc)), .unset, .unset, .unset, .unset, .unset, .unset]) rfl ?_
    show Steps p.tables e below (s₁.setTop (mkF m 30 #[.val (.int p1), .val (.int p2), .val (.int p3), .val (.int p4), .val (.int p5), .val (.int (Int32.ofNat na)), .val (.int (Int32.ofNat nb)), .val (.int (Int32.ofNat nc)), .unset, .unset, .unset, .unset, .unset, .unset] [])) _
    refine XS.iloadN X0.here hx rfl (hb hby at_30) rfl ?_
    show Steps p.tables e below (s₁.setTop (mkF m 31 #[.val (.int p1), .val (.int p2), .val (.int p3), .val (.int p4), .val (.int p5), .val (.int (Int32.ofNat na)), .val (.int (Int32.ofNat nb)), .val (.int (Int32.ofNat nc)), .unset, .unset, .unset, .unset, .unset, .unset] [(.int p4)])) _
    refine X0.ldcI hx hown (mvT hZ (hw _ (List.mem_of_getElem? (i := 0) rfl))) (g := (mkF m 31 #[.val (.int p1), .val (.int p2), .val (.int p3), .val (.int p4), .val (.int p5), .val (.int (Int32.ofNat na)), .val (.int (Int32.ofNat nb)), .val (.int (Int32.ofNat nc)), .unset, .unset, .unset, .unset, .unset, .unset] [(.int p4)])) rfl (hb hby at_31) ?_
    show Steps p.tables e below (s₁.setTop (mkF m 33 #[.val (.int p1), .val (.int p2), .val (.int p3), .val (.int p4), .val (.int p5), .val (.int (Int32.ofNat na)), .val (.int (Int32.ofNat nb)), .val (.int (Int32.ofNat nc)), .unset, .unset, .unset, .unset, .unset, .unset] [(.int (2147483647 : Int32)), (.int p4)])) _
    refine XS.iand X0.here hx rfl (hb hby at_33) rfl ?_
    show Steps p.tables e below (s₁.setTop (mkF m 34 #[.val (.int p1), .val (.int p2), .val (.int p3), .val (.int p4), .val (.int p5), .val (.int (Int32.ofNat na)), .val (.int (Int32.ofNat nb)), .val (.int (Int32.ofNat nc)), .unset, .unset, .unset, .unset, .unset, .unset] [(.int (p4 &&& (2147483647 : Int32)))])) _
    refine XS.sipush X0.here hx rfl (hb hby at_34) ?_
    show Steps p.tables e below (s₁.setTop (mkF m 37 #[.val (.int p1), .val (.int p2), .val (.int p3), .val (.int p4), .val (.int p5), .val (.int (Int32.ofNat na)), .val (.int (Int32.ofNat nb)), .val (.int (Int32.ofNat nc)), .unset, .unset, .unset, .unset, .unset, .unset] [(.int (130 : Int32)), (.int (p4 &&& (2147483647 : Int32)))])) _
    refine iremM X0 hx rfl (hb hby at_37) rfl (by decide) ?_
    show Steps p.tables e below (s₁.setTop (mkF m 38 #[.val (.int p1), .val (.int p2), .val (.int p3), .val (.int p4), .val (.int p5), .val (.int (Int32.ofNat na)), .val (.int (Int32.ofNat nb)), .val (.int (Int32.ofNat nc)), .unset, .unset, .unset, .unset, .unset, .unset] [(.int ((p4 &&& (2147483647 : Int32)) % (130 : Int32)))])) _
    rw [ind]
    show Steps p.tables e below (s₁.setTop (mkF m 38 #[.val (.int p1), .val (.int p2), .val (.int p3), .val (.int p4), .val (.int p5), .val (.int (Int32.ofNat na)), .val (.int (Int32.ofNat nb)), .val (.int (Int32.ofNat nc)), .unset, .unset, .unset, .unset, .unset, .unset] [(.int (Int32.ofNat nd))])) _
    refine XS.istore X0.here hx rfl (hb hby at_38) rfl (l' := #[.val (.int p1), .val (.int p2), .val (.int p3), .val (.int p4), .val (.int p5), .val (.int (Int32.ofNat na)), .val (.int (Int32.ofNat nb)), .val (.int (Int32.ofNat nc)), .val (.int (Int32.ofNat nd)), .unset, .unset, .unset, .unset, .unset]) rfl ?_
    show Steps p.tables e below (s₁.setTop (mkF m 40 #[.val (.int p1), .val (.int p2), .val (.int p3), .val (.int p4), .val (.int p5), .val (.int (Int32.ofNat na)), .val (.int (Int32.ofNat nb)), .val (.int (Int32.ofNat nc)), .val (.int (Int32.ofNat nd)), .unset, .unset, .unset, .unset, .unset] [])) _
    refine sg40 _ ?_
    show Steps p.tables e below (s₁.setTop (mkF m 52 #[.val (.int p1), .val (.int p2), .val (.int p3), .val (.int p4), .val (.int p5), .val (.int (Int32.ofNat na)), .val (.int (Int32.ofNat nb)), .val (.int (Int32.ofNat nc)), .val (.int (Int32.ofNat nd)), .unset, .unset, .unset, .unset, .unset] [(.int (own_b (¬ (p5 &&& (1 : Int32)) = 0)))])) _
    refine XS.istore X0.here hx rfl (hb hby at_52) rfl (l' := #[.val (.int p1), .val (.int p2), .val (.int p3), .val (.int p4), .val (.int p5), .val (.int (Int32.ofNat na)), .val (.int (Int32.ofNat nb)), .val (.int (Int32.ofNat nc)), .val (.int (Int32.ofNat nd)), .val (.int (own_b (¬ (p5 &&& (1 : Int32)) = 0))), .unset, .unset, .unset, .unset]) rfl ?_
    show Steps p.tables e below (s₁.setTop (mkF m 54 #[.val (.int p1), .val (.int p2), .val (.int p3), .val (.int p4), .val (.int p5), .val (.int (Int32.ofNat na)), .val (.int (Int32.ofNat nb)), .val (.int (Int32.ofNat nc)), .val (.int (Int32.ofNat nd)), .val (.int (own_b (¬ (p5 &&& (1 : Int32)) = 0))), .unset, .unset, .unset, .unset] [])) _
    refine st1 _ ?_
    show Steps p.tables e below (T1.setTop (mkF m 57 #[.val (.int p1), .val (.int p2), .val (.int p3), .val (.int p4), .val (.int p5), .val (.int (Int32.ofNat na)), .val (.int (Int32.ofNat nb)), .val (.int (Int32.ofNat nc)), .val (.int (Int32.ofNat nd)), .val (.int (own_b (¬ (p5 &&& (1 : Int32)) = 0))), .unset, .unset, .unset, .unset] [(.ref b1)])) _
    refine XS.dup X1.here hx rfl (hb hby at_57) rfl rfl ?_
    show Steps p.tables e below (T1.setTop (mkF m 58 #[.val (.int p1), .val (.int p2), .val (.int p3), .val (.int p4), .val (.int p5), .val (.int (Int32.ofNat na)), .val (.int (Int32.ofNat nb)), .val (.int (Int32.ofNat nc)), .val (.int (Int32.ofNat nd)), .val (.int (own_b (¬ (p5 &&& (1 : Int32)) = 0))), .unset, .unset, .unset, .unset] [(.ref b1), (.ref b1)])) _
    refine XS.sipush X1.here hx rfl (hb hby at_58) ?_
    show Steps p.tables e below (T1.setTop (mkF m 61 #[.val (.int p1), .val (.int p2), .val (.int p3), .val (.int p4), .val (.int p5), .val (.int (Int32.ofNat na)), .val (.int (Int32.ofNat nb)), .val (.int (Int32.ofNat nc)), .val (.int (Int32.ofNat nd)), .val (.int (own_b (¬ (p5 &&& (1 : Int32)) = 0))), .unset, .unset, .unset, .unset] [(.int (130 : Int32)), (.ref b1), (.ref b1)])) _
    refine st2.trans ?_
    show Steps p.tables e below (T2.setTop (mkF m 64 #[.val (.int p1), .val (.int p2), .val (.int p3), .val (.int p4), .val (.int p5), .val (.int (Int32.ofNat na)), .val (.int (Int32.ofNat nb)), .val (.int (Int32.ofNat nc)), .val (.int (Int32.ofNat nd)), .val (.int (own_b (¬ (p5 &&& (1 : Int32)) = 0))), .unset, .unset, .unset, .unset] [(.ref b1)])) _
    refine XS.astore X2.here hx rfl (hb hby at_64) rfl rfl (l' := #[.val (.int p1), .val (.int p2), .val (.int p3), .val (.int p4), .val (.int p5), .val (.int (Int32.ofNat na)), .val (.int (Int32.ofNat nb)), .val (.int (Int32.ofNat nc)), .val (.int (Int32.ofNat nd)), .val (.int (own_b (¬ (p5 &&& (1 : Int32)) = 0))), .val (.ref b1), .unset, .unset, .unset]) rfl ?_
    show Steps p.tables e below (T2.setTop (mkF m 66 #[.val (.int p1), .val (.int p2), .val (.int p3), .val (.int p4), .val (.int p5), .val (.int (Int32.ofNat na)), .val (.int (Int32.ofNat nb)), .val (.int (Int32.ofNat nc)), .val (.int (Int32.ofNat nd)), .val (.int (own_b (¬ (p5 &&& (1 : Int32)) = 0))), .val (.ref b1), .unset, .unset, .unset] [])) _
    refine st4 _ ?_
    show Steps p.tables e below (T4.setTop (mkF m 80 #[.val (.int p1), .val (.int p2), .val (.int p3), .val (.int p4), .val (.int p5), .val (.int (Int32.ofNat na)), .val (.int (Int32.ofNat nb)), .val (.int (Int32.ofNat nc)), .val (.int (Int32.ofNat nd)), .val (.int (own_b (¬ (p5 &&& (1 : Int32)) = 0))), .val (.ref b1), .unset, .unset, .unset] [])) _
    refine XS.aload X4.here hx rfl (hb hby at_80) rfl rfl ?_
    show Steps p.tables e below (T4.setTop (mkF m 82 #[.val (.int p1), .val (.int p2), .val (.int p3), .val (.int p4), .val (.int p5), .val (.int (Int32.ofNat na)), .val (.int (Int32.ofNat nb)), .val (.int (Int32.ofNat nc)), .val (.int (Int32.ofNat nd)), .val (.int (own_b (¬ (p5 &&& (1 : Int32)) = 0))), .val (.ref b1), .unset, .unset, .unset] [(.ref b1)])) _
    refine XS.iload X4.here hx rfl (hb hby at_82) rfl ?_
    show Steps p.tables e below (T4.setTop (mkF m 84 #[.val (.int p1), .val (.int p2), .val (.int p3), .val (.int p4), .val (.int p5), .val (.int (Int32.ofNat na)), .val (.int (Int32.ofNat nb)), .val (.int (Int32.ofNat nc)), .val (.int (Int32.ofNat nd)), .val (.int (own_b (¬ (p5 &&& (1 : Int32)) = 0))), .val (.ref b1), .unset, .unset, .unset] [(.int (Int32.ofNat nc)), (.ref b1)])) _
    refine XS.iload X4.here hx rfl (hb hby at_84) rfl ?_
    show Steps p.tables e below (T4.setTop (mkF m 86 #[.val (.int p1), .val (.int p2), .val (.int p3), .val (.int p4), .val (.int p5), .val (.int (Int32.ofNat na)), .val (.int (Int32.ofNat nb)), .val (.int (Int32.ofNat nc)), .val (.int (Int32.ofNat nd)), .val (.int (own_b (¬ (p5 &&& (1 : Int32)) = 0))), .val (.ref b1), .unset, .unset, .unset] [(.int (Int32.ofNat nd)), (.int (Int32.ofNat nc)), (.ref b1)])) _
    refine st5.trans ?_
    show Steps p.tables e below (T5.setTop (mkF m 89 #[.val (.int p1), .val (.int p2), .val (.int p3), .val (.int p4), .val (.int p5), .val (.int (Int32.ofNat na)), .val (.int (Int32.ofNat nb)), .val (.int (Int32.ofNat nc)), .val (.int (Int32.ofNat nd)), .val (.int (own_b (¬ (p5 &&& (1 : Int32)) = 0))), .val (.ref b1), .unset, .unset, .unset] [])) _
    refine XS.aload X5.here hx rfl (hb hby at_89) rfl rfl ?_
    show Steps p.tables e below (T5.setTop (mkF m 91 #[.val (.int p1), .val (.int p2), .val (.int p3), .val (.int p4), .val (.int p5), .val (.int (Int32.ofNat na)), .val (.int (Int32.ofNat nb)), .val (.int (Int32.ofNat nc)), .val (.int (Int32.ofNat nd)), .val (.int (own_b (¬ (p5 &&& (1 : Int32)) = 0))), .val (.ref b1), .unset, .unset, .unset] [(.ref b1)])) _
    refine XS.iload X5.here hx rfl (hb hby at_91) rfl ?_
    show Steps p.tables e below (T5.setTop (mkF m 93 #[.val (.int p1), .val (.int p2), .val (.int p3), .val (.int p4), .val (.int p5), .val (.int (Int32.ofNat na)), .val (.int (Int32.ofNat nb)), .val (.int (Int32.ofNat nc)), .val (.int (Int32.ofNat nd)), .val (.int (own_b (¬ (p5 &&& (1 : Int32)) = 0))), .val (.ref b1), .unset, .unset, .unset] [(.int (Int32.ofNat na)), (.ref b1)])) _
    refine XS.iload X5.here hx rfl (hb hby at_93) rfl ?_
    show Steps p.tables e below (T5.setTop (mkF m 95 #[.val (.int p1), .val (.int p2), .val (.int p3), .val (.int p4), .val (.int p5), .val (.int (Int32.ofNat na)), .val (.int (Int32.ofNat nb)), .val (.int (Int32.ofNat nc)), .val (.int (Int32.ofNat nd)), .val (.int (own_b (¬ (p5 &&& (1 : Int32)) = 0))), .val (.ref b1), .unset, .unset, .unset] [(.int (Int32.ofNat nb)), (.int (Int32.ofNat na)), (.ref b1)])) _
    refine st6.trans ?_
    show Steps p.tables e below (T6.setTop (mkF m 98 #[.val (.int p1), .val (.int p2), .val (.int p3), .val (.int p4), .val (.int p5), .val (.int (Int32.ofNat na)), .val (.int (Int32.ofNat nb)), .val (.int (Int32.ofNat nc)), .val (.int (Int32.ofNat nd)), .val (.int (own_b (¬ (p5 &&& (1 : Int32)) = 0))), .val (.ref b1), .unset, .unset, .unset] [])) _
    refine sg98 _ ?_
    show Steps p.tables e below (T6.setTop (mkF m 131 #[.val (.int p1), .val (.int p2), .val (.int p3), .val (.int p4), .val (.int p5), .val (.int (Int32.ofNat na)), .val (.int (Int32.ofNat nb)), .val (.int (Int32.ofNat nc)), .val (.int (Int32.ofNat nd)), .val (.int (own_b (¬ (p5 &&& (1 : Int32)) = 0))), .val (.ref b1), .unset, .unset, .unset] [(.int (own_b ((nc = na ∧ nd = nb) ∨ (nc = nb ∧ nd = na))))])) _
    refine XS.istore X6.here hx rfl (hb hby at_131) rfl (l' := #[.val (.int p1), .val (.int p2), .val (.int p3), .val (.int p4), .val (.int p5), .val (.int (Int32.ofNat na)), .val (.int (Int32.ofNat nb)), .val (.int (Int32.ofNat nc)), .val (.int (Int32.ofNat nd)), .val (.int (own_b (¬ (p5 &&& (1 : Int32)) = 0))), .val (.ref b1), .val (.int (own_b ((nc = na ∧ nd = nb) ∨ (nc = nb ∧ nd = na)))), .unset, .unset]) rfl ?_
    show Steps p.tables e below (T6.setTop (mkF m 133 #[.val (.int p1), .val (.int p2), .val (.int p3), .val (.int p4), .val (.int p5), .val (.int (Int32.ofNat na)), .val (.int (Int32.ofNat nb)), .val (.int (Int32.ofNat nc)), .val (.int (Int32.ofNat nd)), .val (.int (own_b (¬ (p5 &&& (1 : Int32)) = 0))), .val (.ref b1), .val (.int (own_b ((nc = na ∧ nd = nb) ∨ (nc = nb ∧ nd = na)))), .unset, .unset] [])) _
    refine XS.aload X6.here hx rfl (hb hby at_133) rfl rfl ?_
    show Steps p.tables e below (T6.setTop (mkF m 135 #[.val (.int p1), .val (.int p2), .val (.int p3), .val (.int p4), .val (.int p5), .val (.int (Int32.ofNat na)), .val (.int (Int32.ofNat nb)), .val (.int (Int32.ofNat nc)), .val (.int (Int32.ofNat nd)), .val (.int (own_b (¬ (p5 &&& (1 : Int32)) = 0))), .val (.ref b1), .val (.int (own_b ((nc = na ∧ nd = nb) ∨ (nc = nb ∧ nd = na)))), .unset, .unset] [(.ref b1)])) _
    refine XS.iload X6.here hx rfl (hb hby at_135) rfl ?_
    show Steps p.tables e below (T6.setTop (mkF m 137 #[.val (.int p1), .val (.int p2), .val (.int p3), .val (.int p4), .val (.int p5), .val (.int (Int32.ofNat na)), .val (.int (Int32.ofNat nb)), .val (.int (Int32.ofNat nc)), .val (.int (Int32.ofNat nd)), .val (.int (own_b (¬ (p5 &&& (1 : Int32)) = 0))), .val (.ref b1), .val (.int (own_b ((nc = na ∧ nd = nb) ∨ (nc = nb ∧ nd = na)))), .unset, .unset] [(.int (Int32.ofNat na)), (.ref b1)])) _
    refine XS.iload X6.here hx rfl (hb hby at_137) rfl ?_
    show Steps p.tables e below (T6.setTop (mkF m 139 #[.val (.int p1), .val (.int p2), .val (.int p3), .val (.int p4), .val (.int p5), .val (.int (Int32.ofNat na)), .val (.int (Int32.ofNat nb)), .val (.int (Int32.ofNat nc)), .val (.int (Int32.ofNat nd)), .val (.int (own_b (¬ (p5 &&& (1 : Int32)) = 0))), .val (.ref b1), .val (.int (own_b ((nc = na ∧ nd = nb) ∨ (nc = nb ∧ nd = na)))), .unset, .unset] [(.int (Int32.ofNat nb)), (.int (Int32.ofNat na)), (.ref b1)])) _
    refine st7.trans ?_
    show Steps p.tables e below (T7.setTop (mkF m 142 #[.val (.int p1), .val (.int p2), .val (.int p3), .val (.int p4), .val (.int p5), .val (.int (Int32.ofNat na)), .val (.int (Int32.ofNat nb)), .val (.int (Int32.ofNat nc)), .val (.int (Int32.ofNat nd)), .val (.int (own_b (¬ (p5 &&& (1 : Int32)) = 0))), .val (.ref b1), .val (.int (own_b ((nc = na ∧ nd = nb) ∨ (nc = nb ∧ nd = na)))), .unset, .unset] [(.int (own_b (¬ ((own_rem (own_add f4 nc nd) na nb) (own_ix na nb) &&& own_bit nb) = (0 : Int64))))])) _
    refine XS.ifNo X7.here hx rfl (hb hby at_142) rfl ((if0 _ _).trans (teq (own_bf (P := (¬ ((own_rem (own_add f4 nc nd) na nb) (own_ix na nb) &&& own_bit nb) = (0 : Int64))) hgone1)).2) ?_
    show Steps p.tables e below (T7.setTop (mkF m 145 #[.val (.int p1), .val (.int p2), .val (.int p3), .val (.int p4), .val (.int p5), .val (.int (Int32.ofNat na)), .val (.int (Int32.ofNat nb)), .val (.int (Int32.ofNat nc)), .val (.int (Int32.ofNat nd)), .val (.int (own_b (¬ (p5 &&& (1 : Int32)) = 0))), .val (.ref b1), .val (.int (own_b ((nc = na ∧ nd = nb) ∨ (nc = nb ∧ nd = na)))), .unset, .unset] [])) _
    refine XS.aload X7.here hx rfl (hb hby at_145) rfl rfl ?_
    show Steps p.tables e below (T7.setTop (mkF m 147 #[.val (.int p1), .val (.int p2), .val (.int p3), .val (.int p4), .val (.int p5), .val (.int (Int32.ofNat na)), .val (.int (Int32.ofNat nb)), .val (.int (Int32.ofNat nc)), .val (.int (Int32.ofNat nd)), .val (.int (own_b (¬ (p5 &&& (1 : Int32)) = 0))), .val (.ref b1), .val (.int (own_b ((nc = na ∧ nd = nb) ∨ (nc = nb ∧ nd = na)))), .unset, .unset] [(.ref b1)])) _
    refine XS.iload X7.here hx rfl (hb hby at_147) rfl ?_
    show Steps p.tables e below (T7.setTop (mkF m 149 #[.val (.int p1), .val (.int p2), .val (.int p3), .val (.int p4), .val (.int p5), .val (.int (Int32.ofNat na)), .val (.int (Int32.ofNat nb)), .val (.int (Int32.ofNat nc)), .val (.int (Int32.ofNat nd)), .val (.int (own_b (¬ (p5 &&& (1 : Int32)) = 0))), .val (.ref b1), .val (.int (own_b ((nc = na ∧ nd = nb) ∨ (nc = nb ∧ nd = na)))), .unset, .unset] [(.int (Int32.ofNat nb)), (.ref b1)])) _
    refine XS.iload X7.here hx rfl (hb hby at_149) rfl ?_
    show Steps p.tables e below (T7.setTop (mkF m 151 #[.val (.int p1), .val (.int p2), .val (.int p3), .val (.int p4), .val (.int p5), .val (.int (Int32.ofNat na)), .val (.int (Int32.ofNat nb)), .val (.int (Int32.ofNat nc)), .val (.int (Int32.ofNat nd)), .val (.int (own_b (¬ (p5 &&& (1 : Int32)) = 0))), .val (.ref b1), .val (.int (own_b ((nc = na ∧ nd = nb) ∨ (nc = nb ∧ nd = na)))), .unset, .unset] [(.int (Int32.ofNat na)), (.int (Int32.ofNat nb)), (.ref b1)])) _
    refine st8.trans ?_
    show Steps p.tables e below (T8.setTop (mkF m 154 #[.val (.int p1), .val (.int p2), .val (.int p3), .val (.int p4), .val (.int p5), .val (.int (Int32.ofNat na)), .val (.int (Int32.ofNat nb)), .val (.int (Int32.ofNat nc)), .val (.int (Int32.ofNat nd)), .val (.int (own_b (¬ (p5 &&& (1 : Int32)) = 0))), .val (.ref b1), .val (.int (own_b ((nc = na ∧ nd = nb) ∨ (nc = nb ∧ nd = na)))), .unset, .unset] [(.int (own_b (¬ ((own_rem (own_add f4 nc nd) na nb) (own_ix nb na) &&& own_bit na) = (0 : Int64))))])) _
    refine XS.ifNo X8.here hx rfl (hb hby at_154) rfl ((if0 _ _).trans (teq (own_bf (P := (¬ ((own_rem (own_add f4 nc nd) na nb) (own_ix nb na) &&& own_bit na) = (0 : Int64))) hgone2)).2) ?_
    show Steps p.tables e below (T8.setTop (mkF m 157 #[.val (.int p1), .val (.int p2), .val (.int p3), .val (.int p4), .val (.int p5), .val (.int (Int32.ofNat na)), .val (.int (Int32.ofNat nb)), .val (.int (Int32.ofNat nc)), .val (.int (Int32.ofNat nd)), .val (.int (own_b (¬ (p5 &&& (1 : Int32)) = 0))), .val (.ref b1), .val (.int (own_b ((nc = na ∧ nd = nb) ∨ (nc = nb ∧ nd = na)))), .unset, .unset] [])) _
    refine XS.iconst X8.here hx rfl (hb hby at_157) ?_
    show Steps p.tables e below (T8.setTop (mkF m 158 #[.val (.int p1), .val (.int p2), .val (.int p3), .val (.int p4), .val (.int p5), .val (.int (Int32.ofNat na)), .val (.int (Int32.ofNat nb)), .val (.int (Int32.ofNat nc)), .val (.int (Int32.ofNat nd)), .val (.int (own_b (¬ (p5 &&& (1 : Int32)) = 0))), .val (.ref b1), .val (.int (own_b ((nc = na ∧ nd = nb) ∨ (nc = nb ∧ nd = na)))), .unset, .unset] [(.int (1 : Int32))])) _
    refine XS.goto X8.here hx rfl (pc0 := 158) (pc' := 162) rfl (hb hby at_158) (by decide) (by decide) ?_
    show Steps p.tables e below (T8.setTop (mkF m 162 #[.val (.int p1), .val (.int p2), .val (.int p3), .val (.int p4), .val (.int p5), .val (.int (Int32.ofNat na)), .val (.int (Int32.ofNat nb)), .val (.int (Int32.ofNat nc)), .val (.int (Int32.ofNat nd)), .val (.int (own_b (¬ (p5 &&& (1 : Int32)) = 0))), .val (.ref b1), .val (.int (own_b ((nc = na ∧ nd = nb) ∨ (nc = nb ∧ nd = na)))), .unset, .unset] [(.int (1 : Int32))])) _
    refine XS.istore X8.here hx rfl (hb hby at_162) rfl (l' := #[.val (.int p1), .val (.int p2), .val (.int p3), .val (.int p4), .val (.int p5), .val (.int (Int32.ofNat na)), .val (.int (Int32.ofNat nb)), .val (.int (Int32.ofNat nc)), .val (.int (Int32.ofNat nd)), .val (.int (own_b (¬ (p5 &&& (1 : Int32)) = 0))), .val (.ref b1), .val (.int (own_b ((nc = na ∧ nd = nb) ∨ (nc = nb ∧ nd = na)))), .val (.int (1 : Int32)), .unset]) rfl ?_
    show Steps p.tables e below (T8.setTop (mkF m 164 #[.val (.int p1), .val (.int p2), .val (.int p3), .val (.int p4), .val (.int p5), .val (.int (Int32.ofNat na)), .val (.int (Int32.ofNat nb)), .val (.int (Int32.ofNat nc)), .val (.int (Int32.ofNat nd)), .val (.int (own_b (¬ (p5 &&& (1 : Int32)) = 0))), .val (.ref b1), .val (.int (own_b ((nc = na ∧ nd = nb) ∨ (nc = nb ∧ nd = na)))), .val (.int (1 : Int32)), .unset] [])) _
    refine XS.aload X8.here hx rfl (hb hby at_164) rfl rfl ?_
    show Steps p.tables e below (T8.setTop (mkF m 166 #[.val (.int p1), .val (.int p2), .val (.int p3), .val (.int p4), .val (.int p5), .val (.int (Int32.ofNat na)), .val (.int (Int32.ofNat nb)), .val (.int (Int32.ofNat nc)), .val (.int (Int32.ofNat nd)), .val (.int (own_b (¬ (p5 &&& (1 : Int32)) = 0))), .val (.ref b1), .val (.int (own_b ((nc = na ∧ nd = nb) ∨ (nc = nb ∧ nd = na)))), .val (.int (1 : Int32)), .unset] [(.ref b1)])) _
    refine XS.iload X8.here hx rfl (hb hby at_166) rfl ?_
    show Steps p.tables e below (T8.setTop (mkF m 168 #[.val (.int p1), .val (.int p2), .val (.int p3), .val (.int p4), .val (.int p5), .val (.int (Int32.ofNat na)), .val (.int (Int32.ofNat nb)), .val (.int (Int32.ofNat nc)), .val (.int (Int32.ofNat nd)), .val (.int (own_b (¬ (p5 &&& (1 : Int32)) = 0))), .val (.ref b1), .val (.int (own_b ((nc = na ∧ nd = nb) ∨ (nc = nb ∧ nd = na)))), .val (.int (1 : Int32)), .unset] [(.int (Int32.ofNat nc)), (.ref b1)])) _
    refine XS.iload X8.here hx rfl (hb hby at_168) rfl ?_
    show Steps p.tables e below (T8.setTop (mkF m 170 #[.val (.int p1), .val (.int p2), .val (.int p3), .val (.int p4), .val (.int p5), .val (.int (Int32.ofNat na)), .val (.int (Int32.ofNat nb)), .val (.int (Int32.ofNat nc)), .val (.int (Int32.ofNat nd)), .val (.int (own_b (¬ (p5 &&& (1 : Int32)) = 0))), .val (.ref b1), .val (.int (own_b ((nc = na ∧ nd = nb) ∨ (nc = nb ∧ nd = na)))), .val (.int (1 : Int32)), .unset] [(.int (Int32.ofNat nd)), (.int (Int32.ofNat nc)), (.ref b1)])) _
    refine st9.trans ?_
    show Steps p.tables e below (T9.setTop (mkF m 173 #[.val (.int p1), .val (.int p2), .val (.int p3), .val (.int p4), .val (.int p5), .val (.int (Int32.ofNat na)), .val (.int (Int32.ofNat nb)), .val (.int (Int32.ofNat nc)), .val (.int (Int32.ofNat nd)), .val (.int (own_b (¬ (p5 &&& (1 : Int32)) = 0))), .val (.ref b1), .val (.int (own_b ((nc = na ∧ nd = nb) ∨ (nc = nb ∧ nd = na)))), .val (.int (1 : Int32)), .unset] [(.int (own_b (¬ ((own_rem (own_add f4 nc nd) na nb) (own_ix nc nd) &&& own_bit nd) = (0 : Int64))))])) _
    refine sg173 _ ?_
    show Steps p.tables e below (T9.setTop (mkF m 183 #[.val (.int p1), .val (.int p2), .val (.int p3), .val (.int p4), .val (.int p5), .val (.int (Int32.ofNat na)), .val (.int (Int32.ofNat nb)), .val (.int (Int32.ofNat nc)), .val (.int (Int32.ofNat nd)), .val (.int (own_b (¬ (p5 &&& (1 : Int32)) = 0))), .val (.ref b1), .val (.int (own_b ((nc = na ∧ nd = nb) ∨ (nc = nb ∧ nd = na)))), .val (.int (1 : Int32)), .unset] [(.int (own_b (¬ ((nc = na ∧ nd = nb) ∨ (nc = nb ∧ nd = na))))), (.int (own_b (¬ ((own_rem (own_add f4 nc nd) na nb) (own_ix nc nd) &&& own_bit nd) = (0 : Int64))))])) _
    refine XS.icmpNo X9.here hx rfl (hb hby at_183) rfl (teq (own_bc (P := (¬ ((own_rem (own_add f4 nc nd) na nb) (own_ix nc nd) &&& own_bit nd) = (0 : Int64))) (Q := ¬ ((nc = na ∧ nd = nb) ∨ (nc = nb ∧ nd = na))) hkept1)).2 ?_
    show Steps p.tables e below (T9.setTop (mkF m 186 #[.val (.int p1), .val (.int p2), .val (.int p3), .val (.int p4), .val (.int p5), .val (.int (Int32.ofNat na)), .val (.int (Int32.ofNat nb)), .val (.int (Int32.ofNat nc)), .val (.int (Int32.ofNat nd)), .val (.int (own_b (¬ (p5 &&& (1 : Int32)) = 0))), .val (.ref b1), .val (.int (own_b ((nc = na ∧ nd = nb) ∨ (nc = nb ∧ nd = na)))), .val (.int (1 : Int32)), .unset] [])) _
    refine XS.aload X9.here hx rfl (hb hby at_186) rfl rfl ?_
    show Steps p.tables e below (T9.setTop (mkF m 188 #[.val (.int p1), .val (.int p2), .val (.int p3), .val (.int p4), .val (.int p5), .val (.int (Int32.ofNat na)), .val (.int (Int32.ofNat nb)), .val (.int (Int32.ofNat nc)), .val (.int (Int32.ofNat nd)), .val (.int (own_b (¬ (p5 &&& (1 : Int32)) = 0))), .val (.ref b1), .val (.int (own_b ((nc = na ∧ nd = nb) ∨ (nc = nb ∧ nd = na)))), .val (.int (1 : Int32)), .unset] [(.ref b1)])) _
    refine XS.iload X9.here hx rfl (hb hby at_188) rfl ?_
    show Steps p.tables e below (T9.setTop (mkF m 190 #[.val (.int p1), .val (.int p2), .val (.int p3), .val (.int p4), .val (.int p5), .val (.int (Int32.ofNat na)), .val (.int (Int32.ofNat nb)), .val (.int (Int32.ofNat nc)), .val (.int (Int32.ofNat nd)), .val (.int (own_b (¬ (p5 &&& (1 : Int32)) = 0))), .val (.ref b1), .val (.int (own_b ((nc = na ∧ nd = nb) ∨ (nc = nb ∧ nd = na)))), .val (.int (1 : Int32)), .unset] [(.int (Int32.ofNat nd)), (.ref b1)])) _
    refine XS.iload X9.here hx rfl (hb hby at_190) rfl ?_
    show Steps p.tables e below (T9.setTop (mkF m 192 #[.val (.int p1), .val (.int p2), .val (.int p3), .val (.int p4), .val (.int p5), .val (.int (Int32.ofNat na)), .val (.int (Int32.ofNat nb)), .val (.int (Int32.ofNat nc)), .val (.int (Int32.ofNat nd)), .val (.int (own_b (¬ (p5 &&& (1 : Int32)) = 0))), .val (.ref b1), .val (.int (own_b ((nc = na ∧ nd = nb) ∨ (nc = nb ∧ nd = na)))), .val (.int (1 : Int32)), .unset] [(.int (Int32.ofNat nc)), (.int (Int32.ofNat nd)), (.ref b1)])) _
    refine st10.trans ?_
    show Steps p.tables e below (T10.setTop (mkF m 195 #[.val (.int p1), .val (.int p2), .val (.int p3), .val (.int p4), .val (.int p5), .val (.int (Int32.ofNat na)), .val (.int (Int32.ofNat nb)), .val (.int (Int32.ofNat nc)), .val (.int (Int32.ofNat nd)), .val (.int (own_b (¬ (p5 &&& (1 : Int32)) = 0))), .val (.ref b1), .val (.int (own_b ((nc = na ∧ nd = nb) ∨ (nc = nb ∧ nd = na)))), .val (.int (1 : Int32)), .unset] [(.int (own_b (¬ ((own_rem (own_add f4 nc nd) na nb) (own_ix nd nc) &&& own_bit nc) = (0 : Int64))))])) _
    refine sg195 _ ?_
    show Steps p.tables e below (T10.setTop (mkF m 205 #[.val (.int p1), .val (.int p2), .val (.int p3), .val (.int p4), .val (.int p5), .val (.int (Int32.ofNat na)), .val (.int (Int32.ofNat nb)), .val (.int (Int32.ofNat nc)), .val (.int (Int32.ofNat nd)), .val (.int (own_b (¬ (p5 &&& (1 : Int32)) = 0))), .val (.ref b1), .val (.int (own_b ((nc = na ∧ nd = nb) ∨ (nc = nb ∧ nd = na)))), .val (.int (1 : Int32)), .unset] [(.int (own_b (¬ ((nc = na ∧ nd = nb) ∨ (nc = nb ∧ nd = na))))), (.int (own_b (¬ ((own_rem (own_add f4 nc nd) na nb) (own_ix nd nc) &&& own_bit nc) = (0 : Int64))))])) _
    refine XS.icmpNo X10.here hx rfl (hb hby at_205) rfl (teq (own_bc (P := (¬ ((own_rem (own_add f4 nc nd) na nb) (own_ix nd nc) &&& own_bit nc) = (0 : Int64))) (Q := ¬ ((nc = na ∧ nd = nb) ∨ (nc = nb ∧ nd = na))) hkept2)).2 ?_
    show Steps p.tables e below (T10.setTop (mkF m 208 #[.val (.int p1), .val (.int p2), .val (.int p3), .val (.int p4), .val (.int p5), .val (.int (Int32.ofNat na)), .val (.int (Int32.ofNat nb)), .val (.int (Int32.ofNat nc)), .val (.int (Int32.ofNat nd)), .val (.int (own_b (¬ (p5 &&& (1 : Int32)) = 0))), .val (.ref b1), .val (.int (own_b ((nc = na ∧ nd = nb) ∨ (nc = nb ∧ nd = na)))), .val (.int (1 : Int32)), .unset] [])) _
    refine XS.iconst X10.here hx rfl (hb hby at_208) ?_
    show Steps p.tables e below (T10.setTop (mkF m 209 #[.val (.int p1), .val (.int p2), .val (.int p3), .val (.int p4), .val (.int p5), .val (.int (Int32.ofNat na)), .val (.int (Int32.ofNat nb)), .val (.int (Int32.ofNat nc)), .val (.int (Int32.ofNat nd)), .val (.int (own_b (¬ (p5 &&& (1 : Int32)) = 0))), .val (.ref b1), .val (.int (own_b ((nc = na ∧ nd = nb) ∨ (nc = nb ∧ nd = na)))), .val (.int (1 : Int32)), .unset] [(.int (1 : Int32))])) _
    refine XS.goto X10.here hx rfl (pc0 := 209) (pc' := 213) rfl (hb hby at_209) (by decide) (by decide) ?_
    show Steps p.tables e below (T10.setTop (mkF m 213 #[.val (.int p1), .val (.int p2), .val (.int p3), .val (.int p4), .val (.int p5), .val (.int (Int32.ofNat na)), .val (.int (Int32.ofNat nb)), .val (.int (Int32.ofNat nc)), .val (.int (Int32.ofNat nd)), .val (.int (own_b (¬ (p5 &&& (1 : Int32)) = 0))), .val (.ref b1), .val (.int (own_b ((nc = na ∧ nd = nb) ∨ (nc = nb ∧ nd = na)))), .val (.int (1 : Int32)), .unset] [(.int (1 : Int32))])) _
    refine XS.istore X10.here hx rfl (hb hby at_213) rfl (l' := #[.val (.int p1), .val (.int p2), .val (.int p3), .val (.int p4), .val (.int p5), .val (.int (Int32.ofNat na)), .val (.int (Int32.ofNat nb)), .val (.int (Int32.ofNat nc)), .val (.int (Int32.ofNat nd)), .val (.int (own_b (¬ (p5 &&& (1 : Int32)) = 0))), .val (.ref b1), .val (.int (own_b ((nc = na ∧ nd = nb) ∨ (nc = nb ∧ nd = na)))), .val (.int (1 : Int32)), .val (.int (1 : Int32))]) rfl ?_
    show Steps p.tables e below (T10.setTop (mkF m 215 #[.val (.int p1), .val (.int p2), .val (.int p3), .val (.int p4), .val (.int p5), .val (.int (Int32.ofNat na)), .val (.int (Int32.ofNat nb)), .val (.int (Int32.ofNat nc)), .val (.int (Int32.ofNat nd)), .val (.int (own_b (¬ (p5 &&& (1 : Int32)) = 0))), .val (.ref b1), .val (.int (own_b ((nc = na ∧ nd = nb) ∨ (nc = nb ∧ nd = na)))), .val (.int (1 : Int32)), .val (.int (1 : Int32))] [])) _
    refine XS.iload X10.here hx rfl (hb hby at_215) rfl ?_
    show Steps p.tables e below (T10.setTop (mkF m 217 #[.val (.int p1), .val (.int p2), .val (.int p3), .val (.int p4), .val (.int p5), .val (.int (Int32.ofNat na)), .val (.int (Int32.ofNat nb)), .val (.int (Int32.ofNat nc)), .val (.int (Int32.ofNat nd)), .val (.int (own_b (¬ (p5 &&& (1 : Int32)) = 0))), .val (.ref b1), .val (.int (own_b ((nc = na ∧ nd = nb) ∨ (nc = nb ∧ nd = na)))), .val (.int (1 : Int32)), .val (.int (1 : Int32))] [(.int (1 : Int32))])) _
    refine XS.ifNo X10.here hx rfl (hb hby at_217) rfl ((if0 _ _).trans (feq (by decide)).1) ?_
    show Steps p.tables e below (T10.setTop (mkF m 220 #[.val (.int p1), .val (.int p2), .val (.int p3), .val (.int p4), .val (.int p5), .val (.int (Int32.ofNat na)), .val (.int (Int32.ofNat nb)), .val (.int (Int32.ofNat nc)), .val (.int (Int32.ofNat nd)), .val (.int (own_b (¬ (p5 &&& (1 : Int32)) = 0))), .val (.ref b1), .val (.int (own_b ((nc = na ∧ nd = nb) ∨ (nc = nb ∧ nd = na)))), .val (.int (1 : Int32)), .val (.int (1 : Int32))] [])) _
    refine XS.iload X10.here hx rfl (hb hby at_220) rfl ?_
    show Steps p.tables e below (T10.setTop (mkF m 222 #[.val (.int p1), .val (.int p2), .val (.int p3), .val (.int p4), .val (.int p5), .val (.int (Int32.ofNat na)), .val (.int (Int32.ofNat nb)), .val (.int (Int32.ofNat nc)), .val (.int (Int32.ofNat nd)), .val (.int (own_b (¬ (p5 &&& (1 : Int32)) = 0))), .val (.ref b1), .val (.int (own_b ((nc = na ∧ nd = nb) ∨ (nc = nb ∧ nd = na)))), .val (.int (1 : Int32)), .val (.int (1 : Int32))] [(.int (1 : Int32))])) _
    refine XS.ifNo X10.here hx rfl (hb hby at_222) rfl ((if0 _ _).trans (feq (by decide)).1) ?_
    show Steps p.tables e below (T10.setTop (mkF m 225 #[.val (.int p1), .val (.int p2), .val (.int p3), .val (.int p4), .val (.int p5), .val (.int (Int32.ofNat na)), .val (.int (Int32.ofNat nb)), .val (.int (Int32.ofNat nc)), .val (.int (Int32.ofNat nd)), .val (.int (own_b (¬ (p5 &&& (1 : Int32)) = 0))), .val (.ref b1), .val (.int (own_b ((nc = na ∧ nd = nb) ∨ (nc = nb ∧ nd = na)))), .val (.int (1 : Int32)), .val (.int (1 : Int32))] [])) _
    refine XS.iconst X10.here hx rfl (hb hby at_225) ?_
    show Steps p.tables e below (T10.setTop (mkF m 226 #[.val (.int p1), .val (.int p2), .val (.int p3), .val (.int p4), .val (.int p5), .val (.int (Int32.ofNat na)), .val (.int (Int32.ofNat nb)), .val (.int (Int32.ofNat nc)), .val (.int (Int32.ofNat nd)), .val (.int (own_b (¬ (p5 &&& (1 : Int32)) = 0))), .val (.ref b1), .val (.int (own_b ((nc = na ∧ nd = nb) ∨ (nc = nb ∧ nd = na)))), .val (.int (1 : Int32)), .val (.int (1 : Int32))] [(.int (1 : Int32))])) _
    refine XS.goto X10.here hx rfl (pc0 := 226) (pc' := 230) rfl (hb hby at_226) (by decide) (by decide) ?_
    show Steps p.tables e below (T10.setTop (mkF m 230 #[.val (.int p1), .val (.int p2), .val (.int p3), .val (.int p4), .val (.int p5), .val (.int (Int32.ofNat na)), .val (.int (Int32.ofNat nb)), .val (.int (Int32.ofNat nc)), .val (.int (Int32.ofNat nd)), .val (.int (own_b (¬ (p5 &&& (1 : Int32)) = 0))), .val (.ref b1), .val (.int (own_b ((nc = na ∧ nd = nb) ∨ (nc = nb ∧ nd = na)))), .val (.int (1 : Int32)), .val (.int (1 : Int32))] [(.int (1 : Int32))])) _
    exact retN X10 hx (t := .boolean) Bd.returns (by simp) (hb hby at_230) hr
  · exact ⟨rfl, N10⟩
set_option maxRecDepth 65536 in
set_option maxHeartbeats 40000000 in
theorem comes_1 {Post : Tables → Env → Array Value → State → Outcome → State → Prop} (hpost : ∀ tb e args s v u, (limb_1_1.after args s (.returned v) u = true ∧ limb_1_2.after args s (.returned v) u = true ∧ True) → FrameEnd s (.returned v) u (Jvm.fieldLocs frame_1_writes args s ++ Jvm.arrayLocs frame_1_arrays args s ++ Jvm.staticLocs frame_1_statics s) 16 896 → Post tb e args s (.returned v) u) :
    ArmFor flags0 classFile x code maxLocals ret World_1 tables_1 room_1 Calls_1 rest_1 Pre_1 Post := by
  intro l hfl _ _ p e ha hc hk s m args below hf hA hF happ hP
  obtain ⟨hcalls, hrest, hpre⟩ := hP
  obtain ⟨-, -, -, hnamed, -, -, -, hat⟩ := (Spec.applies_iff hf).mp happ
  obtain ⟨hg, hn⟩ := and_e (Cond.before_iff.mp (show (Jvm.Cond.and given_1 narrow_1).before args s = true from hpre))
  obtain ⟨h1, g1⟩ := and_e hg
  obtain ⟨w0, w1, w2, w3, w4, rfl⟩ : ∃ w0 w1 w2 w3 w4 : Value, args = #[w0, w1, w2, w3, w4] := by
    have hs : args.size = 5 := by simpa [Cond.value, given_1] using h1
    obtain ⟨L⟩ := args
    match L, hs with
    | [w0, w1, w2, w3, w4], _ => exact ⟨w0, w1, w2, w3, w4, rfl⟩
  obtain ⟨f1, g2⟩ := and_e g1
  obtain ⟨i0, e0⟩ := is_v f1
  obtain rfl : w0 = (.int i0) := Option.some.inj e0
  obtain ⟨f2, g3⟩ := and_e g2
  obtain ⟨i1, e1⟩ := is_v f2
  obtain rfl : w1 = (.int i1) := Option.some.inj e1
  obtain ⟨f3, g4⟩ := and_e g3
  obtain ⟨i2, e2⟩ := is_v f3
  obtain rfl : w2 = (.int i2) := Option.some.inj e2
  obtain ⟨f4, g5⟩ := and_e g4
  obtain ⟨i3, e3⟩ := is_v f4
  obtain rfl : w3 = (.int i3) := Option.some.inj e3
  obtain ⟨i4, e4⟩ := is_v g5
  obtain rfl : w4 = (.int i4) := Option.some.inj e4
  have hw := fun d (hd : d ∈ tables_1) => atoms_spec (ws := Jvm.Cond.code x code maxLocals ret :: tables_1) hat d (List.mem_cons_of_mem _ hd)
  obtain ⟨n, o, h1, h2, h3, _, L, rfl, ⟨rfl, N⟩, hq⟩ := rm0 l s _ hw tables_1 i0 i1 i2 i3 i4 s.heap s.heap.size (Nat.le_refl _)  p e ha hc hk s m _ below hf ((Spec.applies_iff_loose hf).mp happ).1 ⟨rfl, State.Warmed39.refl s, rfl⟩ trivial
  refine ⟨n, _, h1, h2, h3, hpost _ _ _ _ _ _ ⟨Cond.after_iff.mpr rfl, Cond.after_iff.mpr (eq_i res_at (Term.int_eval (1)) rfl), trivial⟩ ⟨hq.1, hq.2.1, (hq.2.2.sift fun y hy => Or.inr (N y hy)).mono (by decide) (by decide)⟩⟩
theorem main_1_1 : Claimed_1_1 := comes_1 fun _ _ _ _ _ _ h hF => ⟨h.1, hF⟩
theorem main_1_2 : Claimed_1_2 := comes_1 fun _ _ _ _ _ _ h hF => ⟨h.2.1, hF⟩
end Jvm.Pilot.@@N@@
namespace Jvm.Pilot.@@N@@
open Jvm Jvm.ClassFile Sem Op Lib Jvm.Free Jvm.Stand Jvm.Pilot.@@N@@.Jvm.D
/-! MADE BY PROGRAM (witnessworld.py) out of the Statement's table words and the real class files: 11 classes; the members and pool entries that the words name. The judged class is class 1, her method 1. -/
namespace start1
open Jvm.ClassFile
def u (s : String) : CpInfo := .utf8 (stringToUtf16 s)
/-- a pool by its gaps: so many unusable entries, then the entry; so many at the end -/
def gap : Nat → List CpInfo → List CpInfo
  | 0, r => r
  | n + 1, r => .unusable :: gap n r
def poolList (es : List (Nat × CpInfo)) (last : Nat) : List CpInfo := es.foldr (fun e r => gap e.1 (e.2 :: r)) (gap last [])
def pool (es : List (Nat × CpInfo)) (last : Nat) : Array CpInfo := ⟨poolList es last⟩
def fileOf (pool : Array CpInfo) (this : Nat) (attrs : Array Attribute := #[]) (ms : Array MethodInfo := #[]) (fl : Nat := 33) (sup : Nat := 0) (ifs : Array Nat := #[]) (fds : Array FieldInfo := #[]) : ClassFile where
  minorVersion := 0
  majorVersion := 65
  constantPool := pool
  accessFlags := fl
  thisClass := this
  superClass := sup
  interfaces := ifs
  fields := fds
  methods := ms
  attributes := attrs
def plain (name : String) (sup : Option ClassId) : Class where
  name := name
  kind := .ordinary
  loader := none
  accessFlags := 33
  super := sup
  interfaces := #[]
  cf := none
  fields := #[]
  methods := #[]
  instanceTypes := #[]
  staticTypes := #[]
  resolved := #[]
  callSites := []
  init := .initialized
  statics := none
  mirror := none

def pool0 : Array CpInfo := pool [(5, u "<init>"), (0, u "()V"), (1, .class_ 10), (1, u "java/lang/Object")] 113

def k0c0 : Code := { maxStack := 0, maxLocals := 1, code := object_method_1_code, exceptionTable := #[], attributes := #[] }
def k0m0 : Method := { name := "<init>", desc := "()V", sig := { parameters := [], returnType := none }, accessFlags := 1, code := some k0c0 }
/-- java/lang/Object -/
def k0 : Class := { plain "java/lang/Object" none with
  accessFlags := 33
  interfaces := #[]
  cf := some (fileOf pool0 8 #[] #[{ accessFlags := 1, nameIndex := 5, descriptorIndex := 6, attributes := #[] }] 33 0 #[] #[])
  fields := #[]
  methods := #[k0m0]
  instanceTypes := #[]
  staticTypes := #[]
  resolved := Array.replicate 124 none
  statics := none }

def pool1 : Array CpInfo := pool [(2, .class_ 4), (1, u "java/lang/Object"), (0, u "<init>"), (0, u "()V"), (0, .integer 2147483647), (0, .class_ 9), (0, u "com/example/tourbound/tourbound/core/EdgeSet"), (0, .methodref 8 11), (0, .nameAndType 5 12), (0, u "(I)V"), (0, .methodref 8 14), (0, .nameAndType 15 16), (0, u "add"), (0, u "(II)V"), (0, .methodref 8 18), (0, .nameAndType 19 16), (0, u "remove"), (0, .methodref 8 21), (0, .nameAndType 22 23), (0, u "contains"), (0, u "(II)Z"), (0, .class_ 25), (0, u "com/example/tourbound/tourbound/core/EdgeSetRemovePinLaw"), (2, u "law"), (0, u "(IIIII)Z")] 3

def k1m0 : Method := { name := "<init>", desc := "()V", sig := { parameters := [], returnType := none }, accessFlags := 1, code := none }
def k1c1 : Code := { maxStack := 3, maxLocals := 14, code := code, exceptionTable := #[], attributes := #[] }
def k1m1 : Method := { name := "law", desc := "(IIIII)Z", sig := { parameters := [.int, .int, .int, .int, .int], returnType := some .boolean }, accessFlags := 9, code := some k1c1 }
/-- com/example/tourbound/tourbound/core/EdgeSetRemovePinLaw -/
def k1 : Class := { plain "com/example/tourbound/tourbound/core/EdgeSetRemovePinLaw" (some 0) with
  accessFlags := 49
  interfaces := #[]
  cf := some (fileOf pool1 24 #[] #[{ accessFlags := 1, nameIndex := 5, descriptorIndex := 6, attributes := #[] }, { accessFlags := 9, nameIndex := 28, descriptorIndex := 29, attributes := #[] }] 49 2 #[] #[])
  fields := #[]
  methods := #[k1m0, k1m1]
  instanceTypes := #[]
  staticTypes := #[]
  resolved := Array.replicate 33 none
  statics := none }

def pool2 : Array CpInfo := pool [(1, .methodref 2 3), (0, .class_ 4), (0, .nameAndType 5 6), (0, u "java/lang/Object"), (0, u "<init>"), (0, u "()V"), (2, .fieldref 10 11), (0, .class_ 12), (0, .nameAndType 13 14), (0, u "com/example/tourbound/tourbound/core/EdgeSet"), (0, u "words"), (0, u "I"), (0, .fieldref 10 16), (0, .nameAndType 17 18), (0, u "bits"), (0, u "[J"), (6, .long 18446744073709551615), (1, u "(I)V"), (3, u "add"), (0, u "(II)V"), (0, u "remove"), (0, u "contains"), (0, u "(II)Z")] 6

def k2c0 : Code := { maxStack := 3, maxLocals := 2, code := prog_8_method_1_code, exceptionTable := #[], attributes := #[] }
def k2m0 : Method := { name := "<init>", desc := "(I)V", sig := { parameters := [.int], returnType := none }, accessFlags := 0, code := some k2c0 }
def k2c1 : Code := { maxStack := 7, maxLocals := 3, code := prog_8_method_3_code, exceptionTable := #[], attributes := #[] }
def k2m1 : Method := { name := "add", desc := "(II)V", sig := { parameters := [.int, .int], returnType := none }, accessFlags := 0, code := some k2c1 }
def k2c2 : Code := { maxStack := 8, maxLocals := 3, code := prog_8_method_4_code, exceptionTable := #[], attributes := #[] }
def k2m2 : Method := { name := "remove", desc := "(II)V", sig := { parameters := [.int, .int], returnType := none }, accessFlags := 0, code := some k2c2 }
def k2c3 : Code := { maxStack := 5, maxLocals := 3, code := prog_8_method_5_code, exceptionTable := #[], attributes := #[] }
def k2m3 : Method := { name := "contains", desc := "(II)Z", sig := { parameters := [.int, .int], returnType := some .boolean }, accessFlags := 0, code := some k2c3 }
/-- com/example/tourbound/tourbound/core/EdgeSet -/
def k2 : Class := { plain "com/example/tourbound/tourbound/core/EdgeSet" (some 0) with
  accessFlags := 48
  interfaces := #[]
  cf := some (fileOf pool2 10 #[] #[{ accessFlags := 0, nameIndex := 5, descriptorIndex := 27, attributes := #[] }, { accessFlags := 0, nameIndex := 31, descriptorIndex := 32, attributes := #[] }, { accessFlags := 0, nameIndex := 33, descriptorIndex := 32, attributes := #[] }, { accessFlags := 0, nameIndex := 34, descriptorIndex := 35, attributes := #[] }] 48 2 #[] #[{ accessFlags := 18, nameIndex := 13, descriptorIndex := 14, attributes := #[] }, { accessFlags := 18, nameIndex := 17, descriptorIndex := 18, attributes := #[] }])
  fields := #[{ name := "words", type := .int, accessFlags := 18, slot := 0, constantValue := 0 }, { name := "bits", type := (.array .long), accessFlags := 18, slot := 1, constantValue := 0 }]
  methods := #[k2m0, k2m1, k2m2, k2m3]
  instanceTypes := #[.int, (.array .long)]
  staticTypes := #[]
  resolved := Array.replicate 42 none
  statics := none }

def pool3 : Array CpInfo := pool [(1, u "java/lang/Cloneable"), (0, .class_ 1), (0, u "java/lang/Object"), (0, .class_ 3)] 3

/-- java/lang/Cloneable -/
def k3 : Class := { plain "java/lang/Cloneable" (some 0) with
  accessFlags := 1537
  interfaces := #[]
  cf := some (fileOf pool3 2 #[] #[] 1537 4 #[] #[])
  fields := #[]
  methods := #[]
  instanceTypes := #[]
  staticTypes := #[]
  resolved := Array.replicate 8 none
  statics := none }

def pool4 : Array CpInfo := pool [(1, u "java/io/Serializable"), (0, .class_ 1), (0, u "java/lang/Object"), (0, .class_ 3)] 3

/-- java/io/Serializable -/
def k4 : Class := { plain "java/io/Serializable" (some 0) with
  accessFlags := 1537
  interfaces := #[]
  cf := some (fileOf pool4 2 #[] #[] 1537 4 #[] #[])
  fields := #[]
  methods := #[]
  instanceTypes := #[]
  staticTypes := #[]
  resolved := Array.replicate 8 none
  statics := none }

/-- the primitive byte -/
def k5 : Class := { plain "byte" none with kind := .primitive 'B', accessFlags := 0x411 }
/-- [B -/
def k6 : Class := { plain "[B" (some 0) with kind := .array 5 .byte, interfaces := #[3, 4], accessFlags := 1041 }

/-- the primitive int -/
def k7 : Class := { plain "int" none with kind := .primitive 'I', accessFlags := 0x411 }
/-- [I -/
def k8 : Class := { plain "[I" (some 0) with kind := .array 7 .int, interfaces := #[3, 4], accessFlags := 1041 }

/-- the primitive long -/
def k9 : Class := { plain "long" none with kind := .primitive 'J', accessFlags := 0x411 }
/-- [J -/
def k10 : Class := { plain "[J" (some 0) with kind := .array 9 .long, interfaces := #[3, 4], accessFlags := 1041 }

def heap : Heap := #[]
def classes : Array Class := #[k0, k1, k2, k3, k4, k5, k6, k7, k8, k9, k10]
def interned : List (Array UInt16 × Addr) := []
def slotsUsed : Nat := 0
def theMethod : MethodId := ⟨1, 1⟩
def args0 : Array Value := #[.int 5, .int 3, .int 7, .int 9, .int 1]
def aboutOver (below : List Frame) : State where
  vm := { classes := classes, interned := interned.toArray }
  heap := heap
  slotsUsed := slotsUsed
  threads := #[{ frames := .invoking theMethod args0 :: below }]
def below0 : List Frame := [.native { method := ⟨0, 0⟩, args := #[] }]
def about1 : State := aboutOver below0
def p0 : Program := .bare "" "" ""
def e0 : Env := launch0.env 0 0 0
theorem w_frames : about1.frames = Frame.invoking theMethod args0 :: below0 := rfl
set_option maxRecDepth 65536 in
theorem w_args : argsFit about1.vm theMethod args0 = true := by decide +kernel
set_option maxRecDepth 65536 in
theorem w_heap : heapFits about1 = true := by decide +kernel
set_option maxRecDepth 65536 in
theorem w_runnable : about1.curStatus? = some .runnable := by decide +kernel
set_option maxRecDepth 65536 in
theorem w_alone : about1.alone = true := by decide +kernel
set_option maxRecDepth 65536 in
theorem w_named : about1.methodNamed? x = some theMethod := by decide +kernel
set_option maxRecDepth 65536 in
theorem w_hears : about1.hears theMethod below0 = true := by decide +kernel
set_option maxRecDepth 65536 in
theorem w_ripe : about1.ripe theMethod args0 below0 = true := by decide +kernel
theorem w_running : about1.status = .running := rfl
set_option maxRecDepth 65536 in
theorem w_room : about1.hasRoom e0.platform room_1 = true :=
  launch0.hasRoom_least _ room_1 (by decide +kernel) (by decide +kernel) (by decide +kernel) (by decide +kernel) (by decide +kernel) (by decide +kernel)
theorem allAtoms_all (ts : List Jvm.Cond) (a : Array Jvm.Value) (st : Jvm.State) : (allAtoms ts).before a st = ts.all (fun c => c.before a st) := by
  induction ts with
  | nil => rfl
  | cons c t ih =>
    show (Jvm.Cond.and c (allAtoms t)).before a st = _
    rw [Jvm.Cond.before_and, ih, List.all_cons]
def words1 : List Jvm.Cond := Jvm.Cond.code x code maxLocals ret :: tables_1
/-- a 'code' word, met by the world's own term for the bytes: nothing is compared byte by byte -/
theorem code_word {y : MethodName} {bytes : ByteArray} {mx : Nat} {rt : Option FieldType} {a : Array Value} {s : State} {m : MethodId} {meth : Method} {c : Code} (h1 : s.methodNamed? y = some m) (h2 : s.vm.method? m = some meth) (h3 : meth.code = some c) (h4 : c.code = bytes)
    (h5 : (c.maxLocals == mx && c.exceptionTable.isEmpty && decide (c.maxStack ≤ mostOperands) && decide (meth.sig.returnType = rt) && !meth.locks && decide (parseMethodDescriptor y.desc = some meth.sig)) = true) : (Jvm.Cond.code y bytes mx rt).before a s = true := by
  simp only [Bool.and_eq_true, beq_iff_eq, Bool.not_eq_true', decide_eq_true_eq] at h5
  obtain ⟨⟨⟨⟨⟨g1, g2⟩, g3⟩, g4⟩, g5⟩, g6⟩ := h5
  simp [Cond.before, Cond.holds, Cond.value, h1, h2, h3, h4, g1, g2, g3, g4, g5, g6]
def isCode : Jvm.Cond → Bool
  | .code _ _ _ _ => true
  | _ => false
theorem all_split {L : List Jvm.Cond} {P : Jvm.Cond → Bool} (h1 : L.all (fun c => isCode c || P c) = true) (h2 : ∀ c ∈ L.filter isCode, P c = true) : L.all P = true := by
  refine List.all_eq_true.mpr fun c hc => ?_
  have h := List.all_eq_true.mp h1 c hc
  rcases Bool.eq_false_or_eq_true (isCode c) with hi | hi
  · exact h2 c (List.mem_filter.mpr ⟨hc, hi⟩)
  · simpa [hi] using h
set_option maxRecDepth 65536 in
theorem w_c0 : (Jvm.Cond.code x code maxLocals ret).before args0 about1 = true := code_word (m := ⟨1, 1⟩) (meth := k1m1) (c := k1c1) (by decide +kernel) rfl rfl rfl (by decide +kernel)
set_option maxRecDepth 65536 in
theorem w_c1 : (Jvm.Cond.code ({ cls := "com/example/tourbound/tourbound/core/EdgeSet", name := "<init>", desc := "(I)V" } : Jvm.MethodName) prog_8_method_1_code (2 : Nat) (Option.none : Option Jvm.ClassFile.FieldType)).before args0 about1 = true := code_word (m := ⟨2, 0⟩) (meth := k2m0) (c := k2c0) (by decide +kernel) rfl rfl rfl (by decide +kernel)
set_option maxRecDepth 65536 in
theorem w_c2 : (Jvm.Cond.code ({ cls := "java/lang/Object", name := "<init>", desc := "()V" } : Jvm.MethodName) object_method_1_code (1 : Nat) (Option.none : Option Jvm.ClassFile.FieldType)).before args0 about1 = true := code_word (m := ⟨0, 0⟩) (meth := k0m0) (c := k0c0) (by decide +kernel) rfl rfl rfl (by decide +kernel)
set_option maxRecDepth 65536 in
theorem w_c3 : (Jvm.Cond.code ({ cls := "com/example/tourbound/tourbound/core/EdgeSet", name := "add", desc := "(II)V" } : Jvm.MethodName) prog_8_method_3_code (3 : Nat) (Option.none : Option Jvm.ClassFile.FieldType)).before args0 about1 = true := code_word (m := ⟨2, 1⟩) (meth := k2m1) (c := k2c1) (by decide +kernel) rfl rfl rfl (by decide +kernel)
set_option maxRecDepth 65536 in
theorem w_c4 : (Jvm.Cond.code ({ cls := "com/example/tourbound/tourbound/core/EdgeSet", name := "remove", desc := "(II)V" } : Jvm.MethodName) prog_8_method_4_code (3 : Nat) (Option.none : Option Jvm.ClassFile.FieldType)).before args0 about1 = true := code_word (m := ⟨2, 2⟩) (meth := k2m2) (c := k2c2) (by decide +kernel) rfl rfl rfl (by decide +kernel)
set_option maxRecDepth 65536 in
theorem w_c5 : (Jvm.Cond.code ({ cls := "com/example/tourbound/tourbound/core/EdgeSet", name := "contains", desc := "(II)Z" } : Jvm.MethodName) prog_8_method_5_code (3 : Nat) (Option.some Jvm.ClassFile.FieldType.boolean)).before args0 about1 = true := code_word (m := ⟨2, 3⟩) (meth := k2m3) (c := k2c3) (by decide +kernel) rfl rfl rfl (by decide +kernel)
def codes1 : List Jvm.Cond := [Jvm.Cond.code x code maxLocals ret, Jvm.Cond.code ({ cls := "com/example/tourbound/tourbound/core/EdgeSet", name := "<init>", desc := "(I)V" } : Jvm.MethodName) prog_8_method_1_code (2 : Nat) (Option.none : Option Jvm.ClassFile.FieldType), Jvm.Cond.code ({ cls := "java/lang/Object", name := "<init>", desc := "()V" } : Jvm.MethodName) object_method_1_code (1 : Nat) (Option.none : Option Jvm.ClassFile.FieldType), Jvm.Cond.code ({ cls := "com/example/tourbound/tourbound/core/EdgeSet", name := "add", desc := "(II)V" } : Jvm.MethodName) prog_8_method_3_code (3 : Nat) (Option.none : Option Jvm.ClassFile.FieldType), Jvm.Cond.code ({ cls := "com/example/tourbound/tourbound/core/EdgeSet", name := "remove", desc := "(II)V" } : Jvm.MethodName) prog_8_method_4_code (3 : Nat) (Option.none : Option Jvm.ClassFile.FieldType), Jvm.Cond.code ({ cls := "com/example/tourbound/tourbound/core/EdgeSet", name := "contains", desc := "(II)Z" } : Jvm.MethodName) prog_8_method_5_code (3 : Nat) (Option.some Jvm.ClassFile.FieldType.boolean)]
set_option maxRecDepth 65536 in
theorem codes_eq : words1.filter isCode = codes1 := rfl
theorem w_codes : ∀ c ∈ words1.filter isCode, c.before args0 about1 = true := by
  rw [codes_eq]
  intro c hc
  simp only [codes1, List.mem_cons, List.not_mem_nil, or_false] at hc
  rcases hc with rfl | rfl | rfl | rfl | rfl | rfl
  · exact w_c0
  · exact w_c1
  · exact w_c2
  · exact w_c3
  · exact w_c4
  · exact w_c5
set_option maxRecDepth 65536 in
theorem w_t1 : (words1.take 24).all (fun c => isCode c || c.before args0 about1) = true := by decide +kernel
set_option maxRecDepth 65536 in
theorem w_t2 : (words1.drop 24).all (fun c => isCode c || c.before args0 about1) = true := by decide +kernel
theorem w_tables : (allAtoms (Jvm.Cond.code x code maxLocals ret :: tables_1)).before args0 about1 = true := by
  rw [allAtoms_all]
  show words1.all (fun c => c.before args0 about1) = true
  refine all_split ?_ w_codes
  rw [← List.take_append_drop 24 words1, List.all_append, w_t1, w_t2]
  rfl
set_option maxRecDepth 65536 in
theorem w_case : (Jvm.Cond.and given_1 narrow_1).before args0 about1 = true := by decide +kernel
theorem w_applies : (headSpec (Jvm.Cond.code x code maxLocals ret :: tables_1) room_1).applies x e0.platform about1 = true :=
  (Spec.applies_iff w_frames).mpr ⟨w_running, w_runnable, w_alone, w_named, w_hears, w_ripe, w_room, w_tables⟩
theorem atStart : AtStart classFile x code maxLocals ret World_1 tables_1 room_1 Calls_1 rest_1 Pre_1 launch0 p0 e0 about1 theMethod args0 below0 :=
  ⟨lists_1, trivial, launch0.admits_env _ _ _, launch0.least_env, fairChoices_fair.cas, fairChoices_fair.clock, w_frames, w_args, w_heap, w_applies, trivial, trivial, w_case⟩
end start1
theorem witness_1 : WitnessClaimed_1 := ⟨start1.p0, start1.e0, start1.about1, start1.theMethod, start1.args0, start1.below0, start1.atStart⟩
end Jvm.Pilot.@@N@@
