import JvmDerived
import JvmDerived.Pilot.@@N@@Statement
import JvmDerived.Pilot.@@N@@Code
set_option linter.unusedVariables false
set_option linter.unusedSimpArgs false
namespace Jvm.RoadKit
open Sem ClassFile Op Lib Jvm.Stand Jvm.Free Jvm.LawKit
section New
variable {p : Program} {l : Launch} {e : Env} {R : Room} {s : State} {m : MethodId} {args : Array Value} {below : List Frame} {meth : Method} {c : Code} {T : State} {locs : List Loc} {cells slots : Nat}
theorem retI (X : Stand p l e R s m args below meth c T locs cells slots) (hx : p.tables.exec = Jvm.exec) {pc : Nat} {Ls : Array Slot} {z : Int32} {rest : List Value} (hret : meth.sig.returnType = some .int) (hd : decode c.code pc = .ok (.ireturn, 1)) {fs : List Frame}
    (hl : ∀ (f : JFrame) (acts : List Action), f.method = m → f.locked = none → f.entered = [] → (doReturn e (T.setTop f) acts (some (.int z))).1 = T.setFrames fs) : Steps p.tables e below (T.setTop (mkF m pc Ls (.int z :: rest))) (T.setFrames fs) := by
  have hm' : T.vm.method? m = some meth := X.method'
  have hn : narrow .int (.int z) = .int z := rfl
  show Steps p.tables e below (T.setTop { method := m, pc := pc, locals := Ls, stack := _ :: rest, locked := none }) _
  jvm_step X.here [X.here.top, hx, hd, hm', hret, hn]
  first | (intro acts; rw [hl _ acts rfl rfl rfl]) | rw [hl _ _ rfl rfl rfl]
  exact Steps.refl _
end New
end Jvm.RoadKit
namespace Jvm.Pilot.@@N@@
open Jvm Jvm.ClassFile Sem Op Lib Jvm.Free Jvm.Stand Jvm.LawKit Jvm.RoadKit Bundle Jvm.Pilot.@@N@@.Jvm.D
def own_b (P : Prop) [Decidable P] : Int32 := if P then 1 else 0
theorem own_bt {P : Prop} [Decidable P] (h : P) : own_b P = 1 := if_pos h
theorem own_bf {P : Prop} [Decidable P] (h : ¬ P) : own_b P = 0 := if_neg h
theorem own_bc {P Q : Prop} [Decidable P] [Decidable Q] (h : P ↔ Q) : own_b P = own_b Q := by
  by_cases q : P
  · rw [own_bt q, own_bt (h.mp q)]
  · rw [own_bf q, own_bf fun z => q (h.mpr z)]
theorem own_k (x : Int32) : (x &&& (3 : Int32)) = 0 ∨ (x &&& (3 : Int32)) = 1 ∨ (x &&& (3 : Int32)) = 2 ∨ (x &&& (3 : Int32)) = 3 := by
  have h : (x &&& (3 : Int32)).toBitVec.toNat ≤ 3 := by
    rw [Int32.toBitVec_and, BitVec.toNat_and]; exact Nat.and_le_right
  have z : ∀ n : Nat, n ≤ 3 → (x &&& (3 : Int32)).toBitVec.toNat = n → (x &&& (3 : Int32)) = Int32.ofNat n := fun n hn e => by
    rw [← Int32.toBitVec_inj]
    apply BitVec.eq_of_toNat_eq
    rw [e]
    show n = (BitVec.ofNat 32 n).toNat
    rw [BitVec.toNat_ofNat]; omega
  generalize hg : (x &&& (3 : Int32)).toBitVec.toNat = n at h z
  have q := z n h rfl
  match n, h with
  | 0, _ => exact Or.inl q
  | 1, _ => exact Or.inr (Or.inl q)
  | 2, _ => exact Or.inr (Or.inr (Or.inl q))
  | 3, _ => exact Or.inr (Or.inr (Or.inr q))
theorem own_255 (x : Int32) : ¬ (255 : Int32) < (x &&& (255 : Int32)).toUInt32.toUInt16.toUInt32.toInt32 := by
  have h : (x &&& (255 : Int32)).toUInt32.toNat ≤ 255 := by
    show (x &&& (255 : Int32)).toBitVec.toNat ≤ 255
    rw [Int32.toBitVec_and, BitVec.toNat_and]; exact Nat.and_le_right
  generalize (x &&& (255 : Int32)).toUInt32 = u at h
  have h2 : u.toUInt16.toNat ≤ 255 := by rw [UInt32.toNat_toUInt16]; omega
  generalize u.toUInt16 = y at h2
  have h3 : y.toUInt32.toInt32.toInt = (y.toNat : Int) := by
    show y.toUInt32.toBitVec.toInt = _
    have hl := y.toNat_lt
    rw [BitVec.toInt_eq_toNat_of_lt (by rw [UInt32.toNat_toBitVec, UInt16.toNat_toUInt32]; omega), UInt32.toNat_toBitVec, UInt16.toNat_toUInt32]
  rw [Int32.lt_iff_toInt_lt, h3]
  show ¬ ((255 : Int) < _)
  omega
def own_up (P : Prop) [Decidable P] (w : Int64) : Int64 := if P then w + 1 else w
def own_zr (P : Prop) [Decidable P] (w : Int64) : Int64 := if P then 0 else w
def own_off (P : Prop) [Decidable P] (c : Int32) : Int32 := if P then 0 else c
def own_on (P : Prop) [Decidable P] (c : Int32) : Int32 := if P then 1 else c
def own_lb (P : Prop) [Decidable P] : Int64 := if P then 1 else 0
def own_ans (c : Int32) (w : Int64) : Int64 := if c = 0 then -1 else w
def own_exp (c : Int32) (w : Int64) : Int64 := if c = 0 then w else -1
theorem own_up3 (k : Int32) (w : Int64) (hk : k = 0 ∨ k = 1 ∨ k = 2 ∨ k = 3) : own_up (¬ k < 3) (own_up (¬ k < 2) (own_up (¬ k < 1) w)) = w + k.toInt64 := by
  rcases hk with rfl | rfl | rfl | rfl
  · show w = w + 0; rw [Int64.add_zero]
  · rfl
  · show w + 1 + 1 = w + 2; rw [Int64.add_assoc]; rfl
  · show w + 1 + 1 + 1 = w + 3; rw [Int64.add_assoc, Int64.add_assoc]; rfl
theorem own_law (P B U R : Prop) [Decidable P] [Decidable B] [Decidable U] [Decidable R] (k : Int32) (hk : k = 0 ∨ k = 1 ∨ k = 2 ∨ k = 3) :
    own_ans (own_on R (own_off U 1)) (own_zr R (own_up (¬ k < 3) (own_up (¬ k < 2) (own_up (¬ k < 1) (own_zr B (own_up P 0)))))) = own_exp (own_off R (own_b U)) (own_zr R (own_zr B (own_lb P) + k.toInt64)) := by
  rw [own_up3 _ _ hk]
  have e : own_up P 0 = own_lb P := by unfold own_up own_lb; split <;> rfl
  rw [e]
  generalize own_zr B (own_lb P) + k.toInt64 = v
  unfold own_ans own_exp own_on own_off own_zr own_b
  by_cases hR : R <;> by_cases hU : U <;> simp [hR, hU]
def own_sb (P : Prop) [Decidable P] (r : Addr) : Value := if P then .ref r else .null
def own_nul (P : Prop) [Decidable P] (v : Value) : Value := if P then .null else v
def own_st (Z : State) (h : Heap) (a : Addr) (sb : Value) (cn : Int32) (wi : Int64) : Prop := Exa Z h a "dev/shiftwise/stats/Statistics" ∧ (∃ v : Value, Fld Z h a "dev/shiftwise/stats/Statistics" "algorithm" "Ljava/lang/String;" v) ∧ Fld Z h a "dev/shiftwise/stats/Statistics" "searchedBy" "Ljava/lang/String;" sb ∧ Fld Z h a "dev/shiftwise/stats/Statistics" "counted" "Z" (.int cn) ∧ (∃ v : Value, Fld Z h a "dev/shiftwise/stats/Statistics" "text" "J" v) ∧ (∃ v : Value, Fld Z h a "dev/shiftwise/stats/Statistics" "origin" "J" v) ∧ (∃ v : Value, Fld Z h a "dev/shiftwise/stats/Statistics" "pattern" "I" v) ∧ Fld Z h a "dev/shiftwise/stats/Statistics" "windows" "J" (.long wi) ∧ (∃ v : Int64, Fld Z h a "dev/shiftwise/stats/Statistics" "comparisons" "J" (.long v)) ∧ (∃ v : Value, Fld Z h a "dev/shiftwise/stats/Statistics" "occurrences" "J" v) ∧ Fld Z h a "dev/shiftwise/stats/Statistics" "trace" "Ldev/shiftwise/stats/Trace;" .null
theorem own_w_algorithm {Z : State} {a0 : Array Value} (hw : ∀ d ∈ tables_1, d.before a0 Z = true) {h h' : Heap} {a : Addr} {sb : Value} {cn : Int32} {wi : Int64} {x : Value} (S : own_st Z h a sb cn wi) (W : Wr h h' a (RoadKit.slotOf Z "dev/shiftwise/stats/Statistics" "algorithm" "Ljava/lang/String;") x) : own_st Z h' a sb cn wi := by
  obtain ⟨E, ⟨v_0, F_0⟩, F_1, F_2, ⟨v_3, F_3⟩, ⟨v_4, F_4⟩, ⟨v_5, F_5⟩, F_6, ⟨v_7, F_7⟩, ⟨v_8, F_8⟩, F_9⟩ := S
  exact ⟨E.wr W, ⟨_, F_0.same W⟩, F_1.other W (Or.inr (slot_ne (C := "dev/shiftwise/stats/Statistics") (Or.inl (hw _ (List.mem_of_getElem? (i := 39) rfl))) (Or.inl (hw _ (List.mem_of_getElem? (i := 37) rfl))) (by decide) (t := (.object "java/lang/String")) (t' := (.object "java/lang/String")) (by decide) (by decide))), F_2.other W (Or.inr (slot_ne (C := "dev/shiftwise/stats/Statistics") (Or.inl (hw _ (List.mem_of_getElem? (i := 41) rfl))) (Or.inl (hw _ (List.mem_of_getElem? (i := 37) rfl))) (by decide) (t := .boolean) (t' := (.object "java/lang/String")) (by decide) (by decide))), ⟨_, F_3.other W (Or.inr (slot_ne (C := "dev/shiftwise/stats/Statistics") (Or.inl (hw _ (List.mem_of_getElem? (i := 43) rfl))) (Or.inl (hw _ (List.mem_of_getElem? (i := 37) rfl))) (by decide) (t := .long) (t' := (.object "java/lang/String")) (by decide) (by decide)))⟩, ⟨_, F_4.other W (Or.inr (slot_ne (C := "dev/shiftwise/stats/Statistics") (Or.inl (hw _ (List.mem_of_getElem? (i := 45) rfl))) (Or.inl (hw _ (List.mem_of_getElem? (i := 37) rfl))) (by decide) (t := .long) (t' := (.object "java/lang/String")) (by decide) (by decide)))⟩, ⟨_, F_5.other W (Or.inr (slot_ne (C := "dev/shiftwise/stats/Statistics") (Or.inl (hw _ (List.mem_of_getElem? (i := 47) rfl))) (Or.inl (hw _ (List.mem_of_getElem? (i := 37) rfl))) (by decide) (t := .int) (t' := (.object "java/lang/String")) (by decide) (by decide)))⟩, F_6.other W (Or.inr (slot_ne (C := "dev/shiftwise/stats/Statistics") (Or.inl (hw _ (List.mem_of_getElem? (i := 49) rfl))) (Or.inl (hw _ (List.mem_of_getElem? (i := 37) rfl))) (by decide) (t := .long) (t' := (.object "java/lang/String")) (by decide) (by decide))), ⟨_, F_7.other W (Or.inr (slot_ne (C := "dev/shiftwise/stats/Statistics") (Or.inl (hw _ (List.mem_of_getElem? (i := 51) rfl))) (Or.inl (hw _ (List.mem_of_getElem? (i := 37) rfl))) (by decide) (t := .long) (t' := (.object "java/lang/String")) (by decide) (by decide)))⟩, ⟨_, F_8.other W (Or.inr (slot_ne (C := "dev/shiftwise/stats/Statistics") (Or.inl (hw _ (List.mem_of_getElem? (i := 53) rfl))) (Or.inl (hw _ (List.mem_of_getElem? (i := 37) rfl))) (by decide) (t := .long) (t' := (.object "java/lang/String")) (by decide) (by decide)))⟩, F_9.other W (Or.inr (slot_ne (C := "dev/shiftwise/stats/Statistics") (Or.inr (hw _ (List.mem_of_getElem? (i := 55) rfl))) (Or.inl (hw _ (List.mem_of_getElem? (i := 37) rfl))) (by decide) (t := (.object "dev/shiftwise/stats/Trace")) (t' := (.object "java/lang/String")) (by decide) (by decide)))⟩
theorem own_w_searchedBy {Z : State} {a0 : Array Value} (hw : ∀ d ∈ tables_1, d.before a0 Z = true) {h h' : Heap} {a : Addr} {sb : Value} {cn : Int32} {wi : Int64} {x : Value} (S : own_st Z h a sb cn wi) (W : Wr h h' a (RoadKit.slotOf Z "dev/shiftwise/stats/Statistics" "searchedBy" "Ljava/lang/String;") x) : own_st Z h' a x cn wi := by
  obtain ⟨E, ⟨v_0, F_0⟩, F_1, F_2, ⟨v_3, F_3⟩, ⟨v_4, F_4⟩, ⟨v_5, F_5⟩, F_6, ⟨v_7, F_7⟩, ⟨v_8, F_8⟩, F_9⟩ := S
  exact ⟨E.wr W, ⟨_, F_0.other W (Or.inr (slot_ne (C := "dev/shiftwise/stats/Statistics") (Or.inl (hw _ (List.mem_of_getElem? (i := 37) rfl))) (Or.inl (hw _ (List.mem_of_getElem? (i := 39) rfl))) (by decide) (t := (.object "java/lang/String")) (t' := (.object "java/lang/String")) (by decide) (by decide)))⟩, F_1.same W, F_2.other W (Or.inr (slot_ne (C := "dev/shiftwise/stats/Statistics") (Or.inl (hw _ (List.mem_of_getElem? (i := 41) rfl))) (Or.inl (hw _ (List.mem_of_getElem? (i := 39) rfl))) (by decide) (t := .boolean) (t' := (.object "java/lang/String")) (by decide) (by decide))), ⟨_, F_3.other W (Or.inr (slot_ne (C := "dev/shiftwise/stats/Statistics") (Or.inl (hw _ (List.mem_of_getElem? (i := 43) rfl))) (Or.inl (hw _ (List.mem_of_getElem? (i := 39) rfl))) (by decide) (t := .long) (t' := (.object "java/lang/String")) (by decide) (by decide)))⟩, ⟨_, F_4.other W (Or.inr (slot_ne (C := "dev/shiftwise/stats/Statistics") (Or.inl (hw _ (List.mem_of_getElem? (i := 45) rfl))) (Or.inl (hw _ (List.mem_of_getElem? (i := 39) rfl))) (by decide) (t := .long) (t' := (.object "java/lang/String")) (by decide) (by decide)))⟩, ⟨_, F_5.other W (Or.inr (slot_ne (C := "dev/shiftwise/stats/Statistics") (Or.inl (hw _ (List.mem_of_getElem? (i := 47) rfl))) (Or.inl (hw _ (List.mem_of_getElem? (i := 39) rfl))) (by decide) (t := .int) (t' := (.object "java/lang/String")) (by decide) (by decide)))⟩, F_6.other W (Or.inr (slot_ne (C := "dev/shiftwise/stats/Statistics") (Or.inl (hw _ (List.mem_of_getElem? (i := 49) rfl))) (Or.inl (hw _ (List.mem_of_getElem? (i := 39) rfl))) (by decide) (t := .long) (t' := (.object "java/lang/String")) (by decide) (by decide))), ⟨_, F_7.other W (Or.inr (slot_ne (C := "dev/shiftwise/stats/Statistics") (Or.inl (hw _ (List.mem_of_getElem? (i := 51) rfl))) (Or.inl (hw _ (List.mem_of_getElem? (i := 39) rfl))) (by decide) (t := .long) (t' := (.object "java/lang/String")) (by decide) (by decide)))⟩, ⟨_, F_8.other W (Or.inr (slot_ne (C := "dev/shiftwise/stats/Statistics") (Or.inl (hw _ (List.mem_of_getElem? (i := 53) rfl))) (Or.inl (hw _ (List.mem_of_getElem? (i := 39) rfl))) (by decide) (t := .long) (t' := (.object "java/lang/String")) (by decide) (by decide)))⟩, F_9.other W (Or.inr (slot_ne (C := "dev/shiftwise/stats/Statistics") (Or.inr (hw _ (List.mem_of_getElem? (i := 55) rfl))) (Or.inl (hw _ (List.mem_of_getElem? (i := 39) rfl))) (by decide) (t := (.object "dev/shiftwise/stats/Trace")) (t' := (.object "java/lang/String")) (by decide) (by decide)))⟩
theorem own_w_counted {Z : State} {a0 : Array Value} (hw : ∀ d ∈ tables_1, d.before a0 Z = true) {h h' : Heap} {a : Addr} {sb : Value} {cn : Int32} {wi : Int64} {x : Int32} (S : own_st Z h a sb cn wi) (W : Wr h h' a (RoadKit.slotOf Z "dev/shiftwise/stats/Statistics" "counted" "Z") (.int x)) : own_st Z h' a sb x wi := by
  obtain ⟨E, ⟨v_0, F_0⟩, F_1, F_2, ⟨v_3, F_3⟩, ⟨v_4, F_4⟩, ⟨v_5, F_5⟩, F_6, ⟨v_7, F_7⟩, ⟨v_8, F_8⟩, F_9⟩ := S
  exact ⟨E.wr W, ⟨_, F_0.other W (Or.inr (slot_ne (C := "dev/shiftwise/stats/Statistics") (Or.inl (hw _ (List.mem_of_getElem? (i := 37) rfl))) (Or.inl (hw _ (List.mem_of_getElem? (i := 41) rfl))) (by decide) (t := (.object "java/lang/String")) (t' := .boolean) (by decide) (by decide)))⟩, F_1.other W (Or.inr (slot_ne (C := "dev/shiftwise/stats/Statistics") (Or.inl (hw _ (List.mem_of_getElem? (i := 39) rfl))) (Or.inl (hw _ (List.mem_of_getElem? (i := 41) rfl))) (by decide) (t := (.object "java/lang/String")) (t' := .boolean) (by decide) (by decide))), F_2.same W, ⟨_, F_3.other W (Or.inr (slot_ne (C := "dev/shiftwise/stats/Statistics") (Or.inl (hw _ (List.mem_of_getElem? (i := 43) rfl))) (Or.inl (hw _ (List.mem_of_getElem? (i := 41) rfl))) (by decide) (t := .long) (t' := .boolean) (by decide) (by decide)))⟩, ⟨_, F_4.other W (Or.inr (slot_ne (C := "dev/shiftwise/stats/Statistics") (Or.inl (hw _ (List.mem_of_getElem? (i := 45) rfl))) (Or.inl (hw _ (List.mem_of_getElem? (i := 41) rfl))) (by decide) (t := .long) (t' := .boolean) (by decide) (by decide)))⟩, ⟨_, F_5.other W (Or.inr (slot_ne (C := "dev/shiftwise/stats/Statistics") (Or.inl (hw _ (List.mem_of_getElem? (i := 47) rfl))) (Or.inl (hw _ (List.mem_of_getElem? (i := 41) rfl))) (by decide) (t := .int) (t' := .boolean) (by decide) (by decide)))⟩, F_6.other W (Or.inr (slot_ne (C := "dev/shiftwise/stats/Statistics") (Or.inl (hw _ (List.mem_of_getElem? (i := 49) rfl))) (Or.inl (hw _ (List.mem_of_getElem? (i := 41) rfl))) (by decide) (t := .long) (t' := .boolean) (by decide) (by decide))), ⟨_, F_7.other W (Or.inr (slot_ne (C := "dev/shiftwise/stats/Statistics") (Or.inl (hw _ (List.mem_of_getElem? (i := 51) rfl))) (Or.inl (hw _ (List.mem_of_getElem? (i := 41) rfl))) (by decide) (t := .long) (t' := .boolean) (by decide) (by decide)))⟩, ⟨_, F_8.other W (Or.inr (slot_ne (C := "dev/shiftwise/stats/Statistics") (Or.inl (hw _ (List.mem_of_getElem? (i := 53) rfl))) (Or.inl (hw _ (List.mem_of_getElem? (i := 41) rfl))) (by decide) (t := .long) (t' := .boolean) (by decide) (by decide)))⟩, F_9.other W (Or.inr (slot_ne (C := "dev/shiftwise/stats/Statistics") (Or.inr (hw _ (List.mem_of_getElem? (i := 55) rfl))) (Or.inl (hw _ (List.mem_of_getElem? (i := 41) rfl))) (by decide) (t := (.object "dev/shiftwise/stats/Trace")) (t' := .boolean) (by decide) (by decide)))⟩
theorem own_w_text {Z : State} {a0 : Array Value} (hw : ∀ d ∈ tables_1, d.before a0 Z = true) {h h' : Heap} {a : Addr} {sb : Value} {cn : Int32} {wi : Int64} {x : Value} (S : own_st Z h a sb cn wi) (W : Wr h h' a (RoadKit.slotOf Z "dev/shiftwise/stats/Statistics" "text" "J") x) : own_st Z h' a sb cn wi := by
  obtain ⟨E, ⟨v_0, F_0⟩, F_1, F_2, ⟨v_3, F_3⟩, ⟨v_4, F_4⟩, ⟨v_5, F_5⟩, F_6, ⟨v_7, F_7⟩, ⟨v_8, F_8⟩, F_9⟩ := S
  exact ⟨E.wr W, ⟨_, F_0.other W (Or.inr (slot_ne (C := "dev/shiftwise/stats/Statistics") (Or.inl (hw _ (List.mem_of_getElem? (i := 37) rfl))) (Or.inl (hw _ (List.mem_of_getElem? (i := 43) rfl))) (by decide) (t := (.object "java/lang/String")) (t' := .long) (by decide) (by decide)))⟩, F_1.other W (Or.inr (slot_ne (C := "dev/shiftwise/stats/Statistics") (Or.inl (hw _ (List.mem_of_getElem? (i := 39) rfl))) (Or.inl (hw _ (List.mem_of_getElem? (i := 43) rfl))) (by decide) (t := (.object "java/lang/String")) (t' := .long) (by decide) (by decide))), F_2.other W (Or.inr (slot_ne (C := "dev/shiftwise/stats/Statistics") (Or.inl (hw _ (List.mem_of_getElem? (i := 41) rfl))) (Or.inl (hw _ (List.mem_of_getElem? (i := 43) rfl))) (by decide) (t := .boolean) (t' := .long) (by decide) (by decide))), ⟨_, F_3.same W⟩, ⟨_, F_4.other W (Or.inr (slot_ne (C := "dev/shiftwise/stats/Statistics") (Or.inl (hw _ (List.mem_of_getElem? (i := 45) rfl))) (Or.inl (hw _ (List.mem_of_getElem? (i := 43) rfl))) (by decide) (t := .long) (t' := .long) (by decide) (by decide)))⟩, ⟨_, F_5.other W (Or.inr (slot_ne (C := "dev/shiftwise/stats/Statistics") (Or.inl (hw _ (List.mem_of_getElem? (i := 47) rfl))) (Or.inl (hw _ (List.mem_of_getElem? (i := 43) rfl))) (by decide) (t := .int) (t' := .long) (by decide) (by decide)))⟩, F_6.other W (Or.inr (slot_ne (C := "dev/shiftwise/stats/Statistics") (Or.inl (hw _ (List.mem_of_getElem? (i := 49) rfl))) (Or.inl (hw _ (List.mem_of_getElem? (i := 43) rfl))) (by decide) (t := .long) (t' := .long) (by decide) (by decide))), ⟨_, F_7.other W (Or.inr (slot_ne (C := "dev/shiftwise/stats/Statistics") (Or.inl (hw _ (List.mem_of_getElem? (i := 51) rfl))) (Or.inl (hw _ (List.mem_of_getElem? (i := 43) rfl))) (by decide) (t := .long) (t' := .long) (by decide) (by decide)))⟩, ⟨_, F_8.other W (Or.inr (slot_ne (C := "dev/shiftwise/stats/Statistics") (Or.inl (hw _ (List.mem_of_getElem? (i := 53) rfl))) (Or.inl (hw _ (List.mem_of_getElem? (i := 43) rfl))) (by decide) (t := .long) (t' := .long) (by decide) (by decide)))⟩, F_9.other W (Or.inr (slot_ne (C := "dev/shiftwise/stats/Statistics") (Or.inr (hw _ (List.mem_of_getElem? (i := 55) rfl))) (Or.inl (hw _ (List.mem_of_getElem? (i := 43) rfl))) (by decide) (t := (.object "dev/shiftwise/stats/Trace")) (t' := .long) (by decide) (by decide)))⟩
theorem own_w_origin {Z : State} {a0 : Array Value} (hw : ∀ d ∈ tables_1, d.before a0 Z = true) {h h' : Heap} {a : Addr} {sb : Value} {cn : Int32} {wi : Int64} {x : Value} (S : own_st Z h a sb cn wi) (W : Wr h h' a (RoadKit.slotOf Z "dev/shiftwise/stats/Statistics" "origin" "J") x) : own_st Z h' a sb cn wi := by
  obtain ⟨E, ⟨v_0, F_0⟩, F_1, F_2, ⟨v_3, F_3⟩, ⟨v_4, F_4⟩, ⟨v_5, F_5⟩, F_6, ⟨v_7, F_7⟩, ⟨v_8, F_8⟩, F_9⟩ := S
  exact ⟨E.wr W, ⟨_, F_0.other W (Or.inr (slot_ne (C := "dev/shiftwise/stats/Statistics") (Or.inl (hw _ (List.mem_of_getElem? (i := 37) rfl))) (Or.inl (hw _ (List.mem_of_getElem? (i := 45) rfl))) (by decide) (t := (.object "java/lang/String")) (t' := .long) (by decide) (by decide)))⟩, F_1.other W (Or.inr (slot_ne (C := "dev/shiftwise/stats/Statistics") (Or.inl (hw _ (List.mem_of_getElem? (i := 39) rfl))) (Or.inl (hw _ (List.mem_of_getElem? (i := 45) rfl))) (by decide) (t := (.object "java/lang/String")) (t' := .long) (by decide) (by decide))), F_2.other W (Or.inr (slot_ne (C := "dev/shiftwise/stats/Statistics") (Or.inl (hw _ (List.mem_of_getElem? (i := 41) rfl))) (Or.inl (hw _ (List.mem_of_getElem? (i := 45) rfl))) (by decide) (t := .boolean) (t' := .long) (by decide) (by decide))), ⟨_, F_3.other W (Or.inr (slot_ne (C := "dev/shiftwise/stats/Statistics") (Or.inl (hw _ (List.mem_of_getElem? (i := 43) rfl))) (Or.inl (hw _ (List.mem_of_getElem? (i := 45) rfl))) (by decide) (t := .long) (t' := .long) (by decide) (by decide)))⟩, ⟨_, F_4.same W⟩, ⟨_, F_5.other W (Or.inr (slot_ne (C := "dev/shiftwise/stats/Statistics") (Or.inl (hw _ (List.mem_of_getElem? (i := 47) rfl))) (Or.inl (hw _ (List.mem_of_getElem? (i := 45) rfl))) (by decide) (t := .int) (t' := .long) (by decide) (by decide)))⟩, F_6.other W (Or.inr (slot_ne (C := "dev/shiftwise/stats/Statistics") (Or.inl (hw _ (List.mem_of_getElem? (i := 49) rfl))) (Or.inl (hw _ (List.mem_of_getElem? (i := 45) rfl))) (by decide) (t := .long) (t' := .long) (by decide) (by decide))), ⟨_, F_7.other W (Or.inr (slot_ne (C := "dev/shiftwise/stats/Statistics") (Or.inl (hw _ (List.mem_of_getElem? (i := 51) rfl))) (Or.inl (hw _ (List.mem_of_getElem? (i := 45) rfl))) (by decide) (t := .long) (t' := .long) (by decide) (by decide)))⟩, ⟨_, F_8.other W (Or.inr (slot_ne (C := "dev/shiftwise/stats/Statistics") (Or.inl (hw _ (List.mem_of_getElem? (i := 53) rfl))) (Or.inl (hw _ (List.mem_of_getElem? (i := 45) rfl))) (by decide) (t := .long) (t' := .long) (by decide) (by decide)))⟩, F_9.other W (Or.inr (slot_ne (C := "dev/shiftwise/stats/Statistics") (Or.inr (hw _ (List.mem_of_getElem? (i := 55) rfl))) (Or.inl (hw _ (List.mem_of_getElem? (i := 45) rfl))) (by decide) (t := (.object "dev/shiftwise/stats/Trace")) (t' := .long) (by decide) (by decide)))⟩
theorem own_w_pattern {Z : State} {a0 : Array Value} (hw : ∀ d ∈ tables_1, d.before a0 Z = true) {h h' : Heap} {a : Addr} {sb : Value} {cn : Int32} {wi : Int64} {x : Value} (S : own_st Z h a sb cn wi) (W : Wr h h' a (RoadKit.slotOf Z "dev/shiftwise/stats/Statistics" "pattern" "I") x) : own_st Z h' a sb cn wi := by
  obtain ⟨E, ⟨v_0, F_0⟩, F_1, F_2, ⟨v_3, F_3⟩, ⟨v_4, F_4⟩, ⟨v_5, F_5⟩, F_6, ⟨v_7, F_7⟩, ⟨v_8, F_8⟩, F_9⟩ := S
  exact ⟨E.wr W, ⟨_, F_0.other W (Or.inr (slot_ne (C := "dev/shiftwise/stats/Statistics") (Or.inl (hw _ (List.mem_of_getElem? (i := 37) rfl))) (Or.inl (hw _ (List.mem_of_getElem? (i := 47) rfl))) (by decide) (t := (.object "java/lang/String")) (t' := .int) (by decide) (by decide)))⟩, F_1.other W (Or.inr (slot_ne (C := "dev/shiftwise/stats/Statistics") (Or.inl (hw _ (List.mem_of_getElem? (i := 39) rfl))) (Or.inl (hw _ (List.mem_of_getElem? (i := 47) rfl))) (by decide) (t := (.object "java/lang/String")) (t' := .int) (by decide) (by decide))), F_2.other W (Or.inr (slot_ne (C := "dev/shiftwise/stats/Statistics") (Or.inl (hw _ (List.mem_of_getElem? (i := 41) rfl))) (Or.inl (hw _ (List.mem_of_getElem? (i := 47) rfl))) (by decide) (t := .boolean) (t' := .int) (by decide) (by decide))), ⟨_, F_3.other W (Or.inr (slot_ne (C := "dev/shiftwise/stats/Statistics") (Or.inl (hw _ (List.mem_of_getElem? (i := 43) rfl))) (Or.inl (hw _ (List.mem_of_getElem? (i := 47) rfl))) (by decide) (t := .long) (t' := .int) (by decide) (by decide)))⟩, ⟨_, F_4.other W (Or.inr (slot_ne (C := "dev/shiftwise/stats/Statistics") (Or.inl (hw _ (List.mem_of_getElem? (i := 45) rfl))) (Or.inl (hw _ (List.mem_of_getElem? (i := 47) rfl))) (by decide) (t := .long) (t' := .int) (by decide) (by decide)))⟩, ⟨_, F_5.same W⟩, F_6.other W (Or.inr (slot_ne (C := "dev/shiftwise/stats/Statistics") (Or.inl (hw _ (List.mem_of_getElem? (i := 49) rfl))) (Or.inl (hw _ (List.mem_of_getElem? (i := 47) rfl))) (by decide) (t := .long) (t' := .int) (by decide) (by decide))), ⟨_, F_7.other W (Or.inr (slot_ne (C := "dev/shiftwise/stats/Statistics") (Or.inl (hw _ (List.mem_of_getElem? (i := 51) rfl))) (Or.inl (hw _ (List.mem_of_getElem? (i := 47) rfl))) (by decide) (t := .long) (t' := .int) (by decide) (by decide)))⟩, ⟨_, F_8.other W (Or.inr (slot_ne (C := "dev/shiftwise/stats/Statistics") (Or.inl (hw _ (List.mem_of_getElem? (i := 53) rfl))) (Or.inl (hw _ (List.mem_of_getElem? (i := 47) rfl))) (by decide) (t := .long) (t' := .int) (by decide) (by decide)))⟩, F_9.other W (Or.inr (slot_ne (C := "dev/shiftwise/stats/Statistics") (Or.inr (hw _ (List.mem_of_getElem? (i := 55) rfl))) (Or.inl (hw _ (List.mem_of_getElem? (i := 47) rfl))) (by decide) (t := (.object "dev/shiftwise/stats/Trace")) (t' := .int) (by decide) (by decide)))⟩
theorem own_w_windows {Z : State} {a0 : Array Value} (hw : ∀ d ∈ tables_1, d.before a0 Z = true) {h h' : Heap} {a : Addr} {sb : Value} {cn : Int32} {wi : Int64} {x : Int64} (S : own_st Z h a sb cn wi) (W : Wr h h' a (RoadKit.slotOf Z "dev/shiftwise/stats/Statistics" "windows" "J") (.long x)) : own_st Z h' a sb cn x := by
  obtain ⟨E, ⟨v_0, F_0⟩, F_1, F_2, ⟨v_3, F_3⟩, ⟨v_4, F_4⟩, ⟨v_5, F_5⟩, F_6, ⟨v_7, F_7⟩, ⟨v_8, F_8⟩, F_9⟩ := S
  exact ⟨E.wr W, ⟨_, F_0.other W (Or.inr (slot_ne (C := "dev/shiftwise/stats/Statistics") (Or.inl (hw _ (List.mem_of_getElem? (i := 37) rfl))) (Or.inl (hw _ (List.mem_of_getElem? (i := 49) rfl))) (by decide) (t := (.object "java/lang/String")) (t' := .long) (by decide) (by decide)))⟩, F_1.other W (Or.inr (slot_ne (C := "dev/shiftwise/stats/Statistics") (Or.inl (hw _ (List.mem_of_getElem? (i := 39) rfl))) (Or.inl (hw _ (List.mem_of_getElem? (i := 49) rfl))) (by decide) (t := (.object "java/lang/String")) (t' := .long) (by decide) (by decide))), F_2.other W (Or.inr (slot_ne (C := "dev/shiftwise/stats/Statistics") (Or.inl (hw _ (List.mem_of_getElem? (i := 41) rfl))) (Or.inl (hw _ (List.mem_of_getElem? (i := 49) rfl))) (by decide) (t := .boolean) (t' := .long) (by decide) (by decide))), ⟨_, F_3.other W (Or.inr (slot_ne (C := "dev/shiftwise/stats/Statistics") (Or.inl (hw _ (List.mem_of_getElem? (i := 43) rfl))) (Or.inl (hw _ (List.mem_of_getElem? (i := 49) rfl))) (by decide) (t := .long) (t' := .long) (by decide) (by decide)))⟩, ⟨_, F_4.other W (Or.inr (slot_ne (C := "dev/shiftwise/stats/Statistics") (Or.inl (hw _ (List.mem_of_getElem? (i := 45) rfl))) (Or.inl (hw _ (List.mem_of_getElem? (i := 49) rfl))) (by decide) (t := .long) (t' := .long) (by decide) (by decide)))⟩, ⟨_, F_5.other W (Or.inr (slot_ne (C := "dev/shiftwise/stats/Statistics") (Or.inl (hw _ (List.mem_of_getElem? (i := 47) rfl))) (Or.inl (hw _ (List.mem_of_getElem? (i := 49) rfl))) (by decide) (t := .int) (t' := .long) (by decide) (by decide)))⟩, F_6.same W, ⟨_, F_7.other W (Or.inr (slot_ne (C := "dev/shiftwise/stats/Statistics") (Or.inl (hw _ (List.mem_of_getElem? (i := 51) rfl))) (Or.inl (hw _ (List.mem_of_getElem? (i := 49) rfl))) (by decide) (t := .long) (t' := .long) (by decide) (by decide)))⟩, ⟨_, F_8.other W (Or.inr (slot_ne (C := "dev/shiftwise/stats/Statistics") (Or.inl (hw _ (List.mem_of_getElem? (i := 53) rfl))) (Or.inl (hw _ (List.mem_of_getElem? (i := 49) rfl))) (by decide) (t := .long) (t' := .long) (by decide) (by decide)))⟩, F_9.other W (Or.inr (slot_ne (C := "dev/shiftwise/stats/Statistics") (Or.inr (hw _ (List.mem_of_getElem? (i := 55) rfl))) (Or.inl (hw _ (List.mem_of_getElem? (i := 49) rfl))) (by decide) (t := (.object "dev/shiftwise/stats/Trace")) (t' := .long) (by decide) (by decide)))⟩
theorem own_w_comparisons {Z : State} {a0 : Array Value} (hw : ∀ d ∈ tables_1, d.before a0 Z = true) {h h' : Heap} {a : Addr} {sb : Value} {cn : Int32} {wi : Int64} {x : Int64} (S : own_st Z h a sb cn wi) (W : Wr h h' a (RoadKit.slotOf Z "dev/shiftwise/stats/Statistics" "comparisons" "J") (.long x)) : own_st Z h' a sb cn wi := by
  obtain ⟨E, ⟨v_0, F_0⟩, F_1, F_2, ⟨v_3, F_3⟩, ⟨v_4, F_4⟩, ⟨v_5, F_5⟩, F_6, ⟨v_7, F_7⟩, ⟨v_8, F_8⟩, F_9⟩ := S
  exact ⟨E.wr W, ⟨_, F_0.other W (Or.inr (slot_ne (C := "dev/shiftwise/stats/Statistics") (Or.inl (hw _ (List.mem_of_getElem? (i := 37) rfl))) (Or.inl (hw _ (List.mem_of_getElem? (i := 51) rfl))) (by decide) (t := (.object "java/lang/String")) (t' := .long) (by decide) (by decide)))⟩, F_1.other W (Or.inr (slot_ne (C := "dev/shiftwise/stats/Statistics") (Or.inl (hw _ (List.mem_of_getElem? (i := 39) rfl))) (Or.inl (hw _ (List.mem_of_getElem? (i := 51) rfl))) (by decide) (t := (.object "java/lang/String")) (t' := .long) (by decide) (by decide))), F_2.other W (Or.inr (slot_ne (C := "dev/shiftwise/stats/Statistics") (Or.inl (hw _ (List.mem_of_getElem? (i := 41) rfl))) (Or.inl (hw _ (List.mem_of_getElem? (i := 51) rfl))) (by decide) (t := .boolean) (t' := .long) (by decide) (by decide))), ⟨_, F_3.other W (Or.inr (slot_ne (C := "dev/shiftwise/stats/Statistics") (Or.inl (hw _ (List.mem_of_getElem? (i := 43) rfl))) (Or.inl (hw _ (List.mem_of_getElem? (i := 51) rfl))) (by decide) (t := .long) (t' := .long) (by decide) (by decide)))⟩, ⟨_, F_4.other W (Or.inr (slot_ne (C := "dev/shiftwise/stats/Statistics") (Or.inl (hw _ (List.mem_of_getElem? (i := 45) rfl))) (Or.inl (hw _ (List.mem_of_getElem? (i := 51) rfl))) (by decide) (t := .long) (t' := .long) (by decide) (by decide)))⟩, ⟨_, F_5.other W (Or.inr (slot_ne (C := "dev/shiftwise/stats/Statistics") (Or.inl (hw _ (List.mem_of_getElem? (i := 47) rfl))) (Or.inl (hw _ (List.mem_of_getElem? (i := 51) rfl))) (by decide) (t := .int) (t' := .long) (by decide) (by decide)))⟩, F_6.other W (Or.inr (slot_ne (C := "dev/shiftwise/stats/Statistics") (Or.inl (hw _ (List.mem_of_getElem? (i := 49) rfl))) (Or.inl (hw _ (List.mem_of_getElem? (i := 51) rfl))) (by decide) (t := .long) (t' := .long) (by decide) (by decide))), ⟨_, F_7.same W⟩, ⟨_, F_8.other W (Or.inr (slot_ne (C := "dev/shiftwise/stats/Statistics") (Or.inl (hw _ (List.mem_of_getElem? (i := 53) rfl))) (Or.inl (hw _ (List.mem_of_getElem? (i := 51) rfl))) (by decide) (t := .long) (t' := .long) (by decide) (by decide)))⟩, F_9.other W (Or.inr (slot_ne (C := "dev/shiftwise/stats/Statistics") (Or.inr (hw _ (List.mem_of_getElem? (i := 55) rfl))) (Or.inl (hw _ (List.mem_of_getElem? (i := 51) rfl))) (by decide) (t := (.object "dev/shiftwise/stats/Trace")) (t' := .long) (by decide) (by decide)))⟩
theorem own_w_occurrences {Z : State} {a0 : Array Value} (hw : ∀ d ∈ tables_1, d.before a0 Z = true) {h h' : Heap} {a : Addr} {sb : Value} {cn : Int32} {wi : Int64} {x : Value} (S : own_st Z h a sb cn wi) (W : Wr h h' a (RoadKit.slotOf Z "dev/shiftwise/stats/Statistics" "occurrences" "J") x) : own_st Z h' a sb cn wi := by
  obtain ⟨E, ⟨v_0, F_0⟩, F_1, F_2, ⟨v_3, F_3⟩, ⟨v_4, F_4⟩, ⟨v_5, F_5⟩, F_6, ⟨v_7, F_7⟩, ⟨v_8, F_8⟩, F_9⟩ := S
  exact ⟨E.wr W, ⟨_, F_0.other W (Or.inr (slot_ne (C := "dev/shiftwise/stats/Statistics") (Or.inl (hw _ (List.mem_of_getElem? (i := 37) rfl))) (Or.inl (hw _ (List.mem_of_getElem? (i := 53) rfl))) (by decide) (t := (.object "java/lang/String")) (t' := .long) (by decide) (by decide)))⟩, F_1.other W (Or.inr (slot_ne (C := "dev/shiftwise/stats/Statistics") (Or.inl (hw _ (List.mem_of_getElem? (i := 39) rfl))) (Or.inl (hw _ (List.mem_of_getElem? (i := 53) rfl))) (by decide) (t := (.object "java/lang/String")) (t' := .long) (by decide) (by decide))), F_2.other W (Or.inr (slot_ne (C := "dev/shiftwise/stats/Statistics") (Or.inl (hw _ (List.mem_of_getElem? (i := 41) rfl))) (Or.inl (hw _ (List.mem_of_getElem? (i := 53) rfl))) (by decide) (t := .boolean) (t' := .long) (by decide) (by decide))), ⟨_, F_3.other W (Or.inr (slot_ne (C := "dev/shiftwise/stats/Statistics") (Or.inl (hw _ (List.mem_of_getElem? (i := 43) rfl))) (Or.inl (hw _ (List.mem_of_getElem? (i := 53) rfl))) (by decide) (t := .long) (t' := .long) (by decide) (by decide)))⟩, ⟨_, F_4.other W (Or.inr (slot_ne (C := "dev/shiftwise/stats/Statistics") (Or.inl (hw _ (List.mem_of_getElem? (i := 45) rfl))) (Or.inl (hw _ (List.mem_of_getElem? (i := 53) rfl))) (by decide) (t := .long) (t' := .long) (by decide) (by decide)))⟩, ⟨_, F_5.other W (Or.inr (slot_ne (C := "dev/shiftwise/stats/Statistics") (Or.inl (hw _ (List.mem_of_getElem? (i := 47) rfl))) (Or.inl (hw _ (List.mem_of_getElem? (i := 53) rfl))) (by decide) (t := .int) (t' := .long) (by decide) (by decide)))⟩, F_6.other W (Or.inr (slot_ne (C := "dev/shiftwise/stats/Statistics") (Or.inl (hw _ (List.mem_of_getElem? (i := 49) rfl))) (Or.inl (hw _ (List.mem_of_getElem? (i := 53) rfl))) (by decide) (t := .long) (t' := .long) (by decide) (by decide))), ⟨_, F_7.other W (Or.inr (slot_ne (C := "dev/shiftwise/stats/Statistics") (Or.inl (hw _ (List.mem_of_getElem? (i := 51) rfl))) (Or.inl (hw _ (List.mem_of_getElem? (i := 53) rfl))) (by decide) (t := .long) (t' := .long) (by decide) (by decide)))⟩, ⟨_, F_8.same W⟩, F_9.other W (Or.inr (slot_ne (C := "dev/shiftwise/stats/Statistics") (Or.inr (hw _ (List.mem_of_getElem? (i := 55) rfl))) (Or.inl (hw _ (List.mem_of_getElem? (i := 53) rfl))) (by decide) (t := (.object "dev/shiftwise/stats/Trace")) (t' := .long) (by decide) (by decide)))⟩
theorem own_w_trace {Z : State} {a0 : Array Value} (hw : ∀ d ∈ tables_1, d.before a0 Z = true) {h h' : Heap} {a : Addr} {sb : Value} {cn : Int32} {wi : Int64}  (S : own_st Z h a sb cn wi) (W : Wr h h' a (RoadKit.slotOf Z "dev/shiftwise/stats/Statistics" "trace" "Ldev/shiftwise/stats/Trace;") .null) : own_st Z h' a sb cn wi := by
  obtain ⟨E, ⟨v_0, F_0⟩, F_1, F_2, ⟨v_3, F_3⟩, ⟨v_4, F_4⟩, ⟨v_5, F_5⟩, F_6, ⟨v_7, F_7⟩, ⟨v_8, F_8⟩, F_9⟩ := S
  exact ⟨E.wr W, ⟨_, F_0.other W (Or.inr (slot_ne (C := "dev/shiftwise/stats/Statistics") (Or.inl (hw _ (List.mem_of_getElem? (i := 37) rfl))) (Or.inr (hw _ (List.mem_of_getElem? (i := 55) rfl))) (by decide) (t := (.object "java/lang/String")) (t' := (.object "dev/shiftwise/stats/Trace")) (by decide) (by decide)))⟩, F_1.other W (Or.inr (slot_ne (C := "dev/shiftwise/stats/Statistics") (Or.inl (hw _ (List.mem_of_getElem? (i := 39) rfl))) (Or.inr (hw _ (List.mem_of_getElem? (i := 55) rfl))) (by decide) (t := (.object "java/lang/String")) (t' := (.object "dev/shiftwise/stats/Trace")) (by decide) (by decide))), F_2.other W (Or.inr (slot_ne (C := "dev/shiftwise/stats/Statistics") (Or.inl (hw _ (List.mem_of_getElem? (i := 41) rfl))) (Or.inr (hw _ (List.mem_of_getElem? (i := 55) rfl))) (by decide) (t := .boolean) (t' := (.object "dev/shiftwise/stats/Trace")) (by decide) (by decide))), ⟨_, F_3.other W (Or.inr (slot_ne (C := "dev/shiftwise/stats/Statistics") (Or.inl (hw _ (List.mem_of_getElem? (i := 43) rfl))) (Or.inr (hw _ (List.mem_of_getElem? (i := 55) rfl))) (by decide) (t := .long) (t' := (.object "dev/shiftwise/stats/Trace")) (by decide) (by decide)))⟩, ⟨_, F_4.other W (Or.inr (slot_ne (C := "dev/shiftwise/stats/Statistics") (Or.inl (hw _ (List.mem_of_getElem? (i := 45) rfl))) (Or.inr (hw _ (List.mem_of_getElem? (i := 55) rfl))) (by decide) (t := .long) (t' := (.object "dev/shiftwise/stats/Trace")) (by decide) (by decide)))⟩, ⟨_, F_5.other W (Or.inr (slot_ne (C := "dev/shiftwise/stats/Statistics") (Or.inl (hw _ (List.mem_of_getElem? (i := 47) rfl))) (Or.inr (hw _ (List.mem_of_getElem? (i := 55) rfl))) (by decide) (t := .int) (t' := (.object "dev/shiftwise/stats/Trace")) (by decide) (by decide)))⟩, F_6.other W (Or.inr (slot_ne (C := "dev/shiftwise/stats/Statistics") (Or.inl (hw _ (List.mem_of_getElem? (i := 49) rfl))) (Or.inr (hw _ (List.mem_of_getElem? (i := 55) rfl))) (by decide) (t := .long) (t' := (.object "dev/shiftwise/stats/Trace")) (by decide) (by decide))), ⟨_, F_7.other W (Or.inr (slot_ne (C := "dev/shiftwise/stats/Statistics") (Or.inl (hw _ (List.mem_of_getElem? (i := 51) rfl))) (Or.inr (hw _ (List.mem_of_getElem? (i := 55) rfl))) (by decide) (t := .long) (t' := (.object "dev/shiftwise/stats/Trace")) (by decide) (by decide)))⟩, ⟨_, F_8.other W (Or.inr (slot_ne (C := "dev/shiftwise/stats/Statistics") (Or.inl (hw _ (List.mem_of_getElem? (i := 53) rfl))) (Or.inr (hw _ (List.mem_of_getElem? (i := 55) rfl))) (by decide) (t := .long) (t' := (.object "dev/shiftwise/stats/Trace")) (by decide) (by decide)))⟩, F_9.same W⟩
theorem own_st_keep {Z : State} {h h' : Heap} {a : Addr} {sb : Value} {cn : Int32} {wi : Int64} {ws : List Addr} (S : own_st Z h a sb cn wi) (Kp : Keep h h' ws) (q : a ∉ ws) : own_st Z h' a sb cn wi := by
  obtain ⟨E, ⟨v_0, F_0⟩, F_1, F_2, ⟨v_3, F_3⟩, ⟨v_4, F_4⟩, ⟨v_5, F_5⟩, F_6, ⟨v_7, F_7⟩, ⟨v_8, F_8⟩, F_9⟩ := S
  exact ⟨E.keep Kp, ⟨_, F_0.keep Kp q⟩, F_1.keep Kp q, F_2.keep Kp q, ⟨_, F_3.keep Kp q⟩, ⟨_, F_4.keep Kp q⟩, ⟨_, F_5.keep Kp q⟩, F_6.keep Kp q, ⟨_, F_7.keep Kp q⟩, ⟨_, F_8.keep Kp q⟩, F_9.keep Kp q⟩
theorem pd_oCcLjavalangString : parseMethodDescriptor "(C)Ljava/lang/String;" = some ⟨[.char], some (.object "java/lang/String")⟩ := by decide +kernel
theorem pd_oCcZ : parseMethodDescriptor "(C)Z" = some ⟨[.char], some .boolean⟩ := by decide +kernel
theorem pd_oCcAB : parseMethodDescriptor "(C)[B" = some ⟨[.char], some (.array .byte)⟩ := by decide +kernel
theorem pd_oABBcV : parseMethodDescriptor "([BB)V" = some ⟨[(.array .byte), .byte], none⟩ := by decide +kernel
theorem pd_ocV : parseMethodDescriptor "()V" = some ⟨[], none⟩ := by decide +kernel
theorem pd_oLdevshiftwisestatsTracecV : parseMethodDescriptor "(Ldev/shiftwise/stats/Trace;)V" = some ⟨[(.object "dev/shiftwise/stats/Trace")], none⟩ := by decide +kernel
theorem pd_oJIcV : parseMethodDescriptor "(JI)V" = some ⟨[.long, .int], none⟩ := by decide +kernel
theorem pd_ocJ : parseMethodDescriptor "()J" = some ⟨[], some .long⟩ := by decide +kernel
theorem pd_oLjavalangStringcV : parseMethodDescriptor "(Ljava/lang/String;)V" = some ⟨[(.object "java/lang/String")], none⟩ := by decide +kernel
theorem pd_oLjavalangStringJIcV : parseMethodDescriptor "(Ljava/lang/String;JI)V" = some ⟨[(.object "java/lang/String"), .long, .int], none⟩ := by decide +kernel
theorem d2_0 : decode jdk_43_method_3_code 0 = .ok (.iload_n 0, 1) := by decide +kernel
theorem d2_1 : decode jdk_43_method_3_code 1 = .ok (.sipush 255, 3) := by decide +kernel
theorem d2_4 : decode jdk_43_method_3_code 4 = .ok (.if_icmp .gt 7, 3) := by decide +kernel
theorem d2_7 : decode jdk_43_method_3_code 7 = .ok (.iconst 1, 1) := by decide +kernel
theorem d2_8 : decode jdk_43_method_3_code 8 = .ok (.goto 4, 3) := by decide +kernel
theorem d2_12 : decode jdk_43_method_3_code 12 = .ok (.ireturn, 1) := by decide +kernel
theorem pn_2 : plainName "java/lang/StringLatin1" = true := by first | (simp [plainName, overriddenIn]; done) | decide +kernel
theorem ef_2 (m : MethodId) (p1 : Int32) : entryFrame m #[(.int p1)] 1 = (mkF m 0 #[.val (.int p1)] []) := by first | (simp [entryFrame, mkF, argsToLocals, Value.category]; done) | rfl
def Q2 (Z : State) (p1 : Int32)  (h0 : Heap) (n0 : Nat) (v : Option Value) (h : Heap) (L : List Loc) : Prop := v = some (.int 1) ∧ Fr n0 L ∧ h = h0
set_option maxRecDepth 65536 in
set_option maxHeartbeats 40000000 in
theorem rm2 (l : Launch) (Z : State) (a0 : Array Value) (hw : ∀ d ∈ tables_1, d.before a0 Z = true) (ws : List Jvm.Cond) (p1 : Int32)  (h0 : Heap) (n0 : Nat) (Z0 : n0 ≤ h0.size) (hc : ¬ (255 : Int32) < p1) :
    MetFree l (⟨"java/lang/StringLatin1", "canEncode", "(C)Z"⟩ : MethodName) (head1 (Jvm.Cond.code (⟨"java/lang/StringLatin1", "canEncode", "(C)Z"⟩ : MethodName) jdk_43_method_3_code 1 (some .boolean) :: ws) ({ frames := 0, cells := 0, slots := 0, locals := 0 } : Room)) (fun a U => a = #[(.int p1)] ∧ Z.Warmed39 U.vm ∧ U.heap = h0) (fun _ _ _ _ _ => True) (fun _ U o U' => ∃ v L, o = .returned v ∧ Q2 Z p1  h0 n0 v U'.heap L ∧ FrameEnd U o U' L ({ frames := 0, cells := 0, slots := 0, locals := 0 } : Room).cells ({ frames := 0, cells := 0, slots := 0, locals := 0 } : Room).slots) := by
  refine MetFree.of_bodySF (plainFor_of_name pn_2) hisR ?_
  intro p e s m args below meth c s₁ Bd hml0 hP hK
  obtain ⟨rfl, hZ, hh⟩ := hP
  have hx := Bd.exec
  have hby := Bd.bytes
  have hml : c.maxLocals = 1 := hml0
  have hown : s.vm.findClass "java/lang/StringLatin1" = some m.cls := findClass_of_methodNamed Bd.named
  have hnm := (name_of_methodNamed Bd.named Bd.method).1
  have X0 : Stand p l e ({ frames := 0, cells := 0, slots := 0, locals := 0 } : Room) s m #[(.int p1)] below meth c s₁ [] 0 0 := Stand.of_body Bd
  have e0 : s₁.heap = h0 := by rw [← hh, Bd.state]; rfl
  have N0 := Fr.nil n0
  have pre0 : ∀ t, Steps p.tables e below (s₁.setTop (mkF m 0 #[.val (.int p1)] [])) t → Steps p.tables e below (s₁.setTop (entryFrame m #[(.int p1)] 1)) t := fun t k => castTop (ef_2 m p1) k
  obtain ⟨fs, hr, hrun, hended, hW, hsame⟩ := X0.leave (v := some (.int (1 : Int32))) (fun h => by rw [Bd.returns] at h; cases h)
  refine ⟨_, _, pre0 _ ?_, hrun, hended, _, _, rfl, ?_, ⟨_, rfl⟩, hW, hsame.mono (by decide) (by decide)⟩
  · show Steps p.tables e below (s₁.setTop (mkF m 0 #[.val (.int p1)] [])) _
    show Steps p.tables e below (s₁.setTop (mkF m 0 #[.val (.int p1)] [])) _
    refine XS.iloadN X0.here hx rfl (hb hby d2_0) rfl ?_
    show Steps p.tables e below (s₁.setTop (mkF m 1 #[.val (.int p1)] [(.int p1)])) _
    refine XS.sipush X0.here hx rfl (hb hby d2_1) ?_
    show Steps p.tables e below (s₁.setTop (mkF m 4 #[.val (.int p1)] [(.int (255 : Int32)), (.int p1)])) _
    refine XS.icmpNo X0.here hx rfl (hb hby d2_4) rfl (flt hc).2.2.1 ?_
    show Steps p.tables e below (s₁.setTop (mkF m 7 #[.val (.int p1)] [])) _
    refine XS.iconst X0.here hx rfl (hb hby d2_7) ?_
    show Steps p.tables e below (s₁.setTop (mkF m 8 #[.val (.int p1)] [(.int (1 : Int32))])) _
    refine XS.goto X0.here hx rfl (pc0 := 8) (pc' := 12) rfl (hb hby d2_8) (by decide) (by decide) ?_
    show Steps p.tables e below (s₁.setTop (mkF m 12 #[.val (.int p1)] [(.int (1 : Int32))])) _
    exact retN X0 hx (t := .boolean) Bd.returns (by simp) (hb hby d2_12) hr
  · show Q2 Z p1 h0 n0 _ s₁.heap _
    rw [e0]
    exact ⟨rfl, N0, rfl⟩
theorem d3_0 : decode jdk_43_method_46_code 0 = .ok (.iconst 1, 1) := by decide +kernel
theorem d3_1 : decode jdk_43_method_46_code 1 = .ok (.newarray .byte, 2) := by decide +kernel
theorem d3_3 : decode jdk_43_method_46_code 3 = .ok (.dup, 1) := by decide +kernel
theorem d3_4 : decode jdk_43_method_46_code 4 = .ok (.iconst 0, 1) := by decide +kernel
theorem d3_5 : decode jdk_43_method_46_code 5 = .ok (.iload_n 0, 1) := by decide +kernel
theorem d3_6 : decode jdk_43_method_46_code 6 = .ok (.i2b, 1) := by decide +kernel
theorem d3_7 : decode jdk_43_method_46_code 7 = .ok (.bastore, 1) := by decide +kernel
theorem d3_8 : decode jdk_43_method_46_code 8 = .ok (.areturn, 1) := by decide +kernel
theorem pn_3 : plainName "java/lang/StringLatin1" = true := by first | (simp [plainName, overriddenIn]; done) | decide +kernel
theorem ef_3 (m : MethodId) (p1 : Int32) : entryFrame m #[(.int p1)] 1 = (mkF m 0 #[.val (.int p1)] []) := by first | (simp [entryFrame, mkF, argsToLocals, Value.category]; done) | rfl
def Q3 (Z : State) (p1 : Int32)  (h0 : Heap) (n0 : Nat) (v : Option Value) (h : Heap) (L : List Loc) : Prop := (∃ b, v = some (.ref b)) ∧ Fr n0 L ∧ Keep h0 h []
set_option maxRecDepth 65536 in
set_option maxHeartbeats 40000000 in
theorem rm3 (l : Launch) (Z : State) (a0 : Array Value) (hw : ∀ d ∈ tables_1, d.before a0 Z = true) (ws : List Jvm.Cond) (p1 : Int32)  (h0 : Heap) (n0 : Nat) (Z0 : n0 ≤ h0.size)  :
    MetFree l (⟨"java/lang/StringLatin1", "toBytes", "(C)[B"⟩ : MethodName) (head1 (Jvm.Cond.code (⟨"java/lang/StringLatin1", "toBytes", "(C)[B"⟩ : MethodName) jdk_43_method_46_code 1 (some (.array .byte)) :: ws) ({ frames := 0, cells := 1, slots := 1, locals := 0 } : Room)) (fun a U => a = #[(.int p1)] ∧ Z.Warmed39 U.vm ∧ U.heap = h0) (fun _ _ _ _ _ => True) (fun _ U o U' => ∃ v L, o = .returned v ∧ Q3 Z p1  h0 n0 v U'.heap L ∧ FrameEnd U o U' L ({ frames := 0, cells := 1, slots := 1, locals := 0 } : Room).cells ({ frames := 0, cells := 1, slots := 1, locals := 0 } : Room).slots) := by
  refine MetFree.of_bodySF (plainFor_of_name pn_3) hisR ?_
  intro p e s m args below meth c s₁ Bd hml0 hP hK
  obtain ⟨rfl, hZ, hh⟩ := hP
  have hx := Bd.exec
  have hby := Bd.bytes
  have hml : c.maxLocals = 1 := hml0
  have hown : s.vm.findClass "java/lang/StringLatin1" = some m.cls := findClass_of_methodNamed Bd.named
  have hnm := (name_of_methodNamed Bd.named Bd.method).1
  have X0 : Stand p l e ({ frames := 0, cells := 1, slots := 1, locals := 0 } : Room) s m #[(.int p1)] below meth c s₁ [] 0 0 := Stand.of_body Bd
  have e0 : s₁.heap = h0 := by rw [← hh, Bd.state]; rfl
  have N0 := Fr.nil n0
  have pre0 : ∀ t, Steps p.tables e below (s₁.setTop (mkF m 0 #[.val (.int p1)] [])) t → Steps p.tables e below (s₁.setTop (entryFrame m #[(.int p1)] 1)) t := fun t k => castTop (ef_3 m p1) k
  obtain ⟨T2, h2, k2, X2, e2, E2, A2, st2⟩ := newP X0 hx hZ (hw _ (List.mem_of_getElem? (i := 14) rfl)) e0 (g := (mkF m 1 #[.val (.int p1)] [(.int (1 : Int32))])) rfl (hb hby d3_1) rfl (by decide) (cap := 1) (by decide) (by decide) (by decide) (by decide)
  obtain ⟨b2, g2⟩ : ∃ z, z = h0.size := ⟨_, rfl⟩
  rw [← g2] at A2 st2
  have V2 := Arv.new A2 (by decide)
  have gb2 : n0 ≤ b2 := Nat.le_trans Z0 (Nat.le_of_eq g2.symm)
  have K2 : Keep h0 h2 [] := (Keep.refl h0 []).ext E2
  obtain ⟨cl2, Ar2, q2, S2, Ng2, H2, G2⟩ := V2
  have hin : ¬ ((0 : Int32) < 0 ∨ cl2.slots.size ≤ ((0 : Int32)).toNatClampNeg) := inb_of S2 ⟨by decide, by decide⟩
  obtain ⟨T3, h3, X3, e3, W3, st3⟩ := stB X2 hx hZ e2 Ar2 (j := (0 : Int32)) hin (g := (mkF m 7 #[.val (.int p1)] [(.int (p1.toInt8.toInt32)), (.int (0 : Int32)), (.ref b2), (.ref b2)])) rfl rfl (hb hby d3_7)
  have K3 : Keep h0 h3 [] := K2.wr W3 (Or.inr (Nat.le_of_eq g2.symm))
  have N3 := Fr.snoc X3 N0 gb2
  obtain ⟨fs, hr, hrun, hended, hW, hsame⟩ := X3.leave (v := some (.ref b2)) (fun h => by rw [Bd.returns] at h; cases h)
  refine ⟨_, _, pre0 _ ?_, hrun, hended, _, _, rfl, ?_, ⟨_, rfl⟩, hW, hsame.mono (by decide) (by decide)⟩
  · show Steps p.tables e below (s₁.setTop (mkF m 0 #[.val (.int p1)] [])) _
    show Steps p.tables e below (s₁.setTop (mkF m 0 #[.val (.int p1)] [])) _
    refine XS.iconst X0.here hx rfl (hb hby d3_0) ?_
    show Steps p.tables e below (s₁.setTop (mkF m 1 #[.val (.int p1)] [(.int (1 : Int32))])) _
    refine st2 _ ?_
    show Steps p.tables e below (T2.setTop (mkF m 3 #[.val (.int p1)] [(.ref b2)])) _
    refine XS.dup X2.here hx rfl (hb hby d3_3) rfl rfl ?_
    show Steps p.tables e below (T2.setTop (mkF m 4 #[.val (.int p1)] [(.ref b2), (.ref b2)])) _
    refine XS.iconst X2.here hx rfl (hb hby d3_4) ?_
    show Steps p.tables e below (T2.setTop (mkF m 5 #[.val (.int p1)] [(.int (0 : Int32)), (.ref b2), (.ref b2)])) _
    refine XS.iloadN X2.here hx rfl (hb hby d3_5) rfl ?_
    show Steps p.tables e below (T2.setTop (mkF m 6 #[.val (.int p1)] [(.int p1), (.int (0 : Int32)), (.ref b2), (.ref b2)])) _
    refine XS.i2b X2.here hx rfl (hb hby d3_6) rfl ?_
    show Steps p.tables e below (T2.setTop (mkF m 7 #[.val (.int p1)] [(.int (p1.toInt8.toInt32)), (.int (0 : Int32)), (.ref b2), (.ref b2)])) _
    refine st3 _ ?_
    show Steps p.tables e below (T3.setTop (mkF m 8 #[.val (.int p1)] [(.ref b2)])) _
    jvm_step X3.here [X3.here.top, hx, (hb hby d3_8), X3.method', Bd.returns, Value.isRef, FieldType.isReference]
    first | (intro acts; rw [hr _ acts rfl rfl rfl]) | rw [hr _ _ rfl rfl rfl]
    exact Steps.refl _
  · show Q3 Z p1 h0 n0 _ T3.heap _
    rw [e3]
    exact ⟨⟨b2, rfl⟩, N3, K3⟩
theorem d4_0 : decode jdk_42_method_151_code 0 = .ok (.aload_n 0, 1) := by decide +kernel
theorem d4_1 : decode jdk_42_method_151_code 1 = .ok (.invokespecial 1, 3) := by decide +kernel
theorem d4_4 : decode jdk_42_method_151_code 4 = .ok (.aload_n 0, 1) := by decide +kernel
theorem d4_5 : decode jdk_42_method_151_code 5 = .ok (.aload_n 1, 1) := by decide +kernel
theorem d4_6 : decode jdk_42_method_151_code 6 = .ok (.putfield 9, 3) := by decide +kernel
theorem d4_9 : decode jdk_42_method_151_code 9 = .ok (.aload_n 0, 1) := by decide +kernel
theorem d4_10 : decode jdk_42_method_151_code 10 = .ok (.iload_n 2, 1) := by decide +kernel
theorem d4_11 : decode jdk_42_method_151_code 11 = .ok (.putfield 15, 3) := by decide +kernel
theorem d4_14 : decode jdk_42_method_151_code 14 = .ok (.return_, 1) := by decide +kernel
theorem pn_4 : plainName "java/lang/String" = true := by first | (simp [plainName, overriddenIn]; done) | decide +kernel
theorem ef_4 (m : MethodId) (a1 : Addr) (r1 : Addr) (p1 : Int32) : entryFrame m #[(.ref a1), (.ref r1), (.int p1)] 3 = (mkF m 0 #[.val (.ref a1), .val (.ref r1), .val (.int p1)] []) := by first | (simp [entryFrame, mkF, argsToLocals, Value.category]; done) | rfl
def Q4 (Z : State) (a1 : Addr) (r1 : Addr) (p1 : Int32)  (h0 : Heap) (n0 : Nat) (v : Option Value) (h : Heap) (L : List Loc) : Prop := v = none ∧ Fr n0 L ∧ Keep h0 h [a1]
set_option maxRecDepth 65536 in
set_option maxHeartbeats 40000000 in
theorem rm4 (l : Launch) (Z : State) (a0 : Array Value) (hw : ∀ d ∈ tables_1, d.before a0 Z = true) (ws : List Jvm.Cond) (a1 : Addr) (r1 : Addr) (p1 : Int32)  (h0 : Heap) (n0 : Nat) (Z0 : n0 ≤ h0.size) (F1 : Fld Z h0 a1 "java/lang/String" "value" "[B" .null) (F2 : Fld Z h0 a1 "java/lang/String" "coder" "B" (.int (0 : Int32))) (E1 : Exa Z h0 a1 "java/lang/String") (g1 : n0 ≤ a1) :
    MetFree l (⟨"java/lang/String", "<init>", "([BB)V"⟩ : MethodName) (head1 (Jvm.Cond.code (⟨"java/lang/String", "<init>", "([BB)V"⟩ : MethodName) jdk_42_method_151_code 3 none :: ws) ({ frames := 1, cells := 0, slots := 0, locals := 12 } : Room)) (fun a U => a = #[(.ref a1), (.ref r1), (.int p1)] ∧ Z.Warmed39 U.vm ∧ U.heap = h0) (fun _ _ _ _ _ => True) (fun _ U o U' => ∃ v L, o = .returned v ∧ Q4 Z a1 r1 p1  h0 n0 v U'.heap L ∧ FrameEnd U o U' L ({ frames := 1, cells := 0, slots := 0, locals := 12 } : Room).cells ({ frames := 1, cells := 0, slots := 0, locals := 12 } : Room).slots) := by
  refine MetFree.of_bodySF (plainFor_of_name pn_4) hisR ?_
  intro p e s m args below meth c s₁ Bd hml0 hP hK
  obtain ⟨rfl, hZ, hh⟩ := hP
  have hx := Bd.exec
  have hby := Bd.bytes
  have hml : c.maxLocals = 3 := hml0
  have hown : s.vm.findClass "java/lang/String" = some m.cls := findClass_of_methodNamed Bd.named
  have hnm := (name_of_methodNamed Bd.named Bd.method).1
  have X0 : Stand p l e ({ frames := 1, cells := 0, slots := 0, locals := 12 } : Room) s m #[(.ref a1), (.ref r1), (.int p1)] below meth c s₁ [] 0 0 := Stand.of_body Bd
  have e0 : s₁.heap = h0 := by rw [← hh, Bd.state]; rfl
  have N0 := Fr.nil n0
  have pre0 : ∀ t, Steps p.tables e below (s₁.setTop (mkF m 0 #[.val (.ref a1), .val (.ref r1), .val (.int p1)] [])) t → Steps p.tables e below (s₁.setTop (entryFrame m #[(.ref a1), (.ref r1), (.int p1)] 3)) t := fun t k => castTop (ef_4 m a1 r1 p1) k
  obtain ⟨T3, X3, e3, st3⟩ := initO X0 hx hZ hown (hw _ (List.mem_of_getElem? (i := 19) rfl)) (hw _ (List.mem_of_getElem? (i := 20) rfl)) (hw _ (List.mem_of_getElem? (i := 21) rfl)) e0 (g := (mkF m 1 #[.val (.ref a1), .val (.ref r1), .val (.int p1)] [(.ref a1)])) rfl (by rw [hml]; rfl) rfl (hb hby d4_1) (by decide) (W := 0) (by show 2 * 0 + _ ≤ _; exact Nat.le_of_eq rfl) (by decide)
  obtain ⟨T4, h4, X4, e4, W4, st4⟩ := putF X3 hx hZ hown (host := "") (Or.inl (hw _ (List.mem_of_getElem? (i := 22) rfl))) Via.refl e3 F1 E1 (Or.inr ⟨(hw _ (List.mem_of_getElem? (i := 23) rfl)), rfl, hnm⟩) (hw _ (List.mem_of_getElem? (i := 10) rfl)) (ty := (.array .byte)) (by decide) rfl rfl (g := (mkF m 6 #[.val (.ref a1), .val (.ref r1), .val (.int p1)] [(.ref r1), (.ref a1)])) rfl rfl (hb hby d4_6)
  have K4 : Keep h0 h4 [a1] := (Keep.refl h0 [a1]).wr W4 (Or.inl (List.mem_of_getElem? (i := 0) rfl))
  have N4 := Fr.snoc X4 N0 g1
  have F4 := F2.other W4 (Or.inr (slot_ne (C := "java/lang/String") (Or.inr (hw _ (List.mem_of_getElem? (i := 25) rfl))) (Or.inr (hw _ (List.mem_of_getElem? (i := 23) rfl))) (by decide) (t := .byte) (t' := .array .byte) (by decide) (by decide)))
  obtain ⟨T5, h5, X5, e5, W5, st5⟩ := putFN X4 hx hZ hown (hw _ (List.mem_of_getElem? (i := 24) rfl)) Via.refl e4 F4 (E1.wr W4) (Or.inr ⟨(hw _ (List.mem_of_getElem? (i := 25) rfl)), rfl, hnm⟩) (hw _ (List.mem_of_getElem? (i := 10) rfl)) (ty := .byte) (v' := (.int p1.toInt8.toInt32)) (by decide) rfl (fits_nar_byte _) (g := (mkF m 11 #[.val (.ref a1), .val (.ref r1), .val (.int p1)] [(.int p1), (.ref a1)])) rfl rfl (hb hby d4_11)
  have K5 : Keep h0 h5 [a1] := K4.wr W5 (Or.inl (List.mem_of_getElem? (i := 0) rfl))
  have N5 := Fr.snoc X5 N4 g1
  obtain ⟨fs, hr, hrun, hended, hW, hsame⟩ := X5.leave (v := none) (fun _ => rfl)
  refine ⟨_, _, pre0 _ ?_, hrun, hended, _, _, rfl, ?_, ⟨_, rfl⟩, hW, hsame.mono (by decide) (by decide)⟩
  · show Steps p.tables e below (s₁.setTop (mkF m 0 #[.val (.ref a1), .val (.ref r1), .val (.int p1)] [])) _
    show Steps p.tables e below (s₁.setTop (mkF m 0 #[.val (.ref a1), .val (.ref r1), .val (.int p1)] [])) _
    refine XS.aloadN X0.here hx rfl (hb hby d4_0) rfl rfl ?_
    show Steps p.tables e below (s₁.setTop (mkF m 1 #[.val (.ref a1), .val (.ref r1), .val (.int p1)] [(.ref a1)])) _
    refine st3 _ ?_
    show Steps p.tables e below (T3.setTop (mkF m 4 #[.val (.ref a1), .val (.ref r1), .val (.int p1)] [])) _
    refine XS.aloadN X3.here hx rfl (hb hby d4_4) rfl rfl ?_
    show Steps p.tables e below (T3.setTop (mkF m 5 #[.val (.ref a1), .val (.ref r1), .val (.int p1)] [(.ref a1)])) _
    refine XS.aloadN X3.here hx rfl (hb hby d4_5) rfl rfl ?_
    show Steps p.tables e below (T3.setTop (mkF m 6 #[.val (.ref a1), .val (.ref r1), .val (.int p1)] [(.ref r1), (.ref a1)])) _
    refine st4 _ ?_
    show Steps p.tables e below (T4.setTop (mkF m 9 #[.val (.ref a1), .val (.ref r1), .val (.int p1)] [])) _
    refine XS.aloadN X4.here hx rfl (hb hby d4_9) rfl rfl ?_
    show Steps p.tables e below (T4.setTop (mkF m 10 #[.val (.ref a1), .val (.ref r1), .val (.int p1)] [(.ref a1)])) _
    refine XS.iloadN X4.here hx rfl (hb hby d4_10) rfl ?_
    show Steps p.tables e below (T4.setTop (mkF m 11 #[.val (.ref a1), .val (.ref r1), .val (.int p1)] [(.int p1), (.ref a1)])) _
    refine st5 _ ?_
    show Steps p.tables e below (T5.setTop (mkF m 14 #[.val (.ref a1), .val (.ref r1), .val (.int p1)] [])) _
    exact X5.returnOut hx Bd.returns (hb hby d4_14) hr
  · show Q4 Z a1 r1 p1 h0 n0 _ T5.heap _
    rw [e5]
    exact ⟨rfl, N5, K5⟩
theorem d1_0 : decode jdk_42_method_139_code 0 = .ok (.getstatic 38, 3) := by decide +kernel
theorem d1_3 : decode jdk_42_method_139_code 3 = .ok (.ifCond .eq 23, 3) := by decide +kernel
theorem d1_6 : decode jdk_42_method_139_code 6 = .ok (.iload_n 0, 1) := by decide +kernel
theorem d1_7 : decode jdk_42_method_139_code 7 = .ok (.invokestatic 1015, 3) := by decide +kernel
theorem d1_10 : decode jdk_42_method_139_code 10 = .ok (.ifCond .eq 16, 3) := by decide +kernel
theorem d1_13 : decode jdk_42_method_139_code 13 = .ok (.new 10, 3) := by decide +kernel
theorem d1_16 : decode jdk_42_method_139_code 16 = .ok (.dup, 1) := by decide +kernel
theorem d1_17 : decode jdk_42_method_139_code 17 = .ok (.iload_n 0, 1) := by decide +kernel
theorem d1_18 : decode jdk_42_method_139_code 18 = .ok (.invokestatic 1018, 3) := by decide +kernel
theorem d1_21 : decode jdk_42_method_139_code 21 = .ok (.iconst 0, 1) := by decide +kernel
theorem d1_22 : decode jdk_42_method_139_code 22 = .ok (.invokespecial 209, 3) := by decide +kernel
theorem d1_25 : decode jdk_42_method_139_code 25 = .ok (.areturn, 1) := by decide +kernel
theorem pn_1 : plainName "java/lang/String" = true := by first | (simp [plainName, overriddenIn]; done) | decide +kernel
theorem ef_1 (m : MethodId) (p1 : Int32) : entryFrame m #[(.int p1)] 1 = (mkF m 0 #[.val (.int p1)] []) := by first | (simp [entryFrame, mkF, argsToLocals, Value.category]; done) | rfl
def Q1 (Z : State) (p1 : Int32) (G1 : Int32) (h0 : Heap) (n0 : Nat) (v : Option Value) (h : Heap) (L : List Loc) : Prop := (∃ b, v = some (.ref b)) ∧ Fr n0 L ∧ Keep h0 h []
set_option maxRecDepth 65536 in
set_option maxHeartbeats 40000000 in
theorem rm1 (l : Launch) (Z : State) (a0 : Array Value) (hw : ∀ d ∈ tables_1, d.before a0 Z = true) (ws : List Jvm.Cond) (p1 : Int32) (G1 : Int32) (h0 : Heap) (n0 : Nat) (Z0 : n0 ≤ h0.size) (hc : ¬ (255 : Int32) < p1) (S1 : Sta Z h0 "java/lang/String" "COMPACT_STRINGS" "Z" (.int G1)) (hG : ¬ G1 = 0) :
    MetFree l (⟨"java/lang/String", "valueOf", "(C)Ljava/lang/String;"⟩ : MethodName) (head1 (Jvm.Cond.code (⟨"java/lang/String", "valueOf", "(C)Ljava/lang/String;"⟩ : MethodName) jdk_42_method_139_code 1 (some (.object "java/lang/String")) :: ws) ({ frames := 2, cells := 2, slots := 5, locals := 27 } : Room)) (fun a U => a = #[(.int p1)] ∧ Z.Warmed39 U.vm ∧ U.heap = h0) (fun _ _ _ _ _ => True) (fun _ U o U' => ∃ v L, o = .returned v ∧ Q1 Z p1 G1 h0 n0 v U'.heap L ∧ FrameEnd U o U' L ({ frames := 2, cells := 2, slots := 5, locals := 27 } : Room).cells ({ frames := 2, cells := 2, slots := 5, locals := 27 } : Room).slots) := by
  refine MetFree.of_bodySF (plainFor_of_name pn_1) hisR ?_
  intro p e s m args below meth c s₁ Bd hml0 hP hK
  obtain ⟨rfl, hZ, hh⟩ := hP
  have hx := Bd.exec
  have hby := Bd.bytes
  have hml : c.maxLocals = 1 := hml0
  have hown : s.vm.findClass "java/lang/String" = some m.cls := findClass_of_methodNamed Bd.named
  have hnm := (name_of_methodNamed Bd.named Bd.method).1
  have X0 : Stand p l e ({ frames := 2, cells := 2, slots := 5, locals := 27 } : Room) s m #[(.int p1)] below meth c s₁ [] 0 0 := Stand.of_body Bd
  have e0 : s₁.heap = h0 := by rw [← hh, Bd.state]; rfl
  have N0 := Fr.nil n0
  have pre0 : ∀ t, Steps p.tables e below (s₁.setTop (mkF m 0 #[.val (.int p1)] [])) t → Steps p.tables e below (s₁.setTop (entryFrame m #[(.int p1)] 1)) t := fun t k => castTop (ef_1 m p1) k
  obtain ⟨T3, X3, e3, st3⟩ := getS2 X0 hx hZ hown (host := "") (Or.inl (hw _ (List.mem_of_getElem? (i := 4) rfl))) Via.refl e0 S1 (g := (mkF m 0 #[.val (.int p1)] [])) rfl (hb hby d1_0)
  obtain ⟨_, _, ⟨T4, L4, k4, n4⟩, -, X4, ⟨Lc4, hQ4, l4, y4, z4⟩, st4⟩ := Jvm.LawKit.callS X3 hx (y := (⟨"java/lang/StringLatin1", "canEncode", "(C)Z"⟩ : MethodName)) hown (mvT hZ (hw _ (List.mem_of_getElem? (i := 5) rfl))) (mvT hZ (hw _ (List.mem_of_getElem? (i := 6) rfl))) (mvT hZ (hw _ (List.mem_of_getElem? (i := 7) rfl))) (mvT hZ (hw _ (List.mem_of_getElem? (i := 8) rfl))) (by decide) (backOf (W := 0) (rm2 l Z a0 hw [] p1 h0 n0 Z0 hc) hZ (hw _ (List.mem_of_getElem? (i := 8) rfl)) (hw _ (List.mem_of_getElem? (i := 7) rfl)) (by decide) (by decide)) (g := (mkF m 7 #[.val (.int p1)] [(.int p1)])) rfl (by rw [hml]; rfl) (argsL := [(.int p1)]) (rest := []) (lenOf pd_oCcZ rfl) rfl (by show 2 * 0 + _ ≤ _; exact Nat.le_of_eq rfl) (hb hby d1_7) (fun _ _ => ⟨rfl, e3, (by decide : 0 + 0 ≤ _), (by decide : 0 + 0 ≤ _)⟩)
  dsimp only [Pt.U, Pt.locs, Pt.cells, Pt.slots] at X4 l4 y4 z4 st4 hQ4
  subst l4 y4 z4
  obtain ⟨rfl, N4q, eq4⟩ := hQ4
  have N4 := Fr.app N0 N4q
  have Z4 : n0 ≤ T4.heap.size := by rw [eq4]; exact Z0
  obtain ⟨T5, h5, X5, e5, E5, A5, D5, -, st5⟩ := newO X4 hx hZ hown (hw _ (List.mem_of_getElem? (i := 9) rfl)) (hw _ (List.mem_of_getElem? (i := 10) rfl)) (hw _ (List.mem_of_getElem? (i := 2) rfl)) rfl (g := (mkF m 13 #[.val (.int p1)] [])) rfl (hb hby d1_13) (by decide) (by decide)
  obtain ⟨b5, g5⟩ : ∃ z, z = T4.heap.size := ⟨_, rfl⟩
  rw [← g5] at A5 D5 st5
  have F1 : Fld Z h5 b5 "java/lang/String" "value" "[B" .null := D5 (Or.inr (hw _ (List.mem_of_getElem? (i := 23) rfl))) (ty := .array .byte) (by decide)
  have F2 : Fld Z h5 b5 "java/lang/String" "coder" "B" (.int (0 : Int32)) := D5 (Or.inr (hw _ (List.mem_of_getElem? (i := 25) rfl))) (ty := .byte) (by decide)
  have Z5 : n0 ≤ h5.size := Nat.le_trans Z4 E5.1
  have gb : n0 ≤ b5 := Nat.le_trans Z4 (Nat.le_of_eq g5.symm)
  have K4 : Keep h0 T4.heap [] := by rw [eq4]; exact Keep.refl _ _
  have K5 : Keep h0 h5 [] := K4.ext E5
  obtain ⟨_, _, ⟨T6, L6, k6, n6⟩, -, X6, ⟨Lc6, hQ6, l6, y6, z6⟩, st6⟩ := Jvm.LawKit.callS X5 hx (y := (⟨"java/lang/StringLatin1", "toBytes", "(C)[B"⟩ : MethodName)) hown (mvT hZ (hw _ (List.mem_of_getElem? (i := 11) rfl))) (mvT hZ (hw _ (List.mem_of_getElem? (i := 12) rfl))) (mvT hZ (hw _ (List.mem_of_getElem? (i := 7) rfl))) (mvT hZ (hw _ (List.mem_of_getElem? (i := 13) rfl))) (by decide) (backOf (W := 2) (rm3 l Z a0 hw [] p1 h5 n0 Z5) hZ (hw _ (List.mem_of_getElem? (i := 13) rfl)) (hw _ (List.mem_of_getElem? (i := 7) rfl)) (by decide) (by decide)) (g := (mkF m 18 #[.val (.int p1)] [(.int p1), (.ref b5), (.ref b5)])) rfl (by rw [hml]; rfl) (argsL := [(.int p1)]) (rest := [(.ref b5), (.ref b5)]) (lenOf pd_oCcAB rfl) rfl (by show 2 * 0 + _ ≤ _; exact Nat.le_of_eq rfl) (hb hby d1_18) (fun _ _ => ⟨rfl, e5, (by decide : 1 + 1 ≤ _), (by decide : 4 + 1 ≤ _)⟩)
  dsimp only [Pt.U, Pt.locs, Pt.cells, Pt.slots] at X6 l6 y6 z6 st6 hQ6
  subst l6 y6 z6
  obtain ⟨⟨r6, rfl⟩, N6q, Kq6⟩ := hQ6
  have N6 := Fr.app N4 N6q
  have Z6 : n0 ≤ T6.heap.size := Nat.le_trans Z5 Kq6.1
  have K6 : Keep h0 T6.heap [] := K5.trans Kq6 (fun x hx => nomatch hx)
  obtain ⟨_, _, ⟨T7, L7, k7, n7⟩, -, X7, ⟨Lc7, hQ7, l7, y7, z7⟩, st7⟩ := X6.specialBack hx (y := (⟨"java/lang/String", "<init>", "([BB)V"⟩ : MethodName)) rfl hown (mvT hZ (hw _ (List.mem_of_getElem? (i := 15) rfl))) (mvT hZ (hw _ (List.mem_of_getElem? (i := 16) rfl))) (mvT hZ (hw _ (List.mem_of_getElem? (i := 18) rfl))) (by decide) (backOf (W := 1) (rm4 l Z a0 hw [] b5 r6 0 T6.heap n0 Z6 (F1.keep Kq6 (fun q => nomatch q)) (F2.keep Kq6 (fun q => nomatch q)) (A5.keep Kq6) gb) hZ (hw _ (List.mem_of_getElem? (i := 18) rfl)) (hw _ (List.mem_of_getElem? (i := 2) rfl)) (by decide) (by decide)) (g := (mkF m 22 #[.val (.int p1)] [(.int (0 : Int32)), (.ref r6), (.ref b5), (.ref b5)])) rfl (by rw [hml]; rfl) (Steps.refl _) (a := b5) (argsL := [(.ref r6), (.int (0 : Int32))]) (rest := [(.ref b5)]) (lenOf pd_oABBcV rfl) rfl (by show 2 * 0 + _ ≤ _; exact Nat.le_of_eq rfl) (hb hby d1_22) (fun _ _ => ⟨rfl, rfl, (by decide : 2 + 0 ≤ _), (by decide : 5 + 0 ≤ _)⟩)
  dsimp only [Pt.U, Pt.locs, Pt.cells, Pt.slots] at X7 l7 y7 z7 st7 hQ7
  subst l7 y7 z7
  obtain ⟨rfl, N7q, Kq7⟩ := hQ7
  have N7 := Fr.app N6 N7q
  have K7 : Keep h0 T7.heap [] := K6.trans Kq7 (fun x hx => Or.inr (by rw [List.mem_singleton.mp hx, g5, eq4]; exact Nat.le_refl _))
  obtain ⟨fs, hr, hrun, hended, hW, hsame⟩ := X7.leave (v := some (.ref b5)) (fun h => by rw [Bd.returns] at h; cases h)
  refine ⟨_, _, pre0 _ ?_, hrun, hended, _, _, rfl, ?_, ⟨_, rfl⟩, hW, hsame.mono (by decide) (by decide)⟩
  · show Steps p.tables e below (s₁.setTop (mkF m 0 #[.val (.int p1)] [])) _
    show Steps p.tables e below (s₁.setTop (mkF m 0 #[.val (.int p1)] [])) _
    refine st3 _ ?_
    show Steps p.tables e below (T3.setTop (mkF m 3 #[.val (.int p1)] [(.int G1)])) _
    refine XS.ifNo X3.here hx rfl (hb hby d1_3) rfl ((if0 _ _).trans (feq hG).1) ?_
    show Steps p.tables e below (T3.setTop (mkF m 6 #[.val (.int p1)] [])) _
    refine XS.iloadN X3.here hx rfl (hb hby d1_6) rfl ?_
    show Steps p.tables e below (T3.setTop (mkF m 7 #[.val (.int p1)] [(.int p1)])) _
    refine st4 _ ?_
    show Steps p.tables e below (T4.setTop (mkF m 10 #[.val (.int p1)] [(.int (1 : Int32))])) _
    refine XS.ifNo X4.here hx rfl (hb hby d1_10) rfl ((if0 _ _).trans (feq (by decide)).1) ?_
    show Steps p.tables e below (T4.setTop (mkF m 13 #[.val (.int p1)] [])) _
    refine st5 _ ?_
    show Steps p.tables e below (T5.setTop (mkF m 16 #[.val (.int p1)] [(.ref b5)])) _
    refine XS.dup X5.here hx rfl (hb hby d1_16) rfl rfl ?_
    show Steps p.tables e below (T5.setTop (mkF m 17 #[.val (.int p1)] [(.ref b5), (.ref b5)])) _
    refine XS.iloadN X5.here hx rfl (hb hby d1_17) rfl ?_
    show Steps p.tables e below (T5.setTop (mkF m 18 #[.val (.int p1)] [(.int p1), (.ref b5), (.ref b5)])) _
    refine st6 _ ?_
    show Steps p.tables e below (T6.setTop (mkF m 21 #[.val (.int p1)] [(.ref r6), (.ref b5), (.ref b5)])) _
    refine XS.iconst X6.here hx rfl (hb hby d1_21) ?_
    show Steps p.tables e below (T6.setTop (mkF m 22 #[.val (.int p1)] [(.int (0 : Int32)), (.ref r6), (.ref b5), (.ref b5)])) _
    refine st7.trans ?_
    show Steps p.tables e below (T7.setTop (mkF m 25 #[.val (.int p1)] [(.ref b5)])) _
    jvm_step X7.here [X7.here.top, hx, (hb hby d1_25), X7.method', Bd.returns, Value.isRef, FieldType.isReference]
    first | (intro acts; rw [hr _ acts rfl rfl rfl]) | rw [hr _ _ rfl rfl rfl]
    exact Steps.refl _
  · exact ⟨⟨b5, rfl⟩, N7, K7⟩
theorem d7_0 : decode prog_46_method_2_code 0 = .ok (.aload_n 0, 1) := by decide +kernel
theorem d7_1 : decode prog_46_method_2_code 1 = .ok (.invokespecial 7, 3) := by decide +kernel
theorem d7_4 : decode prog_46_method_2_code 4 = .ok (.aload_n 0, 1) := by decide +kernel
theorem d7_5 : decode prog_46_method_2_code 5 = .ok (.aconst_null, 1) := by decide +kernel
theorem d7_6 : decode prog_46_method_2_code 6 = .ok (.putfield 12, 3) := by decide +kernel
theorem d7_9 : decode prog_46_method_2_code 9 = .ok (.aload_n 0, 1) := by decide +kernel
theorem d7_10 : decode prog_46_method_2_code 10 = .ok (.aconst_null, 1) := by decide +kernel
theorem d7_11 : decode prog_46_method_2_code 11 = .ok (.putfield 16, 3) := by decide +kernel
theorem d7_14 : decode prog_46_method_2_code 14 = .ok (.aload_n 0, 1) := by decide +kernel
theorem d7_15 : decode prog_46_method_2_code 15 = .ok (.iconst 1, 1) := by decide +kernel
theorem d7_16 : decode prog_46_method_2_code 16 = .ok (.putfield 19, 3) := by decide +kernel
theorem d7_19 : decode prog_46_method_2_code 19 = .ok (.aload_n 0, 1) := by decide +kernel
theorem d7_20 : decode prog_46_method_2_code 20 = .ok (.lconst 0, 1) := by decide +kernel
theorem d7_21 : decode prog_46_method_2_code 21 = .ok (.putfield 23, 3) := by decide +kernel
theorem d7_24 : decode prog_46_method_2_code 24 = .ok (.aload_n 0, 1) := by decide +kernel
theorem d7_25 : decode prog_46_method_2_code 25 = .ok (.lconst 0, 1) := by decide +kernel
theorem d7_26 : decode prog_46_method_2_code 26 = .ok (.putfield 27, 3) := by decide +kernel
theorem d7_29 : decode prog_46_method_2_code 29 = .ok (.aload_n 0, 1) := by decide +kernel
theorem d7_30 : decode prog_46_method_2_code 30 = .ok (.iconst 0, 1) := by decide +kernel
theorem d7_31 : decode prog_46_method_2_code 31 = .ok (.putfield 30, 3) := by decide +kernel
theorem d7_34 : decode prog_46_method_2_code 34 = .ok (.aload_n 0, 1) := by decide +kernel
theorem d7_35 : decode prog_46_method_2_code 35 = .ok (.lconst 0, 1) := by decide +kernel
theorem d7_36 : decode prog_46_method_2_code 36 = .ok (.putfield 34, 3) := by decide +kernel
theorem d7_39 : decode prog_46_method_2_code 39 = .ok (.aload_n 0, 1) := by decide +kernel
theorem d7_40 : decode prog_46_method_2_code 40 = .ok (.lconst 0, 1) := by decide +kernel
theorem d7_41 : decode prog_46_method_2_code 41 = .ok (.putfield 37, 3) := by decide +kernel
theorem d7_44 : decode prog_46_method_2_code 44 = .ok (.aload_n 0, 1) := by decide +kernel
theorem d7_45 : decode prog_46_method_2_code 45 = .ok (.lconst 0, 1) := by decide +kernel
theorem d7_46 : decode prog_46_method_2_code 46 = .ok (.putfield 40, 3) := by decide +kernel
theorem d7_49 : decode prog_46_method_2_code 49 = .ok (.aload_n 0, 1) := by decide +kernel
theorem d7_50 : decode prog_46_method_2_code 50 = .ok (.aload_n 1, 1) := by decide +kernel
theorem d7_51 : decode prog_46_method_2_code 51 = .ok (.putfield 43, 3) := by decide +kernel
theorem d7_54 : decode prog_46_method_2_code 54 = .ok (.return_, 1) := by decide +kernel
theorem pn_7 : plainName "dev/shiftwise/stats/Statistics" = true := by first | (simp [plainName, overriddenIn]; done) | decide +kernel
theorem ef_7 (m : MethodId) (a1 : Addr) : entryFrame m #[(.ref a1), .null] 2 = (mkF m 0 #[.val (.ref a1), .val .null] []) := by first | (simp [entryFrame, mkF, argsToLocals, Value.category]; done) | rfl
def Q7 (Z : State) (a1 : Addr)  (h0 : Heap) (n0 : Nat) (v : Option Value) (h : Heap) (L : List Loc) : Prop := v = none ∧ Fr n0 L ∧ Keep h0 h [a1] ∧ own_st Z h a1 .null 1 0
set_option maxRecDepth 65536 in
set_option maxHeartbeats 40000000 in
theorem rm7 (l : Launch) (Z : State) (a0 : Array Value) (hw : ∀ d ∈ tables_1, d.before a0 Z = true) (ws : List Jvm.Cond) (a1 : Addr)  (h0 : Heap) (n0 : Nat) (Z0 : n0 ≤ h0.size) (S1 : own_st Z h0 a1 .null 0 0) (g1 : n0 ≤ a1) :
    MetFree l (⟨"dev/shiftwise/stats/Statistics", "<init>", "(Ldev/shiftwise/stats/Trace;)V"⟩ : MethodName) (head1 (Jvm.Cond.code (⟨"dev/shiftwise/stats/Statistics", "<init>", "(Ldev/shiftwise/stats/Trace;)V"⟩ : MethodName) prog_46_method_2_code 2 none :: ws) ({ frames := 1, cells := 0, slots := 0, locals := 12 } : Room)) (fun a U => a = #[(.ref a1), .null] ∧ Z.Warmed39 U.vm ∧ U.heap = h0) (fun _ _ _ _ _ => True) (fun _ U o U' => ∃ v L, o = .returned v ∧ Q7 Z a1  h0 n0 v U'.heap L ∧ FrameEnd U o U' L ({ frames := 1, cells := 0, slots := 0, locals := 12 } : Room).cells ({ frames := 1, cells := 0, slots := 0, locals := 12 } : Room).slots) := by
  refine MetFree.of_bodySF (plainFor_of_name pn_7) hisR ?_
  intro p e s m args below meth c s₁ Bd hml0 hP hK
  obtain ⟨rfl, hZ, hh⟩ := hP
  have hx := Bd.exec
  have hby := Bd.bytes
  have hml : c.maxLocals = 2 := hml0
  have hown : s.vm.findClass "dev/shiftwise/stats/Statistics" = some m.cls := findClass_of_methodNamed Bd.named
  have hnm := (name_of_methodNamed Bd.named Bd.method).1
  have X0 : Stand p l e ({ frames := 1, cells := 0, slots := 0, locals := 12 } : Room) s m #[(.ref a1), .null] below meth c s₁ [] 0 0 := Stand.of_body Bd
  have e0 : s₁.heap = h0 := by rw [← hh, Bd.state]; rfl
  have N0 := Fr.nil n0
  have pre0 : ∀ t, Steps p.tables e below (s₁.setTop (mkF m 0 #[.val (.ref a1), .val .null] [])) t → Steps p.tables e below (s₁.setTop (entryFrame m #[(.ref a1), .null] 2)) t := fun t k => castTop (ef_7 m a1) k
  obtain ⟨T3, X3, e3, st3⟩ := initO X0 hx hZ hown (hw _ (List.mem_of_getElem? (i := 35) rfl)) (hw _ (List.mem_of_getElem? (i := 20) rfl)) (hw _ (List.mem_of_getElem? (i := 21) rfl)) e0 (g := (mkF m 1 #[.val (.ref a1), .val .null] [(.ref a1)])) rfl (by rw [hml]; rfl) rfl (hb hby d7_1) (by decide) (W := 0) (by show 2 * 0 + _ ≤ _; exact Nat.le_of_eq rfl) (by decide)
  obtain ⟨E20, ⟨v20_0, F20_0⟩, F20_1, F20_2, ⟨v20_3, F20_3⟩, ⟨v20_4, F20_4⟩, ⟨v20_5, F20_5⟩, F20_6, ⟨v20_7, F20_7⟩, ⟨v20_8, F20_8⟩, F20_9⟩ := id S1
  obtain ⟨T20, h20, X20, e20, W20, st20⟩ := putF X3 hx hZ hown (host := "") (Or.inl (hw _ (List.mem_of_getElem? (i := 36) rfl))) Via.refl e3 F20_0 E20 (Or.inl (hw _ (List.mem_of_getElem? (i := 37) rfl))) (hw _ (List.mem_of_getElem? (i := 27) rfl)) (ty := (.object "java/lang/String")) (by decide) rfl rfl (g := (mkF m 6 #[.val (.ref a1), .val .null] [.null, (.ref a1)])) rfl rfl (hb hby d7_6)
  have S20 := own_w_algorithm hw S1 W20
  have N20 := Fr.snoc X20 N0 g1
  have K20 : Keep h0 h20 [a1] := (Keep.refl h0 [a1]).wr W20 (Or.inl (List.mem_of_getElem? (i := 0) rfl))
  obtain ⟨E21, ⟨v21_0, F21_0⟩, F21_1, F21_2, ⟨v21_3, F21_3⟩, ⟨v21_4, F21_4⟩, ⟨v21_5, F21_5⟩, F21_6, ⟨v21_7, F21_7⟩, ⟨v21_8, F21_8⟩, F21_9⟩ := id S20
  obtain ⟨T21, h21, X21, e21, W21, st21⟩ := putF X20 hx hZ hown (host := "") (Or.inl (hw _ (List.mem_of_getElem? (i := 38) rfl))) Via.refl e20 F21_1 E21 (Or.inl (hw _ (List.mem_of_getElem? (i := 39) rfl))) (hw _ (List.mem_of_getElem? (i := 27) rfl)) (ty := (.object "java/lang/String")) (by decide) rfl rfl (g := (mkF m 11 #[.val (.ref a1), .val .null] [.null, (.ref a1)])) rfl rfl (hb hby d7_11)
  have S21 := own_w_searchedBy hw S20 W21
  have N21 := Fr.snoc X21 N20 g1
  have K21 : Keep h0 h21 [a1] := K20.wr W21 (Or.inl (List.mem_of_getElem? (i := 0) rfl))
  obtain ⟨E22, ⟨v22_0, F22_0⟩, F22_1, F22_2, ⟨v22_3, F22_3⟩, ⟨v22_4, F22_4⟩, ⟨v22_5, F22_5⟩, F22_6, ⟨v22_7, F22_7⟩, ⟨v22_8, F22_8⟩, F22_9⟩ := id S21
  obtain ⟨T22, h22, X22, e22, W22, st22⟩ := putFN X21 hx hZ hown (hw _ (List.mem_of_getElem? (i := 40) rfl)) Via.refl e21 F22_2 E22 (Or.inl (hw _ (List.mem_of_getElem? (i := 41) rfl))) (hw _ (List.mem_of_getElem? (i := 27) rfl)) (ty := .boolean) (v' := (.int 1)) (by decide) rfl (by decide) (g := (mkF m 16 #[.val (.ref a1), .val .null] [(.int (1 : Int32)), (.ref a1)])) rfl rfl (hb hby d7_16)
  have S22 := own_w_counted hw S21 W22
  have N22 := Fr.snoc X22 N21 g1
  have K22 : Keep h0 h22 [a1] := K21.wr W22 (Or.inl (List.mem_of_getElem? (i := 0) rfl))
  obtain ⟨E23, ⟨v23_0, F23_0⟩, F23_1, F23_2, ⟨v23_3, F23_3⟩, ⟨v23_4, F23_4⟩, ⟨v23_5, F23_5⟩, F23_6, ⟨v23_7, F23_7⟩, ⟨v23_8, F23_8⟩, F23_9⟩ := id S22
  obtain ⟨T23, h23, X23, e23, W23, st23⟩ := putF X22 hx hZ hown (host := "") (Or.inl (hw _ (List.mem_of_getElem? (i := 42) rfl))) Via.refl e22 F23_3 E23 (Or.inl (hw _ (List.mem_of_getElem? (i := 43) rfl))) (hw _ (List.mem_of_getElem? (i := 27) rfl)) (ty := .long) (by decide) rfl rfl (g := (mkF m 21 #[.val (.ref a1), .val .null] [(.long (0 : Int64)), (.ref a1)])) rfl rfl (hb hby d7_21)
  have S23 := own_w_text hw S22 W23
  have N23 := Fr.snoc X23 N22 g1
  have K23 : Keep h0 h23 [a1] := K22.wr W23 (Or.inl (List.mem_of_getElem? (i := 0) rfl))
  obtain ⟨E24, ⟨v24_0, F24_0⟩, F24_1, F24_2, ⟨v24_3, F24_3⟩, ⟨v24_4, F24_4⟩, ⟨v24_5, F24_5⟩, F24_6, ⟨v24_7, F24_7⟩, ⟨v24_8, F24_8⟩, F24_9⟩ := id S23
  obtain ⟨T24, h24, X24, e24, W24, st24⟩ := putF X23 hx hZ hown (host := "") (Or.inl (hw _ (List.mem_of_getElem? (i := 44) rfl))) Via.refl e23 F24_4 E24 (Or.inl (hw _ (List.mem_of_getElem? (i := 45) rfl))) (hw _ (List.mem_of_getElem? (i := 27) rfl)) (ty := .long) (by decide) rfl rfl (g := (mkF m 26 #[.val (.ref a1), .val .null] [(.long (0 : Int64)), (.ref a1)])) rfl rfl (hb hby d7_26)
  have S24 := own_w_origin hw S23 W24
  have N24 := Fr.snoc X24 N23 g1
  have K24 : Keep h0 h24 [a1] := K23.wr W24 (Or.inl (List.mem_of_getElem? (i := 0) rfl))
  obtain ⟨E25, ⟨v25_0, F25_0⟩, F25_1, F25_2, ⟨v25_3, F25_3⟩, ⟨v25_4, F25_4⟩, ⟨v25_5, F25_5⟩, F25_6, ⟨v25_7, F25_7⟩, ⟨v25_8, F25_8⟩, F25_9⟩ := id S24
  obtain ⟨T25, h25, X25, e25, W25, st25⟩ := putF X24 hx hZ hown (host := "") (Or.inl (hw _ (List.mem_of_getElem? (i := 46) rfl))) Via.refl e24 F25_5 E25 (Or.inl (hw _ (List.mem_of_getElem? (i := 47) rfl))) (hw _ (List.mem_of_getElem? (i := 27) rfl)) (ty := .int) (by decide) rfl rfl (g := (mkF m 31 #[.val (.ref a1), .val .null] [(.int (0 : Int32)), (.ref a1)])) rfl rfl (hb hby d7_31)
  have S25 := own_w_pattern hw S24 W25
  have N25 := Fr.snoc X25 N24 g1
  have K25 : Keep h0 h25 [a1] := K24.wr W25 (Or.inl (List.mem_of_getElem? (i := 0) rfl))
  obtain ⟨E26, ⟨v26_0, F26_0⟩, F26_1, F26_2, ⟨v26_3, F26_3⟩, ⟨v26_4, F26_4⟩, ⟨v26_5, F26_5⟩, F26_6, ⟨v26_7, F26_7⟩, ⟨v26_8, F26_8⟩, F26_9⟩ := id S25
  obtain ⟨T26, h26, X26, e26, W26, st26⟩ := putF X25 hx hZ hown (host := "") (Or.inl (hw _ (List.mem_of_getElem? (i := 48) rfl))) Via.refl e25 F26_6 E26 (Or.inl (hw _ (List.mem_of_getElem? (i := 49) rfl))) (hw _ (List.mem_of_getElem? (i := 27) rfl)) (ty := .long) (by decide) rfl rfl (g := (mkF m 36 #[.val (.ref a1), .val .null] [(.long (0 : Int64)), (.ref a1)])) rfl rfl (hb hby d7_36)
  have S26 := own_w_windows hw S25 W26
  have N26 := Fr.snoc X26 N25 g1
  have K26 : Keep h0 h26 [a1] := K25.wr W26 (Or.inl (List.mem_of_getElem? (i := 0) rfl))
  obtain ⟨E27, ⟨v27_0, F27_0⟩, F27_1, F27_2, ⟨v27_3, F27_3⟩, ⟨v27_4, F27_4⟩, ⟨v27_5, F27_5⟩, F27_6, ⟨v27_7, F27_7⟩, ⟨v27_8, F27_8⟩, F27_9⟩ := id S26
  obtain ⟨T27, h27, X27, e27, W27, st27⟩ := putF X26 hx hZ hown (host := "") (Or.inl (hw _ (List.mem_of_getElem? (i := 50) rfl))) Via.refl e26 F27_7 E27 (Or.inl (hw _ (List.mem_of_getElem? (i := 51) rfl))) (hw _ (List.mem_of_getElem? (i := 27) rfl)) (ty := .long) (by decide) rfl rfl (g := (mkF m 41 #[.val (.ref a1), .val .null] [(.long (0 : Int64)), (.ref a1)])) rfl rfl (hb hby d7_41)
  have S27 := own_w_comparisons hw S26 W27
  have N27 := Fr.snoc X27 N26 g1
  have K27 : Keep h0 h27 [a1] := K26.wr W27 (Or.inl (List.mem_of_getElem? (i := 0) rfl))
  obtain ⟨E28, ⟨v28_0, F28_0⟩, F28_1, F28_2, ⟨v28_3, F28_3⟩, ⟨v28_4, F28_4⟩, ⟨v28_5, F28_5⟩, F28_6, ⟨v28_7, F28_7⟩, ⟨v28_8, F28_8⟩, F28_9⟩ := id S27
  obtain ⟨T28, h28, X28, e28, W28, st28⟩ := putF X27 hx hZ hown (host := "") (Or.inl (hw _ (List.mem_of_getElem? (i := 52) rfl))) Via.refl e27 F28_8 E28 (Or.inl (hw _ (List.mem_of_getElem? (i := 53) rfl))) (hw _ (List.mem_of_getElem? (i := 27) rfl)) (ty := .long) (by decide) rfl rfl (g := (mkF m 46 #[.val (.ref a1), .val .null] [(.long (0 : Int64)), (.ref a1)])) rfl rfl (hb hby d7_46)
  have S28 := own_w_occurrences hw S27 W28
  have N28 := Fr.snoc X28 N27 g1
  have K28 : Keep h0 h28 [a1] := K27.wr W28 (Or.inl (List.mem_of_getElem? (i := 0) rfl))
  obtain ⟨E29, ⟨v29_0, F29_0⟩, F29_1, F29_2, ⟨v29_3, F29_3⟩, ⟨v29_4, F29_4⟩, ⟨v29_5, F29_5⟩, F29_6, ⟨v29_7, F29_7⟩, ⟨v29_8, F29_8⟩, F29_9⟩ := id S28
  obtain ⟨T29, h29, X29, e29, W29, st29⟩ := putF X28 hx hZ hown (host := "") (Or.inl (hw _ (List.mem_of_getElem? (i := 54) rfl))) Via.refl e28 F29_9 E29 (Or.inr ⟨(hw _ (List.mem_of_getElem? (i := 55) rfl)), rfl, hnm⟩) (hw _ (List.mem_of_getElem? (i := 27) rfl)) (ty := (.object "dev/shiftwise/stats/Trace")) (by decide) rfl rfl (g := (mkF m 51 #[.val (.ref a1), .val .null] [.null, (.ref a1)])) rfl rfl (hb hby d7_51)
  have S29 := own_w_trace hw S28 W29
  have N29 := Fr.snoc X29 N28 g1
  have K29 : Keep h0 h29 [a1] := K28.wr W29 (Or.inl (List.mem_of_getElem? (i := 0) rfl))
  obtain ⟨fs, hr, hrun, hended, hW, hsame⟩ := X29.leave (v := none) (fun _ => rfl)
  refine ⟨_, _, pre0 _ ?_, hrun, hended, _, _, rfl, ?_, ⟨_, rfl⟩, hW, hsame.mono (by decide) (by decide)⟩
  · show Steps p.tables e below (s₁.setTop (mkF m 0 #[.val (.ref a1), .val .null] [])) _
    show Steps p.tables e below (s₁.setTop (mkF m 0 #[.val (.ref a1), .val .null] [])) _
    refine XS.aloadN X0.here hx rfl (hb hby d7_0) rfl rfl ?_
    show Steps p.tables e below (s₁.setTop (mkF m 1 #[.val (.ref a1), .val .null] [(.ref a1)])) _
    refine st3 _ ?_
    show Steps p.tables e below (T3.setTop (mkF m 4 #[.val (.ref a1), .val .null] [])) _
    refine XS.aloadN X3.here hx rfl (hb hby d7_4) rfl rfl ?_
    show Steps p.tables e below (T3.setTop (mkF m 5 #[.val (.ref a1), .val .null] [(.ref a1)])) _
    refine XS.aconstNull X3.here hx rfl (hb hby d7_5) ?_
    show Steps p.tables e below (T3.setTop (mkF m 6 #[.val (.ref a1), .val .null] [.null, (.ref a1)])) _
    refine st20 _ ?_
    show Steps p.tables e below (T20.setTop (mkF m 9 #[.val (.ref a1), .val .null] [])) _
    refine XS.aloadN X20.here hx rfl (hb hby d7_9) rfl rfl ?_
    show Steps p.tables e below (T20.setTop (mkF m 10 #[.val (.ref a1), .val .null] [(.ref a1)])) _
    refine XS.aconstNull X20.here hx rfl (hb hby d7_10) ?_
    show Steps p.tables e below (T20.setTop (mkF m 11 #[.val (.ref a1), .val .null] [.null, (.ref a1)])) _
    refine st21 _ ?_
    show Steps p.tables e below (T21.setTop (mkF m 14 #[.val (.ref a1), .val .null] [])) _
    refine XS.aloadN X21.here hx rfl (hb hby d7_14) rfl rfl ?_
    show Steps p.tables e below (T21.setTop (mkF m 15 #[.val (.ref a1), .val .null] [(.ref a1)])) _
    refine XS.iconst X21.here hx rfl (hb hby d7_15) ?_
    show Steps p.tables e below (T21.setTop (mkF m 16 #[.val (.ref a1), .val .null] [(.int (1 : Int32)), (.ref a1)])) _
    refine st22 _ ?_
    show Steps p.tables e below (T22.setTop (mkF m 19 #[.val (.ref a1), .val .null] [])) _
    refine XS.aloadN X22.here hx rfl (hb hby d7_19) rfl rfl ?_
    show Steps p.tables e below (T22.setTop (mkF m 20 #[.val (.ref a1), .val .null] [(.ref a1)])) _
    refine XS.lconst X22.here hx rfl (hb hby d7_20) ?_
    show Steps p.tables e below (T22.setTop (mkF m 21 #[.val (.ref a1), .val .null] [(.long (0 : Int64)), (.ref a1)])) _
    refine st23 _ ?_
    show Steps p.tables e below (T23.setTop (mkF m 24 #[.val (.ref a1), .val .null] [])) _
    refine XS.aloadN X23.here hx rfl (hb hby d7_24) rfl rfl ?_
    show Steps p.tables e below (T23.setTop (mkF m 25 #[.val (.ref a1), .val .null] [(.ref a1)])) _
    refine XS.lconst X23.here hx rfl (hb hby d7_25) ?_
    show Steps p.tables e below (T23.setTop (mkF m 26 #[.val (.ref a1), .val .null] [(.long (0 : Int64)), (.ref a1)])) _
    refine st24 _ ?_
    show Steps p.tables e below (T24.setTop (mkF m 29 #[.val (.ref a1), .val .null] [])) _
    refine XS.aloadN X24.here hx rfl (hb hby d7_29) rfl rfl ?_
    show Steps p.tables e below (T24.setTop (mkF m 30 #[.val (.ref a1), .val .null] [(.ref a1)])) _
    refine XS.iconst X24.here hx rfl (hb hby d7_30) ?_
    show Steps p.tables e below (T24.setTop (mkF m 31 #[.val (.ref a1), .val .null] [(.int (0 : Int32)), (.ref a1)])) _
    refine st25 _ ?_
    show Steps p.tables e below (T25.setTop (mkF m 34 #[.val (.ref a1), .val .null] [])) _
    refine XS.aloadN X25.here hx rfl (hb hby d7_34) rfl rfl ?_
    show Steps p.tables e below (T25.setTop (mkF m 35 #[.val (.ref a1), .val .null] [(.ref a1)])) _
    refine XS.lconst X25.here hx rfl (hb hby d7_35) ?_
    show Steps p.tables e below (T25.setTop (mkF m 36 #[.val (.ref a1), .val .null] [(.long (0 : Int64)), (.ref a1)])) _
    refine st26 _ ?_
    show Steps p.tables e below (T26.setTop (mkF m 39 #[.val (.ref a1), .val .null] [])) _
    refine XS.aloadN X26.here hx rfl (hb hby d7_39) rfl rfl ?_
    show Steps p.tables e below (T26.setTop (mkF m 40 #[.val (.ref a1), .val .null] [(.ref a1)])) _
    refine XS.lconst X26.here hx rfl (hb hby d7_40) ?_
    show Steps p.tables e below (T26.setTop (mkF m 41 #[.val (.ref a1), .val .null] [(.long (0 : Int64)), (.ref a1)])) _
    refine st27 _ ?_
    show Steps p.tables e below (T27.setTop (mkF m 44 #[.val (.ref a1), .val .null] [])) _
    refine XS.aloadN X27.here hx rfl (hb hby d7_44) rfl rfl ?_
    show Steps p.tables e below (T27.setTop (mkF m 45 #[.val (.ref a1), .val .null] [(.ref a1)])) _
    refine XS.lconst X27.here hx rfl (hb hby d7_45) ?_
    show Steps p.tables e below (T27.setTop (mkF m 46 #[.val (.ref a1), .val .null] [(.long (0 : Int64)), (.ref a1)])) _
    refine st28 _ ?_
    show Steps p.tables e below (T28.setTop (mkF m 49 #[.val (.ref a1), .val .null] [])) _
    refine XS.aloadN X28.here hx rfl (hb hby d7_49) rfl rfl ?_
    show Steps p.tables e below (T28.setTop (mkF m 50 #[.val (.ref a1), .val .null] [(.ref a1)])) _
    refine XS.aloadN X28.here hx rfl (hb hby d7_50) rfl rfl ?_
    show Steps p.tables e below (T28.setTop (mkF m 51 #[.val (.ref a1), .val .null] [.null, (.ref a1)])) _
    refine st29 _ ?_
    show Steps p.tables e below (T29.setTop (mkF m 54 #[.val (.ref a1), .val .null] [])) _
    exact X29.returnOut hx Bd.returns (hb hby d7_54) hr
  · show Q7 Z a1 h0 n0 _ T29.heap _
    rw [e29]
    exact ⟨rfl, N29, K29, S29⟩
theorem d6_0 : decode prog_46_method_1_code 0 = .ok (.aload_n 0, 1) := by decide +kernel
theorem d6_1 : decode prog_46_method_1_code 1 = .ok (.aconst_null, 1) := by decide +kernel
theorem d6_2 : decode prog_46_method_1_code 2 = .ok (.invokespecial 1, 3) := by decide +kernel
theorem d6_5 : decode prog_46_method_1_code 5 = .ok (.return_, 1) := by decide +kernel
theorem pn_6 : plainName "dev/shiftwise/stats/Statistics" = true := by first | (simp [plainName, overriddenIn]; done) | decide +kernel
theorem ef_6 (m : MethodId) (a1 : Addr) : entryFrame m #[(.ref a1)] 1 = (mkF m 0 #[.val (.ref a1)] []) := by first | (simp [entryFrame, mkF, argsToLocals, Value.category]; done) | rfl
def Q6 (Z : State) (a1 : Addr)  (h0 : Heap) (n0 : Nat) (v : Option Value) (h : Heap) (L : List Loc) : Prop := v = none ∧ Fr n0 L ∧ Keep h0 h [a1] ∧ own_st Z h a1 .null 1 0
set_option maxRecDepth 65536 in
set_option maxHeartbeats 40000000 in
theorem rm6 (l : Launch) (Z : State) (a0 : Array Value) (hw : ∀ d ∈ tables_1, d.before a0 Z = true) (ws : List Jvm.Cond) (a1 : Addr)  (h0 : Heap) (n0 : Nat) (Z0 : n0 ≤ h0.size) (S1 : own_st Z h0 a1 .null 0 0) (g1 : n0 ≤ a1) :
    MetFree l (⟨"dev/shiftwise/stats/Statistics", "<init>", "()V"⟩ : MethodName) (head1 (Jvm.Cond.code (⟨"dev/shiftwise/stats/Statistics", "<init>", "()V"⟩ : MethodName) prog_46_method_1_code 1 none :: ws) ({ frames := 2, cells := 0, slots := 0, locals := 25 } : Room)) (fun a U => a = #[(.ref a1)] ∧ Z.Warmed39 U.vm ∧ U.heap = h0) (fun _ _ _ _ _ => True) (fun _ U o U' => ∃ v L, o = .returned v ∧ Q6 Z a1  h0 n0 v U'.heap L ∧ FrameEnd U o U' L ({ frames := 2, cells := 0, slots := 0, locals := 25 } : Room).cells ({ frames := 2, cells := 0, slots := 0, locals := 25 } : Room).slots) := by
  refine MetFree.of_bodySF (plainFor_of_name pn_6) hisR ?_
  intro p e s m args below meth c s₁ Bd hml0 hP hK
  obtain ⟨rfl, hZ, hh⟩ := hP
  have hx := Bd.exec
  have hby := Bd.bytes
  have hml : c.maxLocals = 1 := hml0
  have hown : s.vm.findClass "dev/shiftwise/stats/Statistics" = some m.cls := findClass_of_methodNamed Bd.named
  have hnm := (name_of_methodNamed Bd.named Bd.method).1
  have X0 : Stand p l e ({ frames := 2, cells := 0, slots := 0, locals := 25 } : Room) s m #[(.ref a1)] below meth c s₁ [] 0 0 := Stand.of_body Bd
  have e0 : s₁.heap = h0 := by rw [← hh, Bd.state]; rfl
  have N0 := Fr.nil n0
  have pre0 : ∀ t, Steps p.tables e below (s₁.setTop (mkF m 0 #[.val (.ref a1)] [])) t → Steps p.tables e below (s₁.setTop (entryFrame m #[(.ref a1)] 1)) t := fun t k => castTop (ef_6 m a1) k
  obtain ⟨_, _, ⟨T3, L3, k3, n3⟩, -, X3, ⟨Lc3, hQ3, l3, y3, z3⟩, st3⟩ := X0.specialBack hx (y := (⟨"dev/shiftwise/stats/Statistics", "<init>", "(Ldev/shiftwise/stats/Trace;)V"⟩ : MethodName)) rfl hown (mvT hZ (hw _ (List.mem_of_getElem? (i := 32) rfl))) (mvT hZ (hw _ (List.mem_of_getElem? (i := 33) rfl))) (mvT hZ (hw _ (List.mem_of_getElem? (i := 34) rfl))) (by decide) (backOf (W := 0) (rm7 l Z a0 hw [] a1 h0 n0 Z0 S1 g1) hZ (hw _ (List.mem_of_getElem? (i := 34) rfl)) (hw _ (List.mem_of_getElem? (i := 28) rfl)) (by decide) (by decide)) (g := (mkF m 2 #[.val (.ref a1)] [.null, (.ref a1)])) rfl (by rw [hml]; rfl) (Steps.refl _) (a := a1) (argsL := [.null]) (rest := []) (lenOf pd_oLdevshiftwisestatsTracecV rfl) rfl (by show 2 * 0 + _ ≤ _; exact Nat.le_of_eq rfl) (hb hby d6_2) (fun _ _ => ⟨rfl, e0, (by decide : 0 + 0 ≤ _), (by decide : 0 + 0 ≤ _)⟩)
  dsimp only [Pt.U, Pt.locs, Pt.cells, Pt.slots] at X3 l3 y3 z3 st3 hQ3
  subst l3 y3 z3
  obtain ⟨rfl, N3q, K3, S3⟩ := hQ3
  have N3 := Fr.app N0 N3q
  obtain ⟨fs, hr, hrun, hended, hW, hsame⟩ := X3.leave (v := none) (fun _ => rfl)
  refine ⟨_, _, pre0 _ ?_, hrun, hended, _, _, rfl, ?_, ⟨_, rfl⟩, hW, hsame.mono (by decide) (by decide)⟩
  · show Steps p.tables e below (s₁.setTop (mkF m 0 #[.val (.ref a1)] [])) _
    show Steps p.tables e below (s₁.setTop (mkF m 0 #[.val (.ref a1)] [])) _
    refine XS.aloadN X0.here hx rfl (hb hby d6_0) rfl rfl ?_
    show Steps p.tables e below (s₁.setTop (mkF m 1 #[.val (.ref a1)] [(.ref a1)])) _
    refine XS.aconstNull X0.here hx rfl (hb hby d6_1) ?_
    show Steps p.tables e below (s₁.setTop (mkF m 2 #[.val (.ref a1)] [.null, (.ref a1)])) _
    refine st3.trans ?_
    show Steps p.tables e below (T3.setTop (mkF m 5 #[.val (.ref a1)] [])) _
    exact X3.returnOut hx Bd.returns (hb hby d6_5) hr
  · exact ⟨rfl, N3, K3, S3⟩
theorem d8_0 : decode prog_46_method_5_code 0 = .ok (.aload_n 0, 1) := by decide +kernel
theorem d8_1 : decode prog_46_method_5_code 1 = .ok (.dup, 1) := by decide +kernel
theorem d8_2 : decode prog_46_method_5_code 2 = .ok (.getfield 34, 3) := by decide +kernel
theorem d8_5 : decode prog_46_method_5_code 5 = .ok (.lconst 1, 1) := by decide +kernel
theorem d8_6 : decode prog_46_method_5_code 6 = .ok (.ladd, 1) := by decide +kernel
theorem d8_7 : decode prog_46_method_5_code 7 = .ok (.putfield 34, 3) := by decide +kernel
theorem d8_10 : decode prog_46_method_5_code 10 = .ok (.aload_n 0, 1) := by decide +kernel
theorem d8_11 : decode prog_46_method_5_code 11 = .ok (.dup, 1) := by decide +kernel
theorem d8_12 : decode prog_46_method_5_code 12 = .ok (.getfield 37, 3) := by decide +kernel
theorem d8_15 : decode prog_46_method_5_code 15 = .ok (.iload_n 3, 1) := by decide +kernel
theorem d8_16 : decode prog_46_method_5_code 16 = .ok (.i2l, 1) := by decide +kernel
theorem d8_17 : decode prog_46_method_5_code 17 = .ok (.ladd, 1) := by decide +kernel
theorem d8_18 : decode prog_46_method_5_code 18 = .ok (.putfield 37, 3) := by decide +kernel
theorem d8_21 : decode prog_46_method_5_code 21 = .ok (.aload_n 0, 1) := by decide +kernel
theorem d8_22 : decode prog_46_method_5_code 22 = .ok (.getfield 43, 3) := by decide +kernel
theorem d8_25 : decode prog_46_method_5_code 25 = .ok (.ifnull 19, 3) := by decide +kernel
theorem d8_44 : decode prog_46_method_5_code 44 = .ok (.return_, 1) := by decide +kernel
theorem pn_8 : plainName "dev/shiftwise/stats/Statistics" = true := by first | (simp [plainName, overriddenIn]; done) | decide +kernel
theorem ef_8 (m : MethodId) (a1 : Addr) (q1 : Int64) (p1 : Int32) : entryFrame m #[(.ref a1), (.long q1), (.int p1)] 4 = (mkF m 0 #[.val (.ref a1), .val (.long q1), .second, .val (.int p1)] []) := by first | (simp [entryFrame, mkF, argsToLocals, Value.category]; done) | rfl
def Q8 (Z : State) (a1 : Addr) (q1 : Int64) (p1 : Int32) (sb : Value) (cn : Int32) (wi : Int64) (h0 : Heap) (n0 : Nat) (v : Option Value) (h : Heap) (L : List Loc) : Prop := v = none ∧ Fr n0 L ∧ Keep h0 h [a1] ∧ own_st Z h a1 sb cn (wi + 1)
set_option maxRecDepth 65536 in
set_option maxHeartbeats 40000000 in
theorem rm8 (l : Launch) (Z : State) (a0 : Array Value) (hw : ∀ d ∈ tables_1, d.before a0 Z = true) (ws : List Jvm.Cond) (a1 : Addr) (q1 : Int64) (p1 : Int32) (sb : Value) (cn : Int32) (wi : Int64) (h0 : Heap) (n0 : Nat) (Z0 : n0 ≤ h0.size) (S1 : own_st Z h0 a1 sb cn wi) (g1 : n0 ≤ a1) :
    MetFree l (⟨"dev/shiftwise/stats/Statistics", "window", "(JI)V"⟩ : MethodName) (head1 (Jvm.Cond.code (⟨"dev/shiftwise/stats/Statistics", "window", "(JI)V"⟩ : MethodName) prog_46_method_5_code 4 none :: ws) ({ frames := 0, cells := 0, slots := 0, locals := 0 } : Room)) (fun a U => a = #[(.ref a1), (.long q1), (.int p1)] ∧ Z.Warmed39 U.vm ∧ U.heap = h0) (fun _ _ _ _ _ => True) (fun _ U o U' => ∃ v L, o = .returned v ∧ Q8 Z a1 q1 p1 sb cn wi h0 n0 v U'.heap L ∧ FrameEnd U o U' L ({ frames := 0, cells := 0, slots := 0, locals := 0 } : Room).cells ({ frames := 0, cells := 0, slots := 0, locals := 0 } : Room).slots) := by
  refine MetFree.of_bodySF (plainFor_of_name pn_8) hisR ?_
  intro p e s m args below meth c s₁ Bd hml0 hP hK
  obtain ⟨rfl, hZ, hh⟩ := hP
  have hx := Bd.exec
  have hby := Bd.bytes
  have hml : c.maxLocals = 4 := hml0
  have hown : s.vm.findClass "dev/shiftwise/stats/Statistics" = some m.cls := findClass_of_methodNamed Bd.named
  have hnm := (name_of_methodNamed Bd.named Bd.method).1
  have X0 : Stand p l e ({ frames := 0, cells := 0, slots := 0, locals := 0 } : Room) s m #[(.ref a1), (.long q1), (.int p1)] below meth c s₁ [] 0 0 := Stand.of_body Bd
  have e0 : s₁.heap = h0 := by rw [← hh, Bd.state]; rfl
  have N0 := Fr.nil n0
  have pre0 : ∀ t, Steps p.tables e below (s₁.setTop (mkF m 0 #[.val (.ref a1), .val (.long q1), .second, .val (.int p1)] [])) t → Steps p.tables e below (s₁.setTop (entryFrame m #[(.ref a1), (.long q1), (.int p1)] 4)) t := fun t k => castTop (ef_8 m a1 q1 p1) k
  obtain ⟨E20, ⟨v20_0, F20_0⟩, F20_1, F20_2, ⟨v20_3, F20_3⟩, ⟨v20_4, F20_4⟩, ⟨v20_5, F20_5⟩, F20_6, ⟨v20_7, F20_7⟩, ⟨v20_8, F20_8⟩, F20_9⟩ := id S1
  obtain ⟨T20, X20, e20, st20⟩ := getF X0 hx hZ hown (host := "") (Or.inl (hw _ (List.mem_of_getElem? (i := 48) rfl))) Via.refl e0 F20_6 (g := (mkF m 2 #[.val (.ref a1), .val (.long q1), .second, .val (.int p1)] [(.ref a1), (.ref a1)])) rfl rfl (hb hby d8_2)
  obtain ⟨E21, ⟨v21_0, F21_0⟩, F21_1, F21_2, ⟨v21_3, F21_3⟩, ⟨v21_4, F21_4⟩, ⟨v21_5, F21_5⟩, F21_6, ⟨v21_7, F21_7⟩, ⟨v21_8, F21_8⟩, F21_9⟩ := id S1
  obtain ⟨T21, h21, X21, e21, W21, st21⟩ := putF X20 hx hZ hown (host := "") (Or.inl (hw _ (List.mem_of_getElem? (i := 48) rfl))) Via.refl e20 F21_6 E21 (Or.inl (hw _ (List.mem_of_getElem? (i := 49) rfl))) (hw _ (List.mem_of_getElem? (i := 27) rfl)) (ty := .long) (by decide) rfl rfl (g := (mkF m 7 #[.val (.ref a1), .val (.long q1), .second, .val (.int p1)] [(.long (wi + (1 : Int64))), (.ref a1)])) rfl rfl (hb hby d8_7)
  have S21 := own_w_windows hw S1 W21
  have N21 := Fr.snoc X21 N0 g1
  have K21 : Keep h0 h21 [a1] := (Keep.refl h0 [a1]).wr W21 (Or.inl (List.mem_of_getElem? (i := 0) rfl))
  obtain ⟨E22, ⟨v22_0, F22_0⟩, F22_1, F22_2, ⟨v22_3, F22_3⟩, ⟨v22_4, F22_4⟩, ⟨v22_5, F22_5⟩, F22_6, ⟨v22_7, F22_7⟩, ⟨v22_8, F22_8⟩, F22_9⟩ := id S21
  obtain ⟨T22, X22, e22, st22⟩ := getF X21 hx hZ hown (host := "") (Or.inl (hw _ (List.mem_of_getElem? (i := 50) rfl))) Via.refl e21 F22_7 (g := (mkF m 12 #[.val (.ref a1), .val (.long q1), .second, .val (.int p1)] [(.ref a1), (.ref a1)])) rfl rfl (hb hby d8_12)
  obtain ⟨E23, ⟨v23_0, F23_0⟩, F23_1, F23_2, ⟨v23_3, F23_3⟩, ⟨v23_4, F23_4⟩, ⟨v23_5, F23_5⟩, F23_6, ⟨v23_7, F23_7⟩, ⟨v23_8, F23_8⟩, F23_9⟩ := id S21
  obtain ⟨T23, h23, X23, e23, W23, st23⟩ := putF X22 hx hZ hown (host := "") (Or.inl (hw _ (List.mem_of_getElem? (i := 50) rfl))) Via.refl e22 F23_7 E23 (Or.inl (hw _ (List.mem_of_getElem? (i := 51) rfl))) (hw _ (List.mem_of_getElem? (i := 27) rfl)) (ty := .long) (by decide) rfl rfl (g := (mkF m 18 #[.val (.ref a1), .val (.long q1), .second, .val (.int p1)] [(.long (v22_7 + (p1.toInt64))), (.ref a1)])) rfl rfl (hb hby d8_18)
  have S23 := own_w_comparisons hw S21 W23
  have N23 := Fr.snoc X23 N21 g1
  have K23 : Keep h0 h23 [a1] := K21.wr W23 (Or.inl (List.mem_of_getElem? (i := 0) rfl))
  obtain ⟨E24, ⟨v24_0, F24_0⟩, F24_1, F24_2, ⟨v24_3, F24_3⟩, ⟨v24_4, F24_4⟩, ⟨v24_5, F24_5⟩, F24_6, ⟨v24_7, F24_7⟩, ⟨v24_8, F24_8⟩, F24_9⟩ := id S23
  obtain ⟨T24, X24, e24, st24⟩ := getF X23 hx hZ hown (host := "") (Or.inl (hw _ (List.mem_of_getElem? (i := 54) rfl))) Via.refl e23 F24_9 (g := (mkF m 22 #[.val (.ref a1), .val (.long q1), .second, .val (.int p1)] [(.ref a1)])) rfl rfl (hb hby d8_22)
  obtain ⟨fs, hr, hrun, hended, hW, hsame⟩ := X24.leave (v := none) (fun _ => rfl)
  refine ⟨_, _, pre0 _ ?_, hrun, hended, _, _, rfl, ?_, ⟨_, rfl⟩, hW, hsame.mono (by decide) (by decide)⟩
  · show Steps p.tables e below (s₁.setTop (mkF m 0 #[.val (.ref a1), .val (.long q1), .second, .val (.int p1)] [])) _
    show Steps p.tables e below (s₁.setTop (mkF m 0 #[.val (.ref a1), .val (.long q1), .second, .val (.int p1)] [])) _
    refine XS.aloadN X0.here hx rfl (hb hby d8_0) rfl rfl ?_
    show Steps p.tables e below (s₁.setTop (mkF m 1 #[.val (.ref a1), .val (.long q1), .second, .val (.int p1)] [(.ref a1)])) _
    refine XS.dup X0.here hx rfl (hb hby d8_1) rfl rfl ?_
    show Steps p.tables e below (s₁.setTop (mkF m 2 #[.val (.ref a1), .val (.long q1), .second, .val (.int p1)] [(.ref a1), (.ref a1)])) _
    refine st20 _ ?_
    show Steps p.tables e below (T20.setTop (mkF m 5 #[.val (.ref a1), .val (.long q1), .second, .val (.int p1)] [(.long wi), (.ref a1)])) _
    refine XS.lconst X20.here hx rfl (hb hby d8_5) ?_
    show Steps p.tables e below (T20.setTop (mkF m 6 #[.val (.ref a1), .val (.long q1), .second, .val (.int p1)] [(.long (1 : Int64)), (.long wi), (.ref a1)])) _
    refine XS.ladd X20.here hx rfl (hb hby d8_6) rfl ?_
    show Steps p.tables e below (T20.setTop (mkF m 7 #[.val (.ref a1), .val (.long q1), .second, .val (.int p1)] [(.long (wi + (1 : Int64))), (.ref a1)])) _
    refine st21 _ ?_
    show Steps p.tables e below (T21.setTop (mkF m 10 #[.val (.ref a1), .val (.long q1), .second, .val (.int p1)] [])) _
    refine XS.aloadN X21.here hx rfl (hb hby d8_10) rfl rfl ?_
    show Steps p.tables e below (T21.setTop (mkF m 11 #[.val (.ref a1), .val (.long q1), .second, .val (.int p1)] [(.ref a1)])) _
    refine XS.dup X21.here hx rfl (hb hby d8_11) rfl rfl ?_
    show Steps p.tables e below (T21.setTop (mkF m 12 #[.val (.ref a1), .val (.long q1), .second, .val (.int p1)] [(.ref a1), (.ref a1)])) _
    refine st22 _ ?_
    show Steps p.tables e below (T22.setTop (mkF m 15 #[.val (.ref a1), .val (.long q1), .second, .val (.int p1)] [(.long v22_7), (.ref a1)])) _
    refine XS.iloadN X22.here hx rfl (hb hby d8_15) rfl ?_
    show Steps p.tables e below (T22.setTop (mkF m 16 #[.val (.ref a1), .val (.long q1), .second, .val (.int p1)] [(.int p1), (.long v22_7), (.ref a1)])) _
    refine XS.i2l X22.here hx rfl (hb hby d8_16) rfl ?_
    show Steps p.tables e below (T22.setTop (mkF m 17 #[.val (.ref a1), .val (.long q1), .second, .val (.int p1)] [(.long (p1.toInt64)), (.long v22_7), (.ref a1)])) _
    refine XS.ladd X22.here hx rfl (hb hby d8_17) rfl ?_
    show Steps p.tables e below (T22.setTop (mkF m 18 #[.val (.ref a1), .val (.long q1), .second, .val (.int p1)] [(.long (v22_7 + (p1.toInt64))), (.ref a1)])) _
    refine st23 _ ?_
    show Steps p.tables e below (T23.setTop (mkF m 21 #[.val (.ref a1), .val (.long q1), .second, .val (.int p1)] [])) _
    refine XS.aloadN X23.here hx rfl (hb hby d8_21) rfl rfl ?_
    show Steps p.tables e below (T23.setTop (mkF m 22 #[.val (.ref a1), .val (.long q1), .second, .val (.int p1)] [(.ref a1)])) _
    refine st24 _ ?_
    show Steps p.tables e below (T24.setTop (mkF m 25 #[.val (.ref a1), .val (.long q1), .second, .val (.int p1)] [.null])) _
    refine XS.ifnullYes X24.here hx rfl (pc0 := 25) (pc' := 44) rfl (hb hby d8_25) rfl (by decide) (by decide) ?_
    show Steps p.tables e below (T24.setTop (mkF m 44 #[.val (.ref a1), .val (.long q1), .second, .val (.int p1)] [])) _
    exact X24.returnOut hx Bd.returns (hb hby d8_44) hr
  · show Q8 Z a1 q1 p1 sb cn wi h0 n0 _ T24.heap _
    rw [e24]
    exact ⟨rfl, N23, K23, S23⟩
theorem d9_0 : decode prog_46_method_9_code 0 = .ok (.aload_n 0, 1) := by decide +kernel
theorem d9_1 : decode prog_46_method_9_code 1 = .ok (.getfield 19, 3) := by decide +kernel
theorem d9_4 : decode prog_46_method_9_code 4 = .ok (.ifCond .eq 10, 3) := by decide +kernel
theorem d9_7 : decode prog_46_method_9_code 7 = .ok (.aload_n 0, 1) := by decide +kernel
theorem d9_8 : decode prog_46_method_9_code 8 = .ok (.getfield 34, 3) := by decide +kernel
theorem d9_11 : decode prog_46_method_9_code 11 = .ok (.goto 6, 3) := by decide +kernel
theorem d9_14 : decode prog_46_method_9_code 14 = .ok (.ldc2_w 61, 3) := by decide +kernel
theorem d9_17 : decode prog_46_method_9_code 17 = .ok (.lreturn, 1) := by decide +kernel
theorem pn_9 : plainName "dev/shiftwise/stats/Statistics" = true := by first | (simp [plainName, overriddenIn]; done) | decide +kernel
theorem ef_9 (m : MethodId) (a1 : Addr) : entryFrame m #[(.ref a1)] 1 = (mkF m 0 #[.val (.ref a1)] []) := by first | (simp [entryFrame, mkF, argsToLocals, Value.category]; done) | rfl
def Q9 (Z : State) (a1 : Addr) (sb : Value) (cn : Int32) (wi : Int64) (h0 : Heap) (n0 : Nat) (v : Option Value) (h : Heap) (L : List Loc) : Prop := v = some (.long (own_ans cn wi)) ∧ Fr n0 L ∧ h = h0
set_option maxRecDepth 65536 in
set_option maxHeartbeats 40000000 in
theorem rm9 (l : Launch) (Z : State) (a0 : Array Value) (hw : ∀ d ∈ tables_1, d.before a0 Z = true) (ws : List Jvm.Cond) (a1 : Addr) (sb : Value) (cn : Int32) (wi : Int64) (h0 : Heap) (n0 : Nat) (Z0 : n0 ≤ h0.size) (S1 : own_st Z h0 a1 sb cn wi) (g1 : n0 ≤ a1) :
    MetFree l (⟨"dev/shiftwise/stats/Statistics", "windows", "()J"⟩ : MethodName) (head1 (Jvm.Cond.code (⟨"dev/shiftwise/stats/Statistics", "windows", "()J"⟩ : MethodName) prog_46_method_9_code 1 (some .long) :: ws) ({ frames := 0, cells := 0, slots := 0, locals := 0 } : Room)) (fun a U => a = #[(.ref a1)] ∧ Z.Warmed39 U.vm ∧ U.heap = h0) (fun _ _ _ _ _ => True) (fun _ U o U' => ∃ v L, o = .returned v ∧ Q9 Z a1 sb cn wi h0 n0 v U'.heap L ∧ FrameEnd U o U' L ({ frames := 0, cells := 0, slots := 0, locals := 0 } : Room).cells ({ frames := 0, cells := 0, slots := 0, locals := 0 } : Room).slots) := by
  refine MetFree.of_bodySF (plainFor_of_name pn_9) hisR ?_
  intro p e s m args below meth c s₁ Bd hml0 hP hK
  obtain ⟨rfl, hZ, hh⟩ := hP
  have hx := Bd.exec
  have hby := Bd.bytes
  have hml : c.maxLocals = 1 := hml0
  have hown : s.vm.findClass "dev/shiftwise/stats/Statistics" = some m.cls := findClass_of_methodNamed Bd.named
  have hnm := (name_of_methodNamed Bd.named Bd.method).1
  have X0 : Stand p l e ({ frames := 0, cells := 0, slots := 0, locals := 0 } : Room) s m #[(.ref a1)] below meth c s₁ [] 0 0 := Stand.of_body Bd
  have e0 : s₁.heap = h0 := by rw [← hh, Bd.state]; rfl
  have N0 := Fr.nil n0
  have pre0 : ∀ t, Steps p.tables e below (s₁.setTop (mkF m 0 #[.val (.ref a1)] [])) t → Steps p.tables e below (s₁.setTop (entryFrame m #[(.ref a1)] 1)) t := fun t k => castTop (ef_9 m a1) k
  obtain ⟨E20, ⟨v20_0, F20_0⟩, F20_1, F20_2, ⟨v20_3, F20_3⟩, ⟨v20_4, F20_4⟩, ⟨v20_5, F20_5⟩, F20_6, ⟨v20_7, F20_7⟩, ⟨v20_8, F20_8⟩, F20_9⟩ := id S1
  obtain ⟨T20, X20, e20, st20⟩ := getF X0 hx hZ hown (host := "") (Or.inl (hw _ (List.mem_of_getElem? (i := 40) rfl))) Via.refl e0 F20_2 (g := (mkF m 1 #[.val (.ref a1)] [(.ref a1)])) rfl rfl (hb hby d9_1)
  by_cases hc : cn = 0
  · obtain ⟨fs, hr, hrun, hended, hW, hsame⟩ := X20.leave (v := some (.long (own_ans cn wi))) (fun h => by rw [Bd.returns] at h; cases h)
    refine ⟨_, _, pre0 _ ?_, hrun, hended, _, _, rfl, ?_, ⟨_, rfl⟩, hW, hsame.mono (by decide) (by decide)⟩
    · rw [show own_ans cn wi = -1 from if_pos hc] at hr
      show Steps p.tables e below (s₁.setTop (mkF m 0 #[.val (.ref a1)] [])) _
      show Steps p.tables e below (s₁.setTop (mkF m 0 #[.val (.ref a1)] [])) _
      refine XS.aloadN X0.here hx rfl (hb hby d9_0) rfl rfl ?_
      show Steps p.tables e below (s₁.setTop (mkF m 1 #[.val (.ref a1)] [(.ref a1)])) _
      refine st20 _ ?_
      show Steps p.tables e below (T20.setTop (mkF m 4 #[.val (.ref a1)] [(.int cn)])) _
      refine XS.ifYes X20.here hx rfl (pc0 := 4) (pc' := 14) rfl (hb hby d9_4) rfl ((if0 _ _).trans (teq hc).1) (by decide) (by decide) ?_
      show Steps p.tables e below (T20.setTop (mkF m 14 #[.val (.ref a1)] [])) _
      refine X20.ldc2J hx hown (mvT hZ (hw _ (List.mem_of_getElem? (i := 77) rfl))) (g := (mkF m 14 #[.val (.ref a1)] [])) rfl (hb hby d9_14) ?_
      show Steps p.tables e below (T20.setTop (mkF m 17 #[.val (.ref a1)] [(.long (-1 : Int64))])) _
      exact X20.lreturnOut hx Bd.returns (hb hby d9_17) hr
    · show Q9 Z a1 sb cn wi h0 n0 _ T20.heap _
      rw [e20]
      exact ⟨rfl, N0, rfl⟩
  · obtain ⟨E30, ⟨v30_0, F30_0⟩, F30_1, F30_2, ⟨v30_3, F30_3⟩, ⟨v30_4, F30_4⟩, ⟨v30_5, F30_5⟩, F30_6, ⟨v30_7, F30_7⟩, ⟨v30_8, F30_8⟩, F30_9⟩ := id S1
    obtain ⟨T30, X30, e30, st30⟩ := getF X20 hx hZ hown (host := "") (Or.inl (hw _ (List.mem_of_getElem? (i := 48) rfl))) Via.refl e20 F30_6 (g := (mkF m 8 #[.val (.ref a1)] [(.ref a1)])) rfl rfl (hb hby d9_8)
    obtain ⟨fs, hr, hrun, hended, hW, hsame⟩ := X30.leave (v := some (.long (own_ans cn wi))) (fun h => by rw [Bd.returns] at h; cases h)
    refine ⟨_, _, pre0 _ ?_, hrun, hended, _, _, rfl, ?_, ⟨_, rfl⟩, hW, hsame.mono (by decide) (by decide)⟩
    · rw [show own_ans cn wi = wi from if_neg hc] at hr
      show Steps p.tables e below (s₁.setTop (mkF m 0 #[.val (.ref a1)] [])) _
      show Steps p.tables e below (s₁.setTop (mkF m 0 #[.val (.ref a1)] [])) _
      refine XS.aloadN X0.here hx rfl (hb hby d9_0) rfl rfl ?_
      show Steps p.tables e below (s₁.setTop (mkF m 1 #[.val (.ref a1)] [(.ref a1)])) _
      refine st20 _ ?_
      show Steps p.tables e below (T20.setTop (mkF m 4 #[.val (.ref a1)] [(.int cn)])) _
      refine XS.ifNo X20.here hx rfl (hb hby d9_4) rfl ((if0 _ _).trans (feq hc).1) ?_
      show Steps p.tables e below (T20.setTop (mkF m 7 #[.val (.ref a1)] [])) _
      refine XS.aloadN X20.here hx rfl (hb hby d9_7) rfl rfl ?_
      show Steps p.tables e below (T20.setTop (mkF m 8 #[.val (.ref a1)] [(.ref a1)])) _
      refine st30 _ ?_
      show Steps p.tables e below (T30.setTop (mkF m 11 #[.val (.ref a1)] [(.long wi)])) _
      refine XS.goto X30.here hx rfl (pc0 := 11) (pc' := 17) rfl (hb hby d9_11) (by decide) (by decide) ?_
      show Steps p.tables e below (T30.setTop (mkF m 17 #[.val (.ref a1)] [(.long wi)])) _
      exact X30.lreturnOut hx Bd.returns (hb hby d9_17) hr
    · show Q9 Z a1 sb cn wi h0 n0 _ T30.heap _
      rw [e30]
      exact ⟨rfl, N0, rfl⟩
theorem d11_0 : decode prog_46_method_6_code 0 = .ok (.aload_n 0, 1) := by decide +kernel
theorem d11_1 : decode prog_46_method_6_code 1 = .ok (.aload_n 0, 1) := by decide +kernel
theorem d11_2 : decode prog_46_method_6_code 2 = .ok (.getfield 16, 3) := by decide +kernel
theorem d11_5 : decode prog_46_method_6_code 5 = .ok (.ifnull 16, 3) := by decide +kernel
theorem d11_21 : decode prog_46_method_6_code 21 = .ok (.aload_n 1, 1) := by decide +kernel
theorem d11_22 : decode prog_46_method_6_code 22 = .ok (.putfield 16, 3) := by decide +kernel
theorem d11_25 : decode prog_46_method_6_code 25 = .ok (.return_, 1) := by decide +kernel
theorem pn_11 : plainName "dev/shiftwise/stats/Statistics" = true := by first | (simp [plainName, overriddenIn]; done) | decide +kernel
theorem ef_11 (m : MethodId) (a1 : Addr) (r1 : Addr) : entryFrame m #[(.ref a1), (.ref r1)] 2 = (mkF m 0 #[.val (.ref a1), .val (.ref r1)] []) := by first | (simp [entryFrame, mkF, argsToLocals, Value.category]; done) | rfl
def Q11 (Z : State) (a1 : Addr) (r1 : Addr) (sb : Value) (cn : Int32) (wi : Int64) (h0 : Heap) (n0 : Nat) (v : Option Value) (h : Heap) (L : List Loc) : Prop := v = none ∧ Fr n0 L ∧ Keep h0 h [a1] ∧ own_st Z h a1 (.ref r1) cn wi
set_option maxRecDepth 65536 in
set_option maxHeartbeats 40000000 in
theorem rm11 (l : Launch) (Z : State) (a0 : Array Value) (hw : ∀ d ∈ tables_1, d.before a0 Z = true) (ws : List Jvm.Cond) (a1 : Addr) (r1 : Addr) (sb : Value) (cn : Int32) (wi : Int64) (h0 : Heap) (n0 : Nat) (Z0 : n0 ≤ h0.size) (S1 : own_st Z h0 a1 sb cn wi) (g1 : n0 ≤ a1) (hs : sb = .null) :
    MetFree l (⟨"dev/shiftwise/stats/Statistics", "searchBy", "(Ljava/lang/String;)V"⟩ : MethodName) (head1 (Jvm.Cond.code (⟨"dev/shiftwise/stats/Statistics", "searchBy", "(Ljava/lang/String;)V"⟩ : MethodName) prog_46_method_6_code 2 none :: ws) ({ frames := 0, cells := 0, slots := 0, locals := 0 } : Room)) (fun a U => a = #[(.ref a1), (.ref r1)] ∧ Z.Warmed39 U.vm ∧ U.heap = h0) (fun _ _ _ _ _ => True) (fun _ U o U' => ∃ v L, o = .returned v ∧ Q11 Z a1 r1 sb cn wi h0 n0 v U'.heap L ∧ FrameEnd U o U' L ({ frames := 0, cells := 0, slots := 0, locals := 0 } : Room).cells ({ frames := 0, cells := 0, slots := 0, locals := 0 } : Room).slots) := by
  refine MetFree.of_bodySF (plainFor_of_name pn_11) hisR ?_
  intro p e s m args below meth c s₁ Bd hml0 hP hK
  obtain ⟨rfl, hZ, hh⟩ := hP
  have hx := Bd.exec
  have hby := Bd.bytes
  have hml : c.maxLocals = 2 := hml0
  have hown : s.vm.findClass "dev/shiftwise/stats/Statistics" = some m.cls := findClass_of_methodNamed Bd.named
  have hnm := (name_of_methodNamed Bd.named Bd.method).1
  have X0 : Stand p l e ({ frames := 0, cells := 0, slots := 0, locals := 0 } : Room) s m #[(.ref a1), (.ref r1)] below meth c s₁ [] 0 0 := Stand.of_body Bd
  have e0 : s₁.heap = h0 := by rw [← hh, Bd.state]; rfl
  have N0 := Fr.nil n0
  have pre0 : ∀ t, Steps p.tables e below (s₁.setTop (mkF m 0 #[.val (.ref a1), .val (.ref r1)] [])) t → Steps p.tables e below (s₁.setTop (entryFrame m #[(.ref a1), (.ref r1)] 2)) t := fun t k => castTop (ef_11 m a1 r1) k
  subst hs
  obtain ⟨E20, ⟨v20_0, F20_0⟩, F20_1, F20_2, ⟨v20_3, F20_3⟩, ⟨v20_4, F20_4⟩, ⟨v20_5, F20_5⟩, F20_6, ⟨v20_7, F20_7⟩, ⟨v20_8, F20_8⟩, F20_9⟩ := id S1
  obtain ⟨T20, X20, e20, st20⟩ := getF X0 hx hZ hown (host := "") (Or.inl (hw _ (List.mem_of_getElem? (i := 38) rfl))) Via.refl e0 F20_1 (g := (mkF m 2 #[.val (.ref a1), .val (.ref r1)] [(.ref a1), (.ref a1)])) rfl rfl (hb hby d11_2)
  obtain ⟨E21, ⟨v21_0, F21_0⟩, F21_1, F21_2, ⟨v21_3, F21_3⟩, ⟨v21_4, F21_4⟩, ⟨v21_5, F21_5⟩, F21_6, ⟨v21_7, F21_7⟩, ⟨v21_8, F21_8⟩, F21_9⟩ := id S1
  obtain ⟨T21, h21, X21, e21, W21, st21⟩ := putF X20 hx hZ hown (host := "") (Or.inl (hw _ (List.mem_of_getElem? (i := 38) rfl))) Via.refl e20 F21_1 E21 (Or.inl (hw _ (List.mem_of_getElem? (i := 39) rfl))) (hw _ (List.mem_of_getElem? (i := 27) rfl)) (ty := (.object "java/lang/String")) (by decide) rfl rfl (g := (mkF m 22 #[.val (.ref a1), .val (.ref r1)] [(.ref r1), (.ref a1)])) rfl rfl (hb hby d11_22)
  have S21 := own_w_searchedBy hw S1 W21
  have N21 := Fr.snoc X21 N0 g1
  have K21 : Keep h0 h21 [a1] := (Keep.refl h0 [a1]).wr W21 (Or.inl (List.mem_of_getElem? (i := 0) rfl))
  obtain ⟨fs, hr, hrun, hended, hW, hsame⟩ := X21.leave (v := none) (fun _ => rfl)
  refine ⟨_, _, pre0 _ ?_, hrun, hended, _, _, rfl, ?_, ⟨_, rfl⟩, hW, hsame.mono (by decide) (by decide)⟩
  · show Steps p.tables e below (s₁.setTop (mkF m 0 #[.val (.ref a1), .val (.ref r1)] [])) _
    show Steps p.tables e below (s₁.setTop (mkF m 0 #[.val (.ref a1), .val (.ref r1)] [])) _
    refine XS.aloadN X0.here hx rfl (hb hby d11_0) rfl rfl ?_
    show Steps p.tables e below (s₁.setTop (mkF m 1 #[.val (.ref a1), .val (.ref r1)] [(.ref a1)])) _
    refine XS.aloadN X0.here hx rfl (hb hby d11_1) rfl rfl ?_
    show Steps p.tables e below (s₁.setTop (mkF m 2 #[.val (.ref a1), .val (.ref r1)] [(.ref a1), (.ref a1)])) _
    refine st20 _ ?_
    show Steps p.tables e below (T20.setTop (mkF m 5 #[.val (.ref a1), .val (.ref r1)] [.null, (.ref a1)])) _
    refine XS.ifnullYes X20.here hx rfl (pc0 := 5) (pc' := 21) rfl (hb hby d11_5) rfl (by decide) (by decide) ?_
    show Steps p.tables e below (T20.setTop (mkF m 21 #[.val (.ref a1), .val (.ref r1)] [(.ref a1)])) _
    refine XS.aloadN X20.here hx rfl (hb hby d11_21) rfl rfl ?_
    show Steps p.tables e below (T20.setTop (mkF m 22 #[.val (.ref a1), .val (.ref r1)] [(.ref r1), (.ref a1)])) _
    refine st21 _ ?_
    show Steps p.tables e below (T21.setTop (mkF m 25 #[.val (.ref a1), .val (.ref r1)] [])) _
    exact X21.returnOut hx Bd.returns (hb hby d11_25) hr
  · show Q11 Z a1 r1 .null cn wi h0 n0 _ T21.heap _
    rw [e21]
    exact ⟨rfl, N21, K21, S21⟩
theorem d10_0 : decode prog_46_method_7_code 0 = .ok (.aload_n 0, 1) := by decide +kernel
theorem d10_1 : decode prog_46_method_7_code 1 = .ok (.aload_n 1, 1) := by decide +kernel
theorem d10_2 : decode prog_46_method_7_code 2 = .ok (.invokevirtual 57, 3) := by decide +kernel
theorem d10_5 : decode prog_46_method_7_code 5 = .ok (.aload_n 0, 1) := by decide +kernel
theorem d10_6 : decode prog_46_method_7_code 6 = .ok (.iconst 0, 1) := by decide +kernel
theorem d10_7 : decode prog_46_method_7_code 7 = .ok (.putfield 19, 3) := by decide +kernel
theorem d10_10 : decode prog_46_method_7_code 10 = .ok (.return_, 1) := by decide +kernel
theorem pn_10 : plainName "dev/shiftwise/stats/Statistics" = true := by first | (simp [plainName, overriddenIn]; done) | decide +kernel
theorem ef_10 (m : MethodId) (a1 : Addr) (r1 : Addr) : entryFrame m #[(.ref a1), (.ref r1)] 2 = (mkF m 0 #[.val (.ref a1), .val (.ref r1)] []) := by first | (simp [entryFrame, mkF, argsToLocals, Value.category]; done) | rfl
def Q10 (Z : State) (a1 : Addr) (r1 : Addr) (sb : Value) (cn : Int32) (wi : Int64) (h0 : Heap) (n0 : Nat) (v : Option Value) (h : Heap) (L : List Loc) : Prop := v = none ∧ Fr n0 L ∧ Keep h0 h [a1] ∧ own_st Z h a1 (.ref r1) 0 wi
set_option maxRecDepth 65536 in
set_option maxHeartbeats 40000000 in
theorem rm10 (l : Launch) (Z : State) (a0 : Array Value) (hw : ∀ d ∈ tables_1, d.before a0 Z = true) (ws : List Jvm.Cond) (a1 : Addr) (r1 : Addr) (sb : Value) (cn : Int32) (wi : Int64) (h0 : Heap) (n0 : Nat) (Z0 : n0 ≤ h0.size) (S1 : own_st Z h0 a1 sb cn wi) (g1 : n0 ≤ a1) (hs : sb = .null) :
    MetFree l (⟨"dev/shiftwise/stats/Statistics", "searchUncountedBy", "(Ljava/lang/String;)V"⟩ : MethodName) (head1 (Jvm.Cond.code (⟨"dev/shiftwise/stats/Statistics", "searchUncountedBy", "(Ljava/lang/String;)V"⟩ : MethodName) prog_46_method_7_code 2 none :: ws) ({ frames := 1, cells := 0, slots := 0, locals := 13 } : Room)) (fun a U => a = #[(.ref a1), (.ref r1)] ∧ Z.Warmed39 U.vm ∧ U.heap = h0) (fun _ _ _ _ _ => True) (fun _ U o U' => ∃ v L, o = .returned v ∧ Q10 Z a1 r1 sb cn wi h0 n0 v U'.heap L ∧ FrameEnd U o U' L ({ frames := 1, cells := 0, slots := 0, locals := 13 } : Room).cells ({ frames := 1, cells := 0, slots := 0, locals := 13 } : Room).slots) := by
  refine MetFree.of_bodySF (plainFor_of_name pn_10) hisR ?_
  intro p e s m args below meth c s₁ Bd hml0 hP hK
  obtain ⟨rfl, hZ, hh⟩ := hP
  have hx := Bd.exec
  have hby := Bd.bytes
  have hml : c.maxLocals = 2 := hml0
  have hown : s.vm.findClass "dev/shiftwise/stats/Statistics" = some m.cls := findClass_of_methodNamed Bd.named
  have hnm := (name_of_methodNamed Bd.named Bd.method).1
  have X0 : Stand p l e ({ frames := 1, cells := 0, slots := 0, locals := 13 } : Room) s m #[(.ref a1), (.ref r1)] below meth c s₁ [] 0 0 := Stand.of_body Bd
  have e0 : s₁.heap = h0 := by rw [← hh, Bd.state]; rfl
  have N0 := Fr.nil n0
  have pre0 : ∀ t, Steps p.tables e below (s₁.setTop (mkF m 0 #[.val (.ref a1), .val (.ref r1)] [])) t → Steps p.tables e below (s₁.setTop (entryFrame m #[(.ref a1), (.ref r1)] 2)) t := fun t k => castTop (ef_10 m a1 r1) k
  obtain ⟨cq3, kq3, q3a, q3b, q3c⟩ := isOf hZ e0 S1.1
  obtain ⟨_, _, ⟨T3, L3, k3, n3⟩, -, X3, ⟨Lc3, hQ3, l3, y3, z3⟩, st3⟩ := X0.virtualBack hx (y := (⟨"dev/shiftwise/stats/Statistics", "searchBy", "(Ljava/lang/String;)V"⟩ : MethodName)) (z := (⟨"dev/shiftwise/stats/Statistics", "searchBy", "(Ljava/lang/String;)V"⟩ : MethodName)) hown (mvT hZ (hw _ (List.mem_of_getElem? (i := 72) rfl))) (mvT hZ (hw _ (List.mem_of_getElem? (i := 73) rfl))) (notFace_of_selects (args := #[]) (mvT hZ (hw _ (List.mem_of_getElem? (i := 75) rfl)))) (mvT hZ (hw _ (List.mem_of_getElem? (i := 75) rfl))) (mvT hZ (hw _ (List.mem_of_getElem? (i := 74) rfl))) (by decide) (backOf (W := 0) (rm11 l Z a0 hw [] a1 r1 sb cn wi h0 n0 Z0 S1 g1 hs) hZ (hw _ (List.mem_of_getElem? (i := 76) rfl)) (hw _ (List.mem_of_getElem? (i := 28) rfl)) (by decide) (by decide)) q3a q3c (g := (mkF m 2 #[.val (.ref a1), .val (.ref r1)] [(.ref r1), (.ref a1)])) rfl (by rw [hml]; rfl) (Steps.refl _) (argsL := [(.ref r1)]) (rest := []) (lenOf pd_oLjavalangStringcV rfl) rfl (by show 2 * 0 + _ ≤ _; exact Nat.le_of_eq rfl) (hb hby d10_2) (fun _ _ => ⟨rfl, e0, (by decide : 0 + 0 ≤ _), (by decide : 0 + 0 ≤ _)⟩)
  dsimp only [Pt.U, Pt.locs, Pt.cells, Pt.slots] at X3 l3 y3 z3 st3 hQ3
  subst l3 y3 z3
  obtain ⟨rfl, N3q, K3, S3⟩ := hQ3
  have N3 := Fr.app N0 N3q
  obtain ⟨E20, ⟨v20_0, F20_0⟩, F20_1, F20_2, ⟨v20_3, F20_3⟩, ⟨v20_4, F20_4⟩, ⟨v20_5, F20_5⟩, F20_6, ⟨v20_7, F20_7⟩, ⟨v20_8, F20_8⟩, F20_9⟩ := id S3
  obtain ⟨T20, h20, X20, e20, W20, st20⟩ := putFN X3 hx hZ hown (hw _ (List.mem_of_getElem? (i := 40) rfl)) Via.refl rfl F20_2 E20 (Or.inl (hw _ (List.mem_of_getElem? (i := 41) rfl))) (hw _ (List.mem_of_getElem? (i := 27) rfl)) (ty := .boolean) (v' := (.int 0)) (by decide) rfl (by decide) (g := (mkF m 7 #[.val (.ref a1), .val (.ref r1)] [(.int (0 : Int32)), (.ref a1)])) rfl rfl (hb hby d10_7)
  have S20 := own_w_counted hw S3 W20
  have N20 := Fr.snoc X20 N3 g1
  have K20 : Keep h0 h20 [a1] := K3.wr W20 (Or.inl (List.mem_of_getElem? (i := 0) rfl))
  obtain ⟨fs, hr, hrun, hended, hW, hsame⟩ := X20.leave (v := none) (fun _ => rfl)
  refine ⟨_, _, pre0 _ ?_, hrun, hended, _, _, rfl, ?_, ⟨_, rfl⟩, hW, hsame.mono (by decide) (by decide)⟩
  · show Steps p.tables e below (s₁.setTop (mkF m 0 #[.val (.ref a1), .val (.ref r1)] [])) _
    show Steps p.tables e below (s₁.setTop (mkF m 0 #[.val (.ref a1), .val (.ref r1)] [])) _
    refine XS.aloadN X0.here hx rfl (hb hby d10_0) rfl rfl ?_
    show Steps p.tables e below (s₁.setTop (mkF m 1 #[.val (.ref a1), .val (.ref r1)] [(.ref a1)])) _
    refine XS.aloadN X0.here hx rfl (hb hby d10_1) rfl rfl ?_
    show Steps p.tables e below (s₁.setTop (mkF m 2 #[.val (.ref a1), .val (.ref r1)] [(.ref r1), (.ref a1)])) _
    refine st3.trans ?_
    show Steps p.tables e below (T3.setTop (mkF m 5 #[.val (.ref a1), .val (.ref r1)] [])) _
    refine XS.aloadN X3.here hx rfl (hb hby d10_5) rfl rfl ?_
    show Steps p.tables e below (T3.setTop (mkF m 6 #[.val (.ref a1), .val (.ref r1)] [(.ref a1)])) _
    refine XS.iconst X3.here hx rfl (hb hby d10_6) ?_
    show Steps p.tables e below (T3.setTop (mkF m 7 #[.val (.ref a1), .val (.ref r1)] [(.int (0 : Int32)), (.ref a1)])) _
    refine st20 _ ?_
    show Steps p.tables e below (T20.setTop (mkF m 10 #[.val (.ref a1), .val (.ref r1)] [])) _
    exact X20.returnOut hx Bd.returns (hb hby d10_10) hr
  · show Q10 Z a1 r1 sb cn wi h0 n0 _ T20.heap _
    rw [e20]
    exact ⟨rfl, N20, K20, S20⟩
theorem d12_0 : decode prog_46_method_4_code 0 = .ok (.aload_n 0, 1) := by decide +kernel
theorem d12_1 : decode prog_46_method_4_code 1 = .ok (.lload_n 1, 1) := by decide +kernel
theorem d12_2 : decode prog_46_method_4_code 2 = .ok (.putfield 27, 3) := by decide +kernel
theorem d12_5 : decode prog_46_method_4_code 5 = .ok (.aload_n 0, 1) := by decide +kernel
theorem d12_6 : decode prog_46_method_4_code 6 = .ok (.lload_n 1, 1) := by decide +kernel
theorem d12_7 : decode prog_46_method_4_code 7 = .ok (.iload_n 3, 1) := by decide +kernel
theorem d12_8 : decode prog_46_method_4_code 8 = .ok (.i2l, 1) := by decide +kernel
theorem d12_9 : decode prog_46_method_4_code 9 = .ok (.ladd, 1) := by decide +kernel
theorem d12_10 : decode prog_46_method_4_code 10 = .ok (.putfield 23, 3) := by decide +kernel
theorem d12_13 : decode prog_46_method_4_code 13 = .ok (.return_, 1) := by decide +kernel
theorem pn_12 : plainName "dev/shiftwise/stats/Statistics" = true := by first | (simp [plainName, overriddenIn]; done) | decide +kernel
theorem ef_12 (m : MethodId) (a1 : Addr) (q1 : Int64) (p1 : Int32) : entryFrame m #[(.ref a1), (.long q1), (.int p1)] 4 = (mkF m 0 #[.val (.ref a1), .val (.long q1), .second, .val (.int p1)] []) := by first | (simp [entryFrame, mkF, argsToLocals, Value.category]; done) | rfl
def Q12 (Z : State) (a1 : Addr) (q1 : Int64) (p1 : Int32) (sb : Value) (cn : Int32) (wi : Int64) (h0 : Heap) (n0 : Nat) (v : Option Value) (h : Heap) (L : List Loc) : Prop := v = none ∧ Fr n0 L ∧ Keep h0 h [a1] ∧ own_st Z h a1 sb cn wi
set_option maxRecDepth 65536 in
set_option maxHeartbeats 40000000 in
theorem rm12 (l : Launch) (Z : State) (a0 : Array Value) (hw : ∀ d ∈ tables_1, d.before a0 Z = true) (ws : List Jvm.Cond) (a1 : Addr) (q1 : Int64) (p1 : Int32) (sb : Value) (cn : Int32) (wi : Int64) (h0 : Heap) (n0 : Nat) (Z0 : n0 ≤ h0.size) (S1 : own_st Z h0 a1 sb cn wi) (g1 : n0 ≤ a1) :
    MetFree l (⟨"dev/shiftwise/stats/Statistics", "part", "(JI)V"⟩ : MethodName) (head1 (Jvm.Cond.code (⟨"dev/shiftwise/stats/Statistics", "part", "(JI)V"⟩ : MethodName) prog_46_method_4_code 4 none :: ws) ({ frames := 0, cells := 0, slots := 0, locals := 0 } : Room)) (fun a U => a = #[(.ref a1), (.long q1), (.int p1)] ∧ Z.Warmed39 U.vm ∧ U.heap = h0) (fun _ _ _ _ _ => True) (fun _ U o U' => ∃ v L, o = .returned v ∧ Q12 Z a1 q1 p1 sb cn wi h0 n0 v U'.heap L ∧ FrameEnd U o U' L ({ frames := 0, cells := 0, slots := 0, locals := 0 } : Room).cells ({ frames := 0, cells := 0, slots := 0, locals := 0 } : Room).slots) := by
  refine MetFree.of_bodySF (plainFor_of_name pn_12) hisR ?_
  intro p e s m args below meth c s₁ Bd hml0 hP hK
  obtain ⟨rfl, hZ, hh⟩ := hP
  have hx := Bd.exec
  have hby := Bd.bytes
  have hml : c.maxLocals = 4 := hml0
  have hown : s.vm.findClass "dev/shiftwise/stats/Statistics" = some m.cls := findClass_of_methodNamed Bd.named
  have hnm := (name_of_methodNamed Bd.named Bd.method).1
  have X0 : Stand p l e ({ frames := 0, cells := 0, slots := 0, locals := 0 } : Room) s m #[(.ref a1), (.long q1), (.int p1)] below meth c s₁ [] 0 0 := Stand.of_body Bd
  have e0 : s₁.heap = h0 := by rw [← hh, Bd.state]; rfl
  have N0 := Fr.nil n0
  have pre0 : ∀ t, Steps p.tables e below (s₁.setTop (mkF m 0 #[.val (.ref a1), .val (.long q1), .second, .val (.int p1)] [])) t → Steps p.tables e below (s₁.setTop (entryFrame m #[(.ref a1), (.long q1), (.int p1)] 4)) t := fun t k => castTop (ef_12 m a1 q1 p1) k
  obtain ⟨E20, ⟨v20_0, F20_0⟩, F20_1, F20_2, ⟨v20_3, F20_3⟩, ⟨v20_4, F20_4⟩, ⟨v20_5, F20_5⟩, F20_6, ⟨v20_7, F20_7⟩, ⟨v20_8, F20_8⟩, F20_9⟩ := id S1
  obtain ⟨T20, h20, X20, e20, W20, st20⟩ := putF X0 hx hZ hown (host := "") (Or.inl (hw _ (List.mem_of_getElem? (i := 44) rfl))) Via.refl e0 F20_4 E20 (Or.inl (hw _ (List.mem_of_getElem? (i := 45) rfl))) (hw _ (List.mem_of_getElem? (i := 27) rfl)) (ty := .long) (by decide) rfl rfl (g := (mkF m 2 #[.val (.ref a1), .val (.long q1), .second, .val (.int p1)] [(.long q1), (.ref a1)])) rfl rfl (hb hby d12_2)
  have S20 := own_w_origin hw S1 W20
  have N20 := Fr.snoc X20 N0 g1
  have K20 : Keep h0 h20 [a1] := (Keep.refl h0 [a1]).wr W20 (Or.inl (List.mem_of_getElem? (i := 0) rfl))
  obtain ⟨E21, ⟨v21_0, F21_0⟩, F21_1, F21_2, ⟨v21_3, F21_3⟩, ⟨v21_4, F21_4⟩, ⟨v21_5, F21_5⟩, F21_6, ⟨v21_7, F21_7⟩, ⟨v21_8, F21_8⟩, F21_9⟩ := id S20
  obtain ⟨T21, h21, X21, e21, W21, st21⟩ := putF X20 hx hZ hown (host := "") (Or.inl (hw _ (List.mem_of_getElem? (i := 42) rfl))) Via.refl e20 F21_3 E21 (Or.inl (hw _ (List.mem_of_getElem? (i := 43) rfl))) (hw _ (List.mem_of_getElem? (i := 27) rfl)) (ty := .long) (by decide) rfl rfl (g := (mkF m 10 #[.val (.ref a1), .val (.long q1), .second, .val (.int p1)] [(.long (q1 + (p1.toInt64))), (.ref a1)])) rfl rfl (hb hby d12_10)
  have S21 := own_w_text hw S20 W21
  have N21 := Fr.snoc X21 N20 g1
  have K21 : Keep h0 h21 [a1] := K20.wr W21 (Or.inl (List.mem_of_getElem? (i := 0) rfl))
  obtain ⟨fs, hr, hrun, hended, hW, hsame⟩ := X21.leave (v := none) (fun _ => rfl)
  refine ⟨_, _, pre0 _ ?_, hrun, hended, _, _, rfl, ?_, ⟨_, rfl⟩, hW, hsame.mono (by decide) (by decide)⟩
  · show Steps p.tables e below (s₁.setTop (mkF m 0 #[.val (.ref a1), .val (.long q1), .second, .val (.int p1)] [])) _
    show Steps p.tables e below (s₁.setTop (mkF m 0 #[.val (.ref a1), .val (.long q1), .second, .val (.int p1)] [])) _
    refine XS.aloadN X0.here hx rfl (hb hby d12_0) rfl rfl ?_
    show Steps p.tables e below (s₁.setTop (mkF m 1 #[.val (.ref a1), .val (.long q1), .second, .val (.int p1)] [(.ref a1)])) _
    refine XS.lloadN X0.here hx rfl (hb hby d12_1) rfl ?_
    show Steps p.tables e below (s₁.setTop (mkF m 2 #[.val (.ref a1), .val (.long q1), .second, .val (.int p1)] [(.long q1), (.ref a1)])) _
    refine st20 _ ?_
    show Steps p.tables e below (T20.setTop (mkF m 5 #[.val (.ref a1), .val (.long q1), .second, .val (.int p1)] [])) _
    refine XS.aloadN X20.here hx rfl (hb hby d12_5) rfl rfl ?_
    show Steps p.tables e below (T20.setTop (mkF m 6 #[.val (.ref a1), .val (.long q1), .second, .val (.int p1)] [(.ref a1)])) _
    refine XS.lloadN X20.here hx rfl (hb hby d12_6) rfl ?_
    show Steps p.tables e below (T20.setTop (mkF m 7 #[.val (.ref a1), .val (.long q1), .second, .val (.int p1)] [(.long q1), (.ref a1)])) _
    refine XS.iloadN X20.here hx rfl (hb hby d12_7) rfl ?_
    show Steps p.tables e below (T20.setTop (mkF m 8 #[.val (.ref a1), .val (.long q1), .second, .val (.int p1)] [(.int p1), (.long q1), (.ref a1)])) _
    refine XS.i2l X20.here hx rfl (hb hby d12_8) rfl ?_
    show Steps p.tables e below (T20.setTop (mkF m 9 #[.val (.ref a1), .val (.long q1), .second, .val (.int p1)] [(.long (p1.toInt64)), (.long q1), (.ref a1)])) _
    refine XS.ladd X20.here hx rfl (hb hby d12_9) rfl ?_
    show Steps p.tables e below (T20.setTop (mkF m 10 #[.val (.ref a1), .val (.long q1), .second, .val (.int p1)] [(.long (q1 + (p1.toInt64))), (.ref a1)])) _
    refine st21 _ ?_
    show Steps p.tables e below (T21.setTop (mkF m 13 #[.val (.ref a1), .val (.long q1), .second, .val (.int p1)] [])) _
    exact X21.returnOut hx Bd.returns (hb hby d12_13) hr
  · show Q12 Z a1 q1 p1 sb cn wi h0 n0 _ T21.heap _
    rw [e21]
    exact ⟨rfl, N21, K21, S21⟩
theorem d13_0 : decode prog_46_method_3_code 0 = .ok (.aload_n 0, 1) := by decide +kernel
theorem d13_1 : decode prog_46_method_3_code 1 = .ok (.aload_n 1, 1) := by decide +kernel
theorem d13_2 : decode prog_46_method_3_code 2 = .ok (.putfield 12, 3) := by decide +kernel
theorem d13_5 : decode prog_46_method_3_code 5 = .ok (.aload_n 0, 1) := by decide +kernel
theorem d13_6 : decode prog_46_method_3_code 6 = .ok (.aconst_null, 1) := by decide +kernel
theorem d13_7 : decode prog_46_method_3_code 7 = .ok (.putfield 16, 3) := by decide +kernel
theorem d13_10 : decode prog_46_method_3_code 10 = .ok (.aload_n 0, 1) := by decide +kernel
theorem d13_11 : decode prog_46_method_3_code 11 = .ok (.iconst 1, 1) := by decide +kernel
theorem d13_12 : decode prog_46_method_3_code 12 = .ok (.putfield 19, 3) := by decide +kernel
theorem d13_15 : decode prog_46_method_3_code 15 = .ok (.aload_n 0, 1) := by decide +kernel
theorem d13_16 : decode prog_46_method_3_code 16 = .ok (.lload_n 2, 1) := by decide +kernel
theorem d13_17 : decode prog_46_method_3_code 17 = .ok (.putfield 23, 3) := by decide +kernel
theorem d13_20 : decode prog_46_method_3_code 20 = .ok (.aload_n 0, 1) := by decide +kernel
theorem d13_21 : decode prog_46_method_3_code 21 = .ok (.lconst 0, 1) := by decide +kernel
theorem d13_22 : decode prog_46_method_3_code 22 = .ok (.putfield 27, 3) := by decide +kernel
theorem d13_25 : decode prog_46_method_3_code 25 = .ok (.aload_n 0, 1) := by decide +kernel
theorem d13_26 : decode prog_46_method_3_code 26 = .ok (.iload 4, 2) := by decide +kernel
theorem d13_28 : decode prog_46_method_3_code 28 = .ok (.putfield 30, 3) := by decide +kernel
theorem d13_31 : decode prog_46_method_3_code 31 = .ok (.aload_n 0, 1) := by decide +kernel
theorem d13_32 : decode prog_46_method_3_code 32 = .ok (.lconst 0, 1) := by decide +kernel
theorem d13_33 : decode prog_46_method_3_code 33 = .ok (.putfield 34, 3) := by decide +kernel
theorem d13_36 : decode prog_46_method_3_code 36 = .ok (.aload_n 0, 1) := by decide +kernel
theorem d13_37 : decode prog_46_method_3_code 37 = .ok (.lconst 0, 1) := by decide +kernel
theorem d13_38 : decode prog_46_method_3_code 38 = .ok (.putfield 37, 3) := by decide +kernel
theorem d13_41 : decode prog_46_method_3_code 41 = .ok (.aload_n 0, 1) := by decide +kernel
theorem d13_42 : decode prog_46_method_3_code 42 = .ok (.lconst 0, 1) := by decide +kernel
theorem d13_43 : decode prog_46_method_3_code 43 = .ok (.putfield 40, 3) := by decide +kernel
theorem d13_46 : decode prog_46_method_3_code 46 = .ok (.return_, 1) := by decide +kernel
theorem pn_13 : plainName "dev/shiftwise/stats/Statistics" = true := by first | (simp [plainName, overriddenIn]; done) | decide +kernel
theorem ef_13 (m : MethodId) (a1 : Addr) (r1 : Addr) (q1 : Int64) (p1 : Int32) : entryFrame m #[(.ref a1), (.ref r1), (.long q1), (.int p1)] 5 = (mkF m 0 #[.val (.ref a1), .val (.ref r1), .val (.long q1), .second, .val (.int p1)] []) := by first | (simp [entryFrame, mkF, argsToLocals, Value.category]; done) | rfl
def Q13 (Z : State) (a1 : Addr) (r1 : Addr) (q1 : Int64) (p1 : Int32) (sb : Value) (cn : Int32) (wi : Int64) (h0 : Heap) (n0 : Nat) (v : Option Value) (h : Heap) (L : List Loc) : Prop := v = none ∧ Fr n0 L ∧ Keep h0 h [a1] ∧ own_st Z h a1 .null 1 0
set_option maxRecDepth 65536 in
set_option maxHeartbeats 40000000 in
theorem rm13 (l : Launch) (Z : State) (a0 : Array Value) (hw : ∀ d ∈ tables_1, d.before a0 Z = true) (ws : List Jvm.Cond) (a1 : Addr) (r1 : Addr) (q1 : Int64) (p1 : Int32) (sb : Value) (cn : Int32) (wi : Int64) (h0 : Heap) (n0 : Nat) (Z0 : n0 ≤ h0.size) (S1 : own_st Z h0 a1 sb cn wi) (g1 : n0 ≤ a1) :
    MetFree l (⟨"dev/shiftwise/stats/Statistics", "begin", "(Ljava/lang/String;JI)V"⟩ : MethodName) (head1 (Jvm.Cond.code (⟨"dev/shiftwise/stats/Statistics", "begin", "(Ljava/lang/String;JI)V"⟩ : MethodName) prog_46_method_3_code 5 none :: ws) ({ frames := 0, cells := 0, slots := 0, locals := 0 } : Room)) (fun a U => a = #[(.ref a1), (.ref r1), (.long q1), (.int p1)] ∧ Z.Warmed39 U.vm ∧ U.heap = h0) (fun _ _ _ _ _ => True) (fun _ U o U' => ∃ v L, o = .returned v ∧ Q13 Z a1 r1 q1 p1 sb cn wi h0 n0 v U'.heap L ∧ FrameEnd U o U' L ({ frames := 0, cells := 0, slots := 0, locals := 0 } : Room).cells ({ frames := 0, cells := 0, slots := 0, locals := 0 } : Room).slots) := by
  refine MetFree.of_bodySF (plainFor_of_name pn_13) hisR ?_
  intro p e s m args below meth c s₁ Bd hml0 hP hK
  obtain ⟨rfl, hZ, hh⟩ := hP
  have hx := Bd.exec
  have hby := Bd.bytes
  have hml : c.maxLocals = 5 := hml0
  have hown : s.vm.findClass "dev/shiftwise/stats/Statistics" = some m.cls := findClass_of_methodNamed Bd.named
  have hnm := (name_of_methodNamed Bd.named Bd.method).1
  have X0 : Stand p l e ({ frames := 0, cells := 0, slots := 0, locals := 0 } : Room) s m #[(.ref a1), (.ref r1), (.long q1), (.int p1)] below meth c s₁ [] 0 0 := Stand.of_body Bd
  have e0 : s₁.heap = h0 := by rw [← hh, Bd.state]; rfl
  have N0 := Fr.nil n0
  have pre0 : ∀ t, Steps p.tables e below (s₁.setTop (mkF m 0 #[.val (.ref a1), .val (.ref r1), .val (.long q1), .second, .val (.int p1)] [])) t → Steps p.tables e below (s₁.setTop (entryFrame m #[(.ref a1), (.ref r1), (.long q1), (.int p1)] 5)) t := fun t k => castTop (ef_13 m a1 r1 q1 p1) k
  obtain ⟨E20, ⟨v20_0, F20_0⟩, F20_1, F20_2, ⟨v20_3, F20_3⟩, ⟨v20_4, F20_4⟩, ⟨v20_5, F20_5⟩, F20_6, ⟨v20_7, F20_7⟩, ⟨v20_8, F20_8⟩, F20_9⟩ := id S1
  obtain ⟨T20, h20, X20, e20, W20, st20⟩ := putF X0 hx hZ hown (host := "") (Or.inl (hw _ (List.mem_of_getElem? (i := 36) rfl))) Via.refl e0 F20_0 E20 (Or.inl (hw _ (List.mem_of_getElem? (i := 37) rfl))) (hw _ (List.mem_of_getElem? (i := 27) rfl)) (ty := (.object "java/lang/String")) (by decide) rfl rfl (g := (mkF m 2 #[.val (.ref a1), .val (.ref r1), .val (.long q1), .second, .val (.int p1)] [(.ref r1), (.ref a1)])) rfl rfl (hb hby d13_2)
  have S20 := own_w_algorithm hw S1 W20
  have N20 := Fr.snoc X20 N0 g1
  have K20 : Keep h0 h20 [a1] := (Keep.refl h0 [a1]).wr W20 (Or.inl (List.mem_of_getElem? (i := 0) rfl))
  obtain ⟨E21, ⟨v21_0, F21_0⟩, F21_1, F21_2, ⟨v21_3, F21_3⟩, ⟨v21_4, F21_4⟩, ⟨v21_5, F21_5⟩, F21_6, ⟨v21_7, F21_7⟩, ⟨v21_8, F21_8⟩, F21_9⟩ := id S20
  obtain ⟨T21, h21, X21, e21, W21, st21⟩ := putF X20 hx hZ hown (host := "") (Or.inl (hw _ (List.mem_of_getElem? (i := 38) rfl))) Via.refl e20 F21_1 E21 (Or.inl (hw _ (List.mem_of_getElem? (i := 39) rfl))) (hw _ (List.mem_of_getElem? (i := 27) rfl)) (ty := (.object "java/lang/String")) (by decide) rfl rfl (g := (mkF m 7 #[.val (.ref a1), .val (.ref r1), .val (.long q1), .second, .val (.int p1)] [.null, (.ref a1)])) rfl rfl (hb hby d13_7)
  have S21 := own_w_searchedBy hw S20 W21
  have N21 := Fr.snoc X21 N20 g1
  have K21 : Keep h0 h21 [a1] := K20.wr W21 (Or.inl (List.mem_of_getElem? (i := 0) rfl))
  obtain ⟨E22, ⟨v22_0, F22_0⟩, F22_1, F22_2, ⟨v22_3, F22_3⟩, ⟨v22_4, F22_4⟩, ⟨v22_5, F22_5⟩, F22_6, ⟨v22_7, F22_7⟩, ⟨v22_8, F22_8⟩, F22_9⟩ := id S21
  obtain ⟨T22, h22, X22, e22, W22, st22⟩ := putFN X21 hx hZ hown (hw _ (List.mem_of_getElem? (i := 40) rfl)) Via.refl e21 F22_2 E22 (Or.inl (hw _ (List.mem_of_getElem? (i := 41) rfl))) (hw _ (List.mem_of_getElem? (i := 27) rfl)) (ty := .boolean) (v' := (.int 1)) (by decide) rfl (by decide) (g := (mkF m 12 #[.val (.ref a1), .val (.ref r1), .val (.long q1), .second, .val (.int p1)] [(.int (1 : Int32)), (.ref a1)])) rfl rfl (hb hby d13_12)
  have S22 := own_w_counted hw S21 W22
  have N22 := Fr.snoc X22 N21 g1
  have K22 : Keep h0 h22 [a1] := K21.wr W22 (Or.inl (List.mem_of_getElem? (i := 0) rfl))
  obtain ⟨E23, ⟨v23_0, F23_0⟩, F23_1, F23_2, ⟨v23_3, F23_3⟩, ⟨v23_4, F23_4⟩, ⟨v23_5, F23_5⟩, F23_6, ⟨v23_7, F23_7⟩, ⟨v23_8, F23_8⟩, F23_9⟩ := id S22
  obtain ⟨T23, h23, X23, e23, W23, st23⟩ := putF X22 hx hZ hown (host := "") (Or.inl (hw _ (List.mem_of_getElem? (i := 42) rfl))) Via.refl e22 F23_3 E23 (Or.inl (hw _ (List.mem_of_getElem? (i := 43) rfl))) (hw _ (List.mem_of_getElem? (i := 27) rfl)) (ty := .long) (by decide) rfl rfl (g := (mkF m 17 #[.val (.ref a1), .val (.ref r1), .val (.long q1), .second, .val (.int p1)] [(.long q1), (.ref a1)])) rfl rfl (hb hby d13_17)
  have S23 := own_w_text hw S22 W23
  have N23 := Fr.snoc X23 N22 g1
  have K23 : Keep h0 h23 [a1] := K22.wr W23 (Or.inl (List.mem_of_getElem? (i := 0) rfl))
  obtain ⟨E24, ⟨v24_0, F24_0⟩, F24_1, F24_2, ⟨v24_3, F24_3⟩, ⟨v24_4, F24_4⟩, ⟨v24_5, F24_5⟩, F24_6, ⟨v24_7, F24_7⟩, ⟨v24_8, F24_8⟩, F24_9⟩ := id S23
  obtain ⟨T24, h24, X24, e24, W24, st24⟩ := putF X23 hx hZ hown (host := "") (Or.inl (hw _ (List.mem_of_getElem? (i := 44) rfl))) Via.refl e23 F24_4 E24 (Or.inl (hw _ (List.mem_of_getElem? (i := 45) rfl))) (hw _ (List.mem_of_getElem? (i := 27) rfl)) (ty := .long) (by decide) rfl rfl (g := (mkF m 22 #[.val (.ref a1), .val (.ref r1), .val (.long q1), .second, .val (.int p1)] [(.long (0 : Int64)), (.ref a1)])) rfl rfl (hb hby d13_22)
  have S24 := own_w_origin hw S23 W24
  have N24 := Fr.snoc X24 N23 g1
  have K24 : Keep h0 h24 [a1] := K23.wr W24 (Or.inl (List.mem_of_getElem? (i := 0) rfl))
  obtain ⟨E25, ⟨v25_0, F25_0⟩, F25_1, F25_2, ⟨v25_3, F25_3⟩, ⟨v25_4, F25_4⟩, ⟨v25_5, F25_5⟩, F25_6, ⟨v25_7, F25_7⟩, ⟨v25_8, F25_8⟩, F25_9⟩ := id S24
  obtain ⟨T25, h25, X25, e25, W25, st25⟩ := putF X24 hx hZ hown (host := "") (Or.inl (hw _ (List.mem_of_getElem? (i := 46) rfl))) Via.refl e24 F25_5 E25 (Or.inl (hw _ (List.mem_of_getElem? (i := 47) rfl))) (hw _ (List.mem_of_getElem? (i := 27) rfl)) (ty := .int) (by decide) rfl rfl (g := (mkF m 28 #[.val (.ref a1), .val (.ref r1), .val (.long q1), .second, .val (.int p1)] [(.int p1), (.ref a1)])) rfl rfl (hb hby d13_28)
  have S25 := own_w_pattern hw S24 W25
  have N25 := Fr.snoc X25 N24 g1
  have K25 : Keep h0 h25 [a1] := K24.wr W25 (Or.inl (List.mem_of_getElem? (i := 0) rfl))
  obtain ⟨E26, ⟨v26_0, F26_0⟩, F26_1, F26_2, ⟨v26_3, F26_3⟩, ⟨v26_4, F26_4⟩, ⟨v26_5, F26_5⟩, F26_6, ⟨v26_7, F26_7⟩, ⟨v26_8, F26_8⟩, F26_9⟩ := id S25
  obtain ⟨T26, h26, X26, e26, W26, st26⟩ := putF X25 hx hZ hown (host := "") (Or.inl (hw _ (List.mem_of_getElem? (i := 48) rfl))) Via.refl e25 F26_6 E26 (Or.inl (hw _ (List.mem_of_getElem? (i := 49) rfl))) (hw _ (List.mem_of_getElem? (i := 27) rfl)) (ty := .long) (by decide) rfl rfl (g := (mkF m 33 #[.val (.ref a1), .val (.ref r1), .val (.long q1), .second, .val (.int p1)] [(.long (0 : Int64)), (.ref a1)])) rfl rfl (hb hby d13_33)
  have S26 := own_w_windows hw S25 W26
  have N26 := Fr.snoc X26 N25 g1
  have K26 : Keep h0 h26 [a1] := K25.wr W26 (Or.inl (List.mem_of_getElem? (i := 0) rfl))
  obtain ⟨E27, ⟨v27_0, F27_0⟩, F27_1, F27_2, ⟨v27_3, F27_3⟩, ⟨v27_4, F27_4⟩, ⟨v27_5, F27_5⟩, F27_6, ⟨v27_7, F27_7⟩, ⟨v27_8, F27_8⟩, F27_9⟩ := id S26
  obtain ⟨T27, h27, X27, e27, W27, st27⟩ := putF X26 hx hZ hown (host := "") (Or.inl (hw _ (List.mem_of_getElem? (i := 50) rfl))) Via.refl e26 F27_7 E27 (Or.inl (hw _ (List.mem_of_getElem? (i := 51) rfl))) (hw _ (List.mem_of_getElem? (i := 27) rfl)) (ty := .long) (by decide) rfl rfl (g := (mkF m 38 #[.val (.ref a1), .val (.ref r1), .val (.long q1), .second, .val (.int p1)] [(.long (0 : Int64)), (.ref a1)])) rfl rfl (hb hby d13_38)
  have S27 := own_w_comparisons hw S26 W27
  have N27 := Fr.snoc X27 N26 g1
  have K27 : Keep h0 h27 [a1] := K26.wr W27 (Or.inl (List.mem_of_getElem? (i := 0) rfl))
  obtain ⟨E28, ⟨v28_0, F28_0⟩, F28_1, F28_2, ⟨v28_3, F28_3⟩, ⟨v28_4, F28_4⟩, ⟨v28_5, F28_5⟩, F28_6, ⟨v28_7, F28_7⟩, ⟨v28_8, F28_8⟩, F28_9⟩ := id S27
  obtain ⟨T28, h28, X28, e28, W28, st28⟩ := putF X27 hx hZ hown (host := "") (Or.inl (hw _ (List.mem_of_getElem? (i := 52) rfl))) Via.refl e27 F28_8 E28 (Or.inl (hw _ (List.mem_of_getElem? (i := 53) rfl))) (hw _ (List.mem_of_getElem? (i := 27) rfl)) (ty := .long) (by decide) rfl rfl (g := (mkF m 43 #[.val (.ref a1), .val (.ref r1), .val (.long q1), .second, .val (.int p1)] [(.long (0 : Int64)), (.ref a1)])) rfl rfl (hb hby d13_43)
  have S28 := own_w_occurrences hw S27 W28
  have N28 := Fr.snoc X28 N27 g1
  have K28 : Keep h0 h28 [a1] := K27.wr W28 (Or.inl (List.mem_of_getElem? (i := 0) rfl))
  obtain ⟨fs, hr, hrun, hended, hW, hsame⟩ := X28.leave (v := none) (fun _ => rfl)
  refine ⟨_, _, pre0 _ ?_, hrun, hended, _, _, rfl, ?_, ⟨_, rfl⟩, hW, hsame.mono (by decide) (by decide)⟩
  · show Steps p.tables e below (s₁.setTop (mkF m 0 #[.val (.ref a1), .val (.ref r1), .val (.long q1), .second, .val (.int p1)] [])) _
    show Steps p.tables e below (s₁.setTop (mkF m 0 #[.val (.ref a1), .val (.ref r1), .val (.long q1), .second, .val (.int p1)] [])) _
    refine XS.aloadN X0.here hx rfl (hb hby d13_0) rfl rfl ?_
    show Steps p.tables e below (s₁.setTop (mkF m 1 #[.val (.ref a1), .val (.ref r1), .val (.long q1), .second, .val (.int p1)] [(.ref a1)])) _
    refine XS.aloadN X0.here hx rfl (hb hby d13_1) rfl rfl ?_
    show Steps p.tables e below (s₁.setTop (mkF m 2 #[.val (.ref a1), .val (.ref r1), .val (.long q1), .second, .val (.int p1)] [(.ref r1), (.ref a1)])) _
    refine st20 _ ?_
    show Steps p.tables e below (T20.setTop (mkF m 5 #[.val (.ref a1), .val (.ref r1), .val (.long q1), .second, .val (.int p1)] [])) _
    refine XS.aloadN X20.here hx rfl (hb hby d13_5) rfl rfl ?_
    show Steps p.tables e below (T20.setTop (mkF m 6 #[.val (.ref a1), .val (.ref r1), .val (.long q1), .second, .val (.int p1)] [(.ref a1)])) _
    refine XS.aconstNull X20.here hx rfl (hb hby d13_6) ?_
    show Steps p.tables e below (T20.setTop (mkF m 7 #[.val (.ref a1), .val (.ref r1), .val (.long q1), .second, .val (.int p1)] [.null, (.ref a1)])) _
    refine st21 _ ?_
    show Steps p.tables e below (T21.setTop (mkF m 10 #[.val (.ref a1), .val (.ref r1), .val (.long q1), .second, .val (.int p1)] [])) _
    refine XS.aloadN X21.here hx rfl (hb hby d13_10) rfl rfl ?_
    show Steps p.tables e below (T21.setTop (mkF m 11 #[.val (.ref a1), .val (.ref r1), .val (.long q1), .second, .val (.int p1)] [(.ref a1)])) _
    refine XS.iconst X21.here hx rfl (hb hby d13_11) ?_
    show Steps p.tables e below (T21.setTop (mkF m 12 #[.val (.ref a1), .val (.ref r1), .val (.long q1), .second, .val (.int p1)] [(.int (1 : Int32)), (.ref a1)])) _
    refine st22 _ ?_
    show Steps p.tables e below (T22.setTop (mkF m 15 #[.val (.ref a1), .val (.ref r1), .val (.long q1), .second, .val (.int p1)] [])) _
    refine XS.aloadN X22.here hx rfl (hb hby d13_15) rfl rfl ?_
    show Steps p.tables e below (T22.setTop (mkF m 16 #[.val (.ref a1), .val (.ref r1), .val (.long q1), .second, .val (.int p1)] [(.ref a1)])) _
    refine XS.lloadN X22.here hx rfl (hb hby d13_16) rfl ?_
    show Steps p.tables e below (T22.setTop (mkF m 17 #[.val (.ref a1), .val (.ref r1), .val (.long q1), .second, .val (.int p1)] [(.long q1), (.ref a1)])) _
    refine st23 _ ?_
    show Steps p.tables e below (T23.setTop (mkF m 20 #[.val (.ref a1), .val (.ref r1), .val (.long q1), .second, .val (.int p1)] [])) _
    refine XS.aloadN X23.here hx rfl (hb hby d13_20) rfl rfl ?_
    show Steps p.tables e below (T23.setTop (mkF m 21 #[.val (.ref a1), .val (.ref r1), .val (.long q1), .second, .val (.int p1)] [(.ref a1)])) _
    refine XS.lconst X23.here hx rfl (hb hby d13_21) ?_
    show Steps p.tables e below (T23.setTop (mkF m 22 #[.val (.ref a1), .val (.ref r1), .val (.long q1), .second, .val (.int p1)] [(.long (0 : Int64)), (.ref a1)])) _
    refine st24 _ ?_
    show Steps p.tables e below (T24.setTop (mkF m 25 #[.val (.ref a1), .val (.ref r1), .val (.long q1), .second, .val (.int p1)] [])) _
    refine XS.aloadN X24.here hx rfl (hb hby d13_25) rfl rfl ?_
    show Steps p.tables e below (T24.setTop (mkF m 26 #[.val (.ref a1), .val (.ref r1), .val (.long q1), .second, .val (.int p1)] [(.ref a1)])) _
    refine XS.iload X24.here hx rfl (hb hby d13_26) rfl ?_
    show Steps p.tables e below (T24.setTop (mkF m 28 #[.val (.ref a1), .val (.ref r1), .val (.long q1), .second, .val (.int p1)] [(.int p1), (.ref a1)])) _
    refine st25 _ ?_
    show Steps p.tables e below (T25.setTop (mkF m 31 #[.val (.ref a1), .val (.ref r1), .val (.long q1), .second, .val (.int p1)] [])) _
    refine XS.aloadN X25.here hx rfl (hb hby d13_31) rfl rfl ?_
    show Steps p.tables e below (T25.setTop (mkF m 32 #[.val (.ref a1), .val (.ref r1), .val (.long q1), .second, .val (.int p1)] [(.ref a1)])) _
    refine XS.lconst X25.here hx rfl (hb hby d13_32) ?_
    show Steps p.tables e below (T25.setTop (mkF m 33 #[.val (.ref a1), .val (.ref r1), .val (.long q1), .second, .val (.int p1)] [(.long (0 : Int64)), (.ref a1)])) _
    refine st26 _ ?_
    show Steps p.tables e below (T26.setTop (mkF m 36 #[.val (.ref a1), .val (.ref r1), .val (.long q1), .second, .val (.int p1)] [])) _
    refine XS.aloadN X26.here hx rfl (hb hby d13_36) rfl rfl ?_
    show Steps p.tables e below (T26.setTop (mkF m 37 #[.val (.ref a1), .val (.ref r1), .val (.long q1), .second, .val (.int p1)] [(.ref a1)])) _
    refine XS.lconst X26.here hx rfl (hb hby d13_37) ?_
    show Steps p.tables e below (T26.setTop (mkF m 38 #[.val (.ref a1), .val (.ref r1), .val (.long q1), .second, .val (.int p1)] [(.long (0 : Int64)), (.ref a1)])) _
    refine st27 _ ?_
    show Steps p.tables e below (T27.setTop (mkF m 41 #[.val (.ref a1), .val (.ref r1), .val (.long q1), .second, .val (.int p1)] [])) _
    refine XS.aloadN X27.here hx rfl (hb hby d13_41) rfl rfl ?_
    show Steps p.tables e below (T27.setTop (mkF m 42 #[.val (.ref a1), .val (.ref r1), .val (.long q1), .second, .val (.int p1)] [(.ref a1)])) _
    refine XS.lconst X27.here hx rfl (hb hby d13_42) ?_
    show Steps p.tables e below (T27.setTop (mkF m 43 #[.val (.ref a1), .val (.ref r1), .val (.long q1), .second, .val (.int p1)] [(.long (0 : Int64)), (.ref a1)])) _
    refine st28 _ ?_
    show Steps p.tables e below (T28.setTop (mkF m 46 #[.val (.ref a1), .val (.ref r1), .val (.long q1), .second, .val (.int p1)] [])) _
    exact X28.returnOut hx Bd.returns (hb hby d13_46) hr
  · show Q13 Z a1 r1 q1 p1 sb cn wi h0 n0 _ T28.heap _
    rw [e28]
    exact ⟨rfl, N28, K28, S28⟩
theorem pn_0 : plainName "dev/shiftwise/stats/StatisticsWindowsPinLaw" = true := by first | (simp [plainName, overriddenIn]; done) | decide +kernel
theorem ef_0 (m : MethodId) (p1 : Int32) (p2 : Int32) (q1 : Int64) (p3 : Int32) (p4 : Int32) : entryFrame m #[(.int p1), (.int p2), (.long q1), (.int p3), (.int p4)] maxLocals = (mkF m 0 #[.val (.int p1), .val (.int p2), .val (.long q1), .second, .val (.int p3), .val (.int p4), .unset, .unset, .unset, .unset, .unset, .unset, .unset, .unset, .unset, .unset, .unset, .unset, .unset, .unset] []) := by first | (simp [entryFrame, mkF, argsToLocals, Value.category, maxLocals]; done) | rfl
def Q0 (Z : State) (p1 : Int32) (p2 : Int32) (q1 : Int64) (p3 : Int32) (p4 : Int32) (G1 : Int32) (h0 : Heap) (n0 : Nat) (v : Option Value) (h : Heap) (L : List Loc) : Prop := v = some (.int 1) ∧ Fr n0 L
set_option maxRecDepth 65536 in
set_option maxHeartbeats 40000000 in
theorem rm0 (l : Launch) (Z : State) (a0 : Array Value) (hw : ∀ d ∈ tables_1, d.before a0 Z = true) (ws : List Jvm.Cond) (p1 : Int32) (p2 : Int32) (q1 : Int64) (p3 : Int32) (p4 : Int32) (G1 : Int32) (h0 : Heap) (n0 : Nat) (Z0 : n0 ≤ h0.size) (S1 : Sta Z h0 "java/lang/String" "COMPACT_STRINGS" "Z" (.int G1)) (hG : ¬ G1 = 0) :
    MetFree l x (head1 (Jvm.Cond.code x code maxLocals ret :: ws) room_1) (fun a U => a = #[(.int p1), (.int p2), (.long q1), (.int p3), (.int p4)] ∧ Z.Warmed39 U.vm ∧ U.heap = h0) (fun _ _ _ _ _ => True) (fun _ U o U' => ∃ v L, o = .returned v ∧ Q0 Z p1 p2 q1 p3 p4 G1 h0 n0 v U'.heap L ∧ FrameEnd U o U' L 3 15) := by
  refine MetFree.of_bodySF (plainFor_of_name pn_0) hisR ?_
  intro p e s m args below meth c s₁ Bd hml0 hP hK
  obtain ⟨rfl, hZ, hh⟩ := hP
  have hx := Bd.exec
  have hby := Bd.bytes
  have hml : c.maxLocals = 20 := hml0
  have hown : s.vm.findClass "dev/shiftwise/stats/StatisticsWindowsPinLaw" = some m.cls := findClass_of_methodNamed Bd.named
  have hnm := (name_of_methodNamed Bd.named Bd.method).1
  have X0 : Stand p l e room_1 s m #[(.int p1), (.int p2), (.long q1), (.int p3), (.int p4)] below meth c s₁ [] 0 0 := Stand.of_body Bd
  have e0 : s₁.heap = h0 := by rw [← hh, Bd.state]; rfl
  have N0 := Fr.nil n0
  have pre0 : ∀ t, Steps p.tables e below (s₁.setTop (mkF m 0 #[.val (.int p1), .val (.int p2), .val (.long q1), .second, .val (.int p3), .val (.int p4), .unset, .unset, .unset, .unset, .unset, .unset, .unset, .unset, .unset, .unset, .unset, .unset, .unset, .unset] [])) t → Steps p.tables e below (s₁.setTop (entryFrame m #[(.int p1), (.int p2), (.long q1), (.int p3), (.int p4)] maxLocals)) t := fun t k => castTop (ef_0 m p1 p2 q1 p3 p4) k
  have sg0 : ∀ t, Steps p.tables e below (s₁.setTop (mkF m 11 #[.val (.int p1), .val (.int p2), .val (.long q1), .second, .val (.int p3), .val (.int p4), .unset, .unset, .unset, .unset, .unset, .unset, .unset, .unset, .unset, .unset, .unset, .unset, .unset, .unset] [(.int (own_b (¬ (p1 &&& (1 : Int32)) = 0)))])) t → Steps p.tables e below (s₁.setTop (mkF m 0 #[.val (.int p1), .val (.int p2), .val (.long q1), .second, .val (.int p3), .val (.int p4), .unset, .unset, .unset, .unset, .unset, .unset, .unset, .unset, .unset, .unset, .unset, .unset, .unset, .unset] [])) t := by
    intro t k
    by_cases hc : (p1 &&& (1 : Int32)) = 0
    · rw [own_bf (P := ¬ (p1 &&& (1 : Int32)) = 0) (fun q => q hc)] at k
      show Steps p.tables e below (s₁.setTop (mkF m 0 #[.val (.int p1), .val (.int p2), .val (.long q1), .second, .val (.int p3), .val (.int p4), .unset, .unset, .unset, .unset, .unset, .unset, .unset, .unset, .unset, .unset, .unset, .unset, .unset, .unset] [])) _
      refine XS.iloadN X0.here hx rfl (hb hby at_0) rfl ?_
      show Steps p.tables e below (s₁.setTop (mkF m 1 #[.val (.int p1), .val (.int p2), .val (.long q1), .second, .val (.int p3), .val (.int p4), .unset, .unset, .unset, .unset, .unset, .unset, .unset, .unset, .unset, .unset, .unset, .unset, .unset, .unset] [(.int p1)])) _
      refine XS.iconst X0.here hx rfl (hb hby at_1) ?_
      show Steps p.tables e below (s₁.setTop (mkF m 2 #[.val (.int p1), .val (.int p2), .val (.long q1), .second, .val (.int p3), .val (.int p4), .unset, .unset, .unset, .unset, .unset, .unset, .unset, .unset, .unset, .unset, .unset, .unset, .unset, .unset] [(.int (1 : Int32)), (.int p1)])) _
      refine XS.iand X0.here hx rfl (hb hby at_2) rfl ?_
      show Steps p.tables e below (s₁.setTop (mkF m 3 #[.val (.int p1), .val (.int p2), .val (.long q1), .second, .val (.int p3), .val (.int p4), .unset, .unset, .unset, .unset, .unset, .unset, .unset, .unset, .unset, .unset, .unset, .unset, .unset, .unset] [(.int (p1 &&& (1 : Int32)))])) _
      refine XS.ifYes X0.here hx rfl (pc0 := 3) (pc' := 10) rfl (hb hby at_3) rfl ((if0 _ _).trans (teq hc).1) (by decide) (by decide) ?_
      show Steps p.tables e below (s₁.setTop (mkF m 10 #[.val (.int p1), .val (.int p2), .val (.long q1), .second, .val (.int p3), .val (.int p4), .unset, .unset, .unset, .unset, .unset, .unset, .unset, .unset, .unset, .unset, .unset, .unset, .unset, .unset] [])) _
      refine XS.iconst X0.here hx rfl (hb hby at_10) ?_
      exact k
    · rw [own_bt (P := ¬ (p1 &&& (1 : Int32)) = 0) hc] at k
      show Steps p.tables e below (s₁.setTop (mkF m 0 #[.val (.int p1), .val (.int p2), .val (.long q1), .second, .val (.int p3), .val (.int p4), .unset, .unset, .unset, .unset, .unset, .unset, .unset, .unset, .unset, .unset, .unset, .unset, .unset, .unset] [])) _
      refine XS.iloadN X0.here hx rfl (hb hby at_0) rfl ?_
      show Steps p.tables e below (s₁.setTop (mkF m 1 #[.val (.int p1), .val (.int p2), .val (.long q1), .second, .val (.int p3), .val (.int p4), .unset, .unset, .unset, .unset, .unset, .unset, .unset, .unset, .unset, .unset, .unset, .unset, .unset, .unset] [(.int p1)])) _
      refine XS.iconst X0.here hx rfl (hb hby at_1) ?_
      show Steps p.tables e below (s₁.setTop (mkF m 2 #[.val (.int p1), .val (.int p2), .val (.long q1), .second, .val (.int p3), .val (.int p4), .unset, .unset, .unset, .unset, .unset, .unset, .unset, .unset, .unset, .unset, .unset, .unset, .unset, .unset] [(.int (1 : Int32)), (.int p1)])) _
      refine XS.iand X0.here hx rfl (hb hby at_2) rfl ?_
      show Steps p.tables e below (s₁.setTop (mkF m 3 #[.val (.int p1), .val (.int p2), .val (.long q1), .second, .val (.int p3), .val (.int p4), .unset, .unset, .unset, .unset, .unset, .unset, .unset, .unset, .unset, .unset, .unset, .unset, .unset, .unset] [(.int (p1 &&& (1 : Int32)))])) _
      refine XS.ifNo X0.here hx rfl (hb hby at_3) rfl ((if0 _ _).trans (feq hc).1) ?_
      show Steps p.tables e below (s₁.setTop (mkF m 6 #[.val (.int p1), .val (.int p2), .val (.long q1), .second, .val (.int p3), .val (.int p4), .unset, .unset, .unset, .unset, .unset, .unset, .unset, .unset, .unset, .unset, .unset, .unset, .unset, .unset] [])) _
      refine XS.iconst X0.here hx rfl (hb hby at_6) ?_
      show Steps p.tables e below (s₁.setTop (mkF m 7 #[.val (.int p1), .val (.int p2), .val (.long q1), .second, .val (.int p3), .val (.int p4), .unset, .unset, .unset, .unset, .unset, .unset, .unset, .unset, .unset, .unset, .unset, .unset, .unset, .unset] [(.int (1 : Int32))])) _
      refine XS.goto X0.here hx rfl (pc0 := 7) (pc' := 11) rfl (hb hby at_7) (by decide) (by decide) ?_
      exact k
  have sg13 : ∀ t, Steps p.tables e below (s₁.setTop (mkF m 24 #[.val (.int p1), .val (.int p2), .val (.long q1), .second, .val (.int p3), .val (.int p4), .val (.int (own_b (¬ (p1 &&& (1 : Int32)) = 0))), .unset, .unset, .unset, .unset, .unset, .unset, .unset, .unset, .unset, .unset, .unset, .unset, .unset] [(.int (own_b (¬ (p1 &&& (2 : Int32)) = 0)))])) t → Steps p.tables e below (s₁.setTop (mkF m 13 #[.val (.int p1), .val (.int p2), .val (.long q1), .second, .val (.int p3), .val (.int p4), .val (.int (own_b (¬ (p1 &&& (1 : Int32)) = 0))), .unset, .unset, .unset, .unset, .unset, .unset, .unset, .unset, .unset, .unset, .unset, .unset, .unset] [])) t := by
    intro t k
    by_cases hc : (p1 &&& (2 : Int32)) = 0
    · rw [own_bf (P := ¬ (p1 &&& (2 : Int32)) = 0) (fun q => q hc)] at k
      show Steps p.tables e below (s₁.setTop (mkF m 13 #[.val (.int p1), .val (.int p2), .val (.long q1), .second, .val (.int p3), .val (.int p4), .val (.int (own_b (¬ (p1 &&& (1 : Int32)) = 0))), .unset, .unset, .unset, .unset, .unset, .unset, .unset, .unset, .unset, .unset, .unset, .unset, .unset] [])) _
      refine XS.iloadN X0.here hx rfl (hb hby at_13) rfl ?_
      show Steps p.tables e below (s₁.setTop (mkF m 14 #[.val (.int p1), .val (.int p2), .val (.long q1), .second, .val (.int p3), .val (.int p4), .val (.int (own_b (¬ (p1 &&& (1 : Int32)) = 0))), .unset, .unset, .unset, .unset, .unset, .unset, .unset, .unset, .unset, .unset, .unset, .unset, .unset] [(.int p1)])) _
      refine XS.iconst X0.here hx rfl (hb hby at_14) ?_
      show Steps p.tables e below (s₁.setTop (mkF m 15 #[.val (.int p1), .val (.int p2), .val (.long q1), .second, .val (.int p3), .val (.int p4), .val (.int (own_b (¬ (p1 &&& (1 : Int32)) = 0))), .unset, .unset, .unset, .unset, .unset, .unset, .unset, .unset, .unset, .unset, .unset, .unset, .unset] [(.int (2 : Int32)), (.int p1)])) _
      refine XS.iand X0.here hx rfl (hb hby at_15) rfl ?_
      show Steps p.tables e below (s₁.setTop (mkF m 16 #[.val (.int p1), .val (.int p2), .val (.long q1), .second, .val (.int p3), .val (.int p4), .val (.int (own_b (¬ (p1 &&& (1 : Int32)) = 0))), .unset, .unset, .unset, .unset, .unset, .unset, .unset, .unset, .unset, .unset, .unset, .unset, .unset] [(.int (p1 &&& (2 : Int32)))])) _
      refine XS.ifYes X0.here hx rfl (pc0 := 16) (pc' := 23) rfl (hb hby at_16) rfl ((if0 _ _).trans (teq hc).1) (by decide) (by decide) ?_
      show Steps p.tables e below (s₁.setTop (mkF m 23 #[.val (.int p1), .val (.int p2), .val (.long q1), .second, .val (.int p3), .val (.int p4), .val (.int (own_b (¬ (p1 &&& (1 : Int32)) = 0))), .unset, .unset, .unset, .unset, .unset, .unset, .unset, .unset, .unset, .unset, .unset, .unset, .unset] [])) _
      refine XS.iconst X0.here hx rfl (hb hby at_23) ?_
      exact k
    · rw [own_bt (P := ¬ (p1 &&& (2 : Int32)) = 0) hc] at k
      show Steps p.tables e below (s₁.setTop (mkF m 13 #[.val (.int p1), .val (.int p2), .val (.long q1), .second, .val (.int p3), .val (.int p4), .val (.int (own_b (¬ (p1 &&& (1 : Int32)) = 0))), .unset, .unset, .unset, .unset, .unset, .unset, .unset, .unset, .unset, .unset, .unset, .unset, .unset] [])) _
      refine XS.iloadN X0.here hx rfl (hb hby at_13) rfl ?_
      show Steps p.tables e below (s₁.setTop (mkF m 14 #[.val (.int p1), .val (.int p2), .val (.long q1), .second, .val (.int p3), .val (.int p4), .val (.int (own_b (¬ (p1 &&& (1 : Int32)) = 0))), .unset, .unset, .unset, .unset, .unset, .unset, .unset, .unset, .unset, .unset, .unset, .unset, .unset] [(.int p1)])) _
      refine XS.iconst X0.here hx rfl (hb hby at_14) ?_
      show Steps p.tables e below (s₁.setTop (mkF m 15 #[.val (.int p1), .val (.int p2), .val (.long q1), .second, .val (.int p3), .val (.int p4), .val (.int (own_b (¬ (p1 &&& (1 : Int32)) = 0))), .unset, .unset, .unset, .unset, .unset, .unset, .unset, .unset, .unset, .unset, .unset, .unset, .unset] [(.int (2 : Int32)), (.int p1)])) _
      refine XS.iand X0.here hx rfl (hb hby at_15) rfl ?_
      show Steps p.tables e below (s₁.setTop (mkF m 16 #[.val (.int p1), .val (.int p2), .val (.long q1), .second, .val (.int p3), .val (.int p4), .val (.int (own_b (¬ (p1 &&& (1 : Int32)) = 0))), .unset, .unset, .unset, .unset, .unset, .unset, .unset, .unset, .unset, .unset, .unset, .unset, .unset] [(.int (p1 &&& (2 : Int32)))])) _
      refine XS.ifNo X0.here hx rfl (hb hby at_16) rfl ((if0 _ _).trans (feq hc).1) ?_
      show Steps p.tables e below (s₁.setTop (mkF m 19 #[.val (.int p1), .val (.int p2), .val (.long q1), .second, .val (.int p3), .val (.int p4), .val (.int (own_b (¬ (p1 &&& (1 : Int32)) = 0))), .unset, .unset, .unset, .unset, .unset, .unset, .unset, .unset, .unset, .unset, .unset, .unset, .unset] [])) _
      refine XS.iconst X0.here hx rfl (hb hby at_19) ?_
      show Steps p.tables e below (s₁.setTop (mkF m 20 #[.val (.int p1), .val (.int p2), .val (.long q1), .second, .val (.int p3), .val (.int p4), .val (.int (own_b (¬ (p1 &&& (1 : Int32)) = 0))), .unset, .unset, .unset, .unset, .unset, .unset, .unset, .unset, .unset, .unset, .unset, .unset, .unset] [(.int (1 : Int32))])) _
      refine XS.goto X0.here hx rfl (pc0 := 20) (pc' := 24) rfl (hb hby at_20) (by decide) (by decide) ?_
      exact k
  have sg26 : ∀ t, Steps p.tables e below (s₁.setTop (mkF m 37 #[.val (.int p1), .val (.int p2), .val (.long q1), .second, .val (.int p3), .val (.int p4), .val (.int (own_b (¬ (p1 &&& (1 : Int32)) = 0))), .val (.int (own_b (¬ (p1 &&& (2 : Int32)) = 0))), .unset, .unset, .unset, .unset, .unset, .unset, .unset, .unset, .unset, .unset, .unset, .unset] [(.int (own_b (¬ (p1 &&& (4 : Int32)) = 0)))])) t → Steps p.tables e below (s₁.setTop (mkF m 26 #[.val (.int p1), .val (.int p2), .val (.long q1), .second, .val (.int p3), .val (.int p4), .val (.int (own_b (¬ (p1 &&& (1 : Int32)) = 0))), .val (.int (own_b (¬ (p1 &&& (2 : Int32)) = 0))), .unset, .unset, .unset, .unset, .unset, .unset, .unset, .unset, .unset, .unset, .unset, .unset] [])) t := by
    intro t k
    by_cases hc : (p1 &&& (4 : Int32)) = 0
    · rw [own_bf (P := ¬ (p1 &&& (4 : Int32)) = 0) (fun q => q hc)] at k
      show Steps p.tables e below (s₁.setTop (mkF m 26 #[.val (.int p1), .val (.int p2), .val (.long q1), .second, .val (.int p3), .val (.int p4), .val (.int (own_b (¬ (p1 &&& (1 : Int32)) = 0))), .val (.int (own_b (¬ (p1 &&& (2 : Int32)) = 0))), .unset, .unset, .unset, .unset, .unset, .unset, .unset, .unset, .unset, .unset, .unset, .unset] [])) _
      refine XS.iloadN X0.here hx rfl (hb hby at_26) rfl ?_
      show Steps p.tables e below (s₁.setTop (mkF m 27 #[.val (.int p1), .val (.int p2), .val (.long q1), .second, .val (.int p3), .val (.int p4), .val (.int (own_b (¬ (p1 &&& (1 : Int32)) = 0))), .val (.int (own_b (¬ (p1 &&& (2 : Int32)) = 0))), .unset, .unset, .unset, .unset, .unset, .unset, .unset, .unset, .unset, .unset, .unset, .unset] [(.int p1)])) _
      refine XS.iconst X0.here hx rfl (hb hby at_27) ?_
      show Steps p.tables e below (s₁.setTop (mkF m 28 #[.val (.int p1), .val (.int p2), .val (.long q1), .second, .val (.int p3), .val (.int p4), .val (.int (own_b (¬ (p1 &&& (1 : Int32)) = 0))), .val (.int (own_b (¬ (p1 &&& (2 : Int32)) = 0))), .unset, .unset, .unset, .unset, .unset, .unset, .unset, .unset, .unset, .unset, .unset, .unset] [(.int (4 : Int32)), (.int p1)])) _
      refine XS.iand X0.here hx rfl (hb hby at_28) rfl ?_
      show Steps p.tables e below (s₁.setTop (mkF m 29 #[.val (.int p1), .val (.int p2), .val (.long q1), .second, .val (.int p3), .val (.int p4), .val (.int (own_b (¬ (p1 &&& (1 : Int32)) = 0))), .val (.int (own_b (¬ (p1 &&& (2 : Int32)) = 0))), .unset, .unset, .unset, .unset, .unset, .unset, .unset, .unset, .unset, .unset, .unset, .unset] [(.int (p1 &&& (4 : Int32)))])) _
      refine XS.ifYes X0.here hx rfl (pc0 := 29) (pc' := 36) rfl (hb hby at_29) rfl ((if0 _ _).trans (teq hc).1) (by decide) (by decide) ?_
      show Steps p.tables e below (s₁.setTop (mkF m 36 #[.val (.int p1), .val (.int p2), .val (.long q1), .second, .val (.int p3), .val (.int p4), .val (.int (own_b (¬ (p1 &&& (1 : Int32)) = 0))), .val (.int (own_b (¬ (p1 &&& (2 : Int32)) = 0))), .unset, .unset, .unset, .unset, .unset, .unset, .unset, .unset, .unset, .unset, .unset, .unset] [])) _
      refine XS.iconst X0.here hx rfl (hb hby at_36) ?_
      exact k
    · rw [own_bt (P := ¬ (p1 &&& (4 : Int32)) = 0) hc] at k
      show Steps p.tables e below (s₁.setTop (mkF m 26 #[.val (.int p1), .val (.int p2), .val (.long q1), .second, .val (.int p3), .val (.int p4), .val (.int (own_b (¬ (p1 &&& (1 : Int32)) = 0))), .val (.int (own_b (¬ (p1 &&& (2 : Int32)) = 0))), .unset, .unset, .unset, .unset, .unset, .unset, .unset, .unset, .unset, .unset, .unset, .unset] [])) _
      refine XS.iloadN X0.here hx rfl (hb hby at_26) rfl ?_
      show Steps p.tables e below (s₁.setTop (mkF m 27 #[.val (.int p1), .val (.int p2), .val (.long q1), .second, .val (.int p3), .val (.int p4), .val (.int (own_b (¬ (p1 &&& (1 : Int32)) = 0))), .val (.int (own_b (¬ (p1 &&& (2 : Int32)) = 0))), .unset, .unset, .unset, .unset, .unset, .unset, .unset, .unset, .unset, .unset, .unset, .unset] [(.int p1)])) _
      refine XS.iconst X0.here hx rfl (hb hby at_27) ?_
      show Steps p.tables e below (s₁.setTop (mkF m 28 #[.val (.int p1), .val (.int p2), .val (.long q1), .second, .val (.int p3), .val (.int p4), .val (.int (own_b (¬ (p1 &&& (1 : Int32)) = 0))), .val (.int (own_b (¬ (p1 &&& (2 : Int32)) = 0))), .unset, .unset, .unset, .unset, .unset, .unset, .unset, .unset, .unset, .unset, .unset, .unset] [(.int (4 : Int32)), (.int p1)])) _
      refine XS.iand X0.here hx rfl (hb hby at_28) rfl ?_
      show Steps p.tables e below (s₁.setTop (mkF m 29 #[.val (.int p1), .val (.int p2), .val (.long q1), .second, .val (.int p3), .val (.int p4), .val (.int (own_b (¬ (p1 &&& (1 : Int32)) = 0))), .val (.int (own_b (¬ (p1 &&& (2 : Int32)) = 0))), .unset, .unset, .unset, .unset, .unset, .unset, .unset, .unset, .unset, .unset, .unset, .unset] [(.int (p1 &&& (4 : Int32)))])) _
      refine XS.ifNo X0.here hx rfl (hb hby at_29) rfl ((if0 _ _).trans (feq hc).1) ?_
      show Steps p.tables e below (s₁.setTop (mkF m 32 #[.val (.int p1), .val (.int p2), .val (.long q1), .second, .val (.int p3), .val (.int p4), .val (.int (own_b (¬ (p1 &&& (1 : Int32)) = 0))), .val (.int (own_b (¬ (p1 &&& (2 : Int32)) = 0))), .unset, .unset, .unset, .unset, .unset, .unset, .unset, .unset, .unset, .unset, .unset, .unset] [])) _
      refine XS.iconst X0.here hx rfl (hb hby at_32) ?_
      show Steps p.tables e below (s₁.setTop (mkF m 33 #[.val (.int p1), .val (.int p2), .val (.long q1), .second, .val (.int p3), .val (.int p4), .val (.int (own_b (¬ (p1 &&& (1 : Int32)) = 0))), .val (.int (own_b (¬ (p1 &&& (2 : Int32)) = 0))), .unset, .unset, .unset, .unset, .unset, .unset, .unset, .unset, .unset, .unset, .unset, .unset] [(.int (1 : Int32))])) _
      refine XS.goto X0.here hx rfl (pc0 := 33) (pc' := 37) rfl (hb hby at_33) (by decide) (by decide) ?_
      exact k
  have sg39 : ∀ t, Steps p.tables e below (s₁.setTop (mkF m 51 #[.val (.int p1), .val (.int p2), .val (.long q1), .second, .val (.int p3), .val (.int p4), .val (.int (own_b (¬ (p1 &&& (1 : Int32)) = 0))), .val (.int (own_b (¬ (p1 &&& (2 : Int32)) = 0))), .val (.int (own_b (¬ (p1 &&& (4 : Int32)) = 0))), .unset, .unset, .unset, .unset, .unset, .unset, .unset, .unset, .unset, .unset, .unset] [(.int (own_b (¬ (p1 &&& (8 : Int32)) = 0)))])) t → Steps p.tables e below (s₁.setTop (mkF m 39 #[.val (.int p1), .val (.int p2), .val (.long q1), .second, .val (.int p3), .val (.int p4), .val (.int (own_b (¬ (p1 &&& (1 : Int32)) = 0))), .val (.int (own_b (¬ (p1 &&& (2 : Int32)) = 0))), .val (.int (own_b (¬ (p1 &&& (4 : Int32)) = 0))), .unset, .unset, .unset, .unset, .unset, .unset, .unset, .unset, .unset, .unset, .unset] [])) t := by
    intro t k
    by_cases hc : (p1 &&& (8 : Int32)) = 0
    · rw [own_bf (P := ¬ (p1 &&& (8 : Int32)) = 0) (fun q => q hc)] at k
      show Steps p.tables e below (s₁.setTop (mkF m 39 #[.val (.int p1), .val (.int p2), .val (.long q1), .second, .val (.int p3), .val (.int p4), .val (.int (own_b (¬ (p1 &&& (1 : Int32)) = 0))), .val (.int (own_b (¬ (p1 &&& (2 : Int32)) = 0))), .val (.int (own_b (¬ (p1 &&& (4 : Int32)) = 0))), .unset, .unset, .unset, .unset, .unset, .unset, .unset, .unset, .unset, .unset, .unset] [])) _
      refine XS.iloadN X0.here hx rfl (hb hby at_39) rfl ?_
      show Steps p.tables e below (s₁.setTop (mkF m 40 #[.val (.int p1), .val (.int p2), .val (.long q1), .second, .val (.int p3), .val (.int p4), .val (.int (own_b (¬ (p1 &&& (1 : Int32)) = 0))), .val (.int (own_b (¬ (p1 &&& (2 : Int32)) = 0))), .val (.int (own_b (¬ (p1 &&& (4 : Int32)) = 0))), .unset, .unset, .unset, .unset, .unset, .unset, .unset, .unset, .unset, .unset, .unset] [(.int p1)])) _
      refine XS.bipush X0.here hx rfl (hb hby at_40) ?_
      show Steps p.tables e below (s₁.setTop (mkF m 42 #[.val (.int p1), .val (.int p2), .val (.long q1), .second, .val (.int p3), .val (.int p4), .val (.int (own_b (¬ (p1 &&& (1 : Int32)) = 0))), .val (.int (own_b (¬ (p1 &&& (2 : Int32)) = 0))), .val (.int (own_b (¬ (p1 &&& (4 : Int32)) = 0))), .unset, .unset, .unset, .unset, .unset, .unset, .unset, .unset, .unset, .unset, .unset] [(.int (8 : Int32)), (.int p1)])) _
      refine XS.iand X0.here hx rfl (hb hby at_42) rfl ?_
      show Steps p.tables e below (s₁.setTop (mkF m 43 #[.val (.int p1), .val (.int p2), .val (.long q1), .second, .val (.int p3), .val (.int p4), .val (.int (own_b (¬ (p1 &&& (1 : Int32)) = 0))), .val (.int (own_b (¬ (p1 &&& (2 : Int32)) = 0))), .val (.int (own_b (¬ (p1 &&& (4 : Int32)) = 0))), .unset, .unset, .unset, .unset, .unset, .unset, .unset, .unset, .unset, .unset, .unset] [(.int (p1 &&& (8 : Int32)))])) _
      refine XS.ifYes X0.here hx rfl (pc0 := 43) (pc' := 50) rfl (hb hby at_43) rfl ((if0 _ _).trans (teq hc).1) (by decide) (by decide) ?_
      show Steps p.tables e below (s₁.setTop (mkF m 50 #[.val (.int p1), .val (.int p2), .val (.long q1), .second, .val (.int p3), .val (.int p4), .val (.int (own_b (¬ (p1 &&& (1 : Int32)) = 0))), .val (.int (own_b (¬ (p1 &&& (2 : Int32)) = 0))), .val (.int (own_b (¬ (p1 &&& (4 : Int32)) = 0))), .unset, .unset, .unset, .unset, .unset, .unset, .unset, .unset, .unset, .unset, .unset] [])) _
      refine XS.iconst X0.here hx rfl (hb hby at_50) ?_
      exact k
    · rw [own_bt (P := ¬ (p1 &&& (8 : Int32)) = 0) hc] at k
      show Steps p.tables e below (s₁.setTop (mkF m 39 #[.val (.int p1), .val (.int p2), .val (.long q1), .second, .val (.int p3), .val (.int p4), .val (.int (own_b (¬ (p1 &&& (1 : Int32)) = 0))), .val (.int (own_b (¬ (p1 &&& (2 : Int32)) = 0))), .val (.int (own_b (¬ (p1 &&& (4 : Int32)) = 0))), .unset, .unset, .unset, .unset, .unset, .unset, .unset, .unset, .unset, .unset, .unset] [])) _
      refine XS.iloadN X0.here hx rfl (hb hby at_39) rfl ?_
      show Steps p.tables e below (s₁.setTop (mkF m 40 #[.val (.int p1), .val (.int p2), .val (.long q1), .second, .val (.int p3), .val (.int p4), .val (.int (own_b (¬ (p1 &&& (1 : Int32)) = 0))), .val (.int (own_b (¬ (p1 &&& (2 : Int32)) = 0))), .val (.int (own_b (¬ (p1 &&& (4 : Int32)) = 0))), .unset, .unset, .unset, .unset, .unset, .unset, .unset, .unset, .unset, .unset, .unset] [(.int p1)])) _
      refine XS.bipush X0.here hx rfl (hb hby at_40) ?_
      show Steps p.tables e below (s₁.setTop (mkF m 42 #[.val (.int p1), .val (.int p2), .val (.long q1), .second, .val (.int p3), .val (.int p4), .val (.int (own_b (¬ (p1 &&& (1 : Int32)) = 0))), .val (.int (own_b (¬ (p1 &&& (2 : Int32)) = 0))), .val (.int (own_b (¬ (p1 &&& (4 : Int32)) = 0))), .unset, .unset, .unset, .unset, .unset, .unset, .unset, .unset, .unset, .unset, .unset] [(.int (8 : Int32)), (.int p1)])) _
      refine XS.iand X0.here hx rfl (hb hby at_42) rfl ?_
      show Steps p.tables e below (s₁.setTop (mkF m 43 #[.val (.int p1), .val (.int p2), .val (.long q1), .second, .val (.int p3), .val (.int p4), .val (.int (own_b (¬ (p1 &&& (1 : Int32)) = 0))), .val (.int (own_b (¬ (p1 &&& (2 : Int32)) = 0))), .val (.int (own_b (¬ (p1 &&& (4 : Int32)) = 0))), .unset, .unset, .unset, .unset, .unset, .unset, .unset, .unset, .unset, .unset, .unset] [(.int (p1 &&& (8 : Int32)))])) _
      refine XS.ifNo X0.here hx rfl (hb hby at_43) rfl ((if0 _ _).trans (feq hc).1) ?_
      show Steps p.tables e below (s₁.setTop (mkF m 46 #[.val (.int p1), .val (.int p2), .val (.long q1), .second, .val (.int p3), .val (.int p4), .val (.int (own_b (¬ (p1 &&& (1 : Int32)) = 0))), .val (.int (own_b (¬ (p1 &&& (2 : Int32)) = 0))), .val (.int (own_b (¬ (p1 &&& (4 : Int32)) = 0))), .unset, .unset, .unset, .unset, .unset, .unset, .unset, .unset, .unset, .unset, .unset] [])) _
      refine XS.iconst X0.here hx rfl (hb hby at_46) ?_
      show Steps p.tables e below (s₁.setTop (mkF m 47 #[.val (.int p1), .val (.int p2), .val (.long q1), .second, .val (.int p3), .val (.int p4), .val (.int (own_b (¬ (p1 &&& (1 : Int32)) = 0))), .val (.int (own_b (¬ (p1 &&& (2 : Int32)) = 0))), .val (.int (own_b (¬ (p1 &&& (4 : Int32)) = 0))), .unset, .unset, .unset, .unset, .unset, .unset, .unset, .unset, .unset, .unset, .unset] [(.int (1 : Int32))])) _
      refine XS.goto X0.here hx rfl (pc0 := 47) (pc' := 51) rfl (hb hby at_47) (by decide) (by decide) ?_
      exact k
  have sg53 : ∀ t, Steps p.tables e below (s₁.setTop (mkF m 65 #[.val (.int p1), .val (.int p2), .val (.long q1), .second, .val (.int p3), .val (.int p4), .val (.int (own_b (¬ (p1 &&& (1 : Int32)) = 0))), .val (.int (own_b (¬ (p1 &&& (2 : Int32)) = 0))), .val (.int (own_b (¬ (p1 &&& (4 : Int32)) = 0))), .val (.int (own_b (¬ (p1 &&& (8 : Int32)) = 0))), .unset, .unset, .unset, .unset, .unset, .unset, .unset, .unset, .unset, .unset] [(.int (own_b (¬ (p1 &&& (16 : Int32)) = 0)))])) t → Steps p.tables e below (s₁.setTop (mkF m 53 #[.val (.int p1), .val (.int p2), .val (.long q1), .second, .val (.int p3), .val (.int p4), .val (.int (own_b (¬ (p1 &&& (1 : Int32)) = 0))), .val (.int (own_b (¬ (p1 &&& (2 : Int32)) = 0))), .val (.int (own_b (¬ (p1 &&& (4 : Int32)) = 0))), .val (.int (own_b (¬ (p1 &&& (8 : Int32)) = 0))), .unset, .unset, .unset, .unset, .unset, .unset, .unset, .unset, .unset, .unset] [])) t := by
    intro t k
    by_cases hc : (p1 &&& (16 : Int32)) = 0
    · rw [own_bf (P := ¬ (p1 &&& (16 : Int32)) = 0) (fun q => q hc)] at k
      show Steps p.tables e below (s₁.setTop (mkF m 53 #[.val (.int p1), .val (.int p2), .val (.long q1), .second, .val (.int p3), .val (.int p4), .val (.int (own_b (¬ (p1 &&& (1 : Int32)) = 0))), .val (.int (own_b (¬ (p1 &&& (2 : Int32)) = 0))), .val (.int (own_b (¬ (p1 &&& (4 : Int32)) = 0))), .val (.int (own_b (¬ (p1 &&& (8 : Int32)) = 0))), .unset, .unset, .unset, .unset, .unset, .unset, .unset, .unset, .unset, .unset] [])) _
      refine XS.iloadN X0.here hx rfl (hb hby at_53) rfl ?_
      show Steps p.tables e below (s₁.setTop (mkF m 54 #[.val (.int p1), .val (.int p2), .val (.long q1), .second, .val (.int p3), .val (.int p4), .val (.int (own_b (¬ (p1 &&& (1 : Int32)) = 0))), .val (.int (own_b (¬ (p1 &&& (2 : Int32)) = 0))), .val (.int (own_b (¬ (p1 &&& (4 : Int32)) = 0))), .val (.int (own_b (¬ (p1 &&& (8 : Int32)) = 0))), .unset, .unset, .unset, .unset, .unset, .unset, .unset, .unset, .unset, .unset] [(.int p1)])) _
      refine XS.bipush X0.here hx rfl (hb hby at_54) ?_
      show Steps p.tables e below (s₁.setTop (mkF m 56 #[.val (.int p1), .val (.int p2), .val (.long q1), .second, .val (.int p3), .val (.int p4), .val (.int (own_b (¬ (p1 &&& (1 : Int32)) = 0))), .val (.int (own_b (¬ (p1 &&& (2 : Int32)) = 0))), .val (.int (own_b (¬ (p1 &&& (4 : Int32)) = 0))), .val (.int (own_b (¬ (p1 &&& (8 : Int32)) = 0))), .unset, .unset, .unset, .unset, .unset, .unset, .unset, .unset, .unset, .unset] [(.int (16 : Int32)), (.int p1)])) _
      refine XS.iand X0.here hx rfl (hb hby at_56) rfl ?_
      show Steps p.tables e below (s₁.setTop (mkF m 57 #[.val (.int p1), .val (.int p2), .val (.long q1), .second, .val (.int p3), .val (.int p4), .val (.int (own_b (¬ (p1 &&& (1 : Int32)) = 0))), .val (.int (own_b (¬ (p1 &&& (2 : Int32)) = 0))), .val (.int (own_b (¬ (p1 &&& (4 : Int32)) = 0))), .val (.int (own_b (¬ (p1 &&& (8 : Int32)) = 0))), .unset, .unset, .unset, .unset, .unset, .unset, .unset, .unset, .unset, .unset] [(.int (p1 &&& (16 : Int32)))])) _
      refine XS.ifYes X0.here hx rfl (pc0 := 57) (pc' := 64) rfl (hb hby at_57) rfl ((if0 _ _).trans (teq hc).1) (by decide) (by decide) ?_
      show Steps p.tables e below (s₁.setTop (mkF m 64 #[.val (.int p1), .val (.int p2), .val (.long q1), .second, .val (.int p3), .val (.int p4), .val (.int (own_b (¬ (p1 &&& (1 : Int32)) = 0))), .val (.int (own_b (¬ (p1 &&& (2 : Int32)) = 0))), .val (.int (own_b (¬ (p1 &&& (4 : Int32)) = 0))), .val (.int (own_b (¬ (p1 &&& (8 : Int32)) = 0))), .unset, .unset, .unset, .unset, .unset, .unset, .unset, .unset, .unset, .unset] [])) _
      refine XS.iconst X0.here hx rfl (hb hby at_64) ?_
      exact k
    · rw [own_bt (P := ¬ (p1 &&& (16 : Int32)) = 0) hc] at k
      show Steps p.tables e below (s₁.setTop (mkF m 53 #[.val (.int p1), .val (.int p2), .val (.long q1), .second, .val (.int p3), .val (.int p4), .val (.int (own_b (¬ (p1 &&& (1 : Int32)) = 0))), .val (.int (own_b (¬ (p1 &&& (2 : Int32)) = 0))), .val (.int (own_b (¬ (p1 &&& (4 : Int32)) = 0))), .val (.int (own_b (¬ (p1 &&& (8 : Int32)) = 0))), .unset, .unset, .unset, .unset, .unset, .unset, .unset, .unset, .unset, .unset] [])) _
      refine XS.iloadN X0.here hx rfl (hb hby at_53) rfl ?_
      show Steps p.tables e below (s₁.setTop (mkF m 54 #[.val (.int p1), .val (.int p2), .val (.long q1), .second, .val (.int p3), .val (.int p4), .val (.int (own_b (¬ (p1 &&& (1 : Int32)) = 0))), .val (.int (own_b (¬ (p1 &&& (2 : Int32)) = 0))), .val (.int (own_b (¬ (p1 &&& (4 : Int32)) = 0))), .val (.int (own_b (¬ (p1 &&& (8 : Int32)) = 0))), .unset, .unset, .unset, .unset, .unset, .unset, .unset, .unset, .unset, .unset] [(.int p1)])) _
      refine XS.bipush X0.here hx rfl (hb hby at_54) ?_
      show Steps p.tables e below (s₁.setTop (mkF m 56 #[.val (.int p1), .val (.int p2), .val (.long q1), .second, .val (.int p3), .val (.int p4), .val (.int (own_b (¬ (p1 &&& (1 : Int32)) = 0))), .val (.int (own_b (¬ (p1 &&& (2 : Int32)) = 0))), .val (.int (own_b (¬ (p1 &&& (4 : Int32)) = 0))), .val (.int (own_b (¬ (p1 &&& (8 : Int32)) = 0))), .unset, .unset, .unset, .unset, .unset, .unset, .unset, .unset, .unset, .unset] [(.int (16 : Int32)), (.int p1)])) _
      refine XS.iand X0.here hx rfl (hb hby at_56) rfl ?_
      show Steps p.tables e below (s₁.setTop (mkF m 57 #[.val (.int p1), .val (.int p2), .val (.long q1), .second, .val (.int p3), .val (.int p4), .val (.int (own_b (¬ (p1 &&& (1 : Int32)) = 0))), .val (.int (own_b (¬ (p1 &&& (2 : Int32)) = 0))), .val (.int (own_b (¬ (p1 &&& (4 : Int32)) = 0))), .val (.int (own_b (¬ (p1 &&& (8 : Int32)) = 0))), .unset, .unset, .unset, .unset, .unset, .unset, .unset, .unset, .unset, .unset] [(.int (p1 &&& (16 : Int32)))])) _
      refine XS.ifNo X0.here hx rfl (hb hby at_57) rfl ((if0 _ _).trans (feq hc).1) ?_
      show Steps p.tables e below (s₁.setTop (mkF m 60 #[.val (.int p1), .val (.int p2), .val (.long q1), .second, .val (.int p3), .val (.int p4), .val (.int (own_b (¬ (p1 &&& (1 : Int32)) = 0))), .val (.int (own_b (¬ (p1 &&& (2 : Int32)) = 0))), .val (.int (own_b (¬ (p1 &&& (4 : Int32)) = 0))), .val (.int (own_b (¬ (p1 &&& (8 : Int32)) = 0))), .unset, .unset, .unset, .unset, .unset, .unset, .unset, .unset, .unset, .unset] [])) _
      refine XS.iconst X0.here hx rfl (hb hby at_60) ?_
      show Steps p.tables e below (s₁.setTop (mkF m 61 #[.val (.int p1), .val (.int p2), .val (.long q1), .second, .val (.int p3), .val (.int p4), .val (.int (own_b (¬ (p1 &&& (1 : Int32)) = 0))), .val (.int (own_b (¬ (p1 &&& (2 : Int32)) = 0))), .val (.int (own_b (¬ (p1 &&& (4 : Int32)) = 0))), .val (.int (own_b (¬ (p1 &&& (8 : Int32)) = 0))), .unset, .unset, .unset, .unset, .unset, .unset, .unset, .unset, .unset, .unset] [(.int (1 : Int32))])) _
      refine XS.goto X0.here hx rfl (pc0 := 61) (pc' := 65) rfl (hb hby at_61) (by decide) (by decide) ?_
      exact k
  have sg67 : ∀ t, Steps p.tables e below (s₁.setTop (mkF m 79 #[.val (.int p1), .val (.int p2), .val (.long q1), .second, .val (.int p3), .val (.int p4), .val (.int (own_b (¬ (p1 &&& (1 : Int32)) = 0))), .val (.int (own_b (¬ (p1 &&& (2 : Int32)) = 0))), .val (.int (own_b (¬ (p1 &&& (4 : Int32)) = 0))), .val (.int (own_b (¬ (p1 &&& (8 : Int32)) = 0))), .val (.int (own_b (¬ (p1 &&& (16 : Int32)) = 0))), .unset, .unset, .unset, .unset, .unset, .unset, .unset, .unset, .unset] [(.int (own_b (¬ (p1 &&& (32 : Int32)) = 0)))])) t → Steps p.tables e below (s₁.setTop (mkF m 67 #[.val (.int p1), .val (.int p2), .val (.long q1), .second, .val (.int p3), .val (.int p4), .val (.int (own_b (¬ (p1 &&& (1 : Int32)) = 0))), .val (.int (own_b (¬ (p1 &&& (2 : Int32)) = 0))), .val (.int (own_b (¬ (p1 &&& (4 : Int32)) = 0))), .val (.int (own_b (¬ (p1 &&& (8 : Int32)) = 0))), .val (.int (own_b (¬ (p1 &&& (16 : Int32)) = 0))), .unset, .unset, .unset, .unset, .unset, .unset, .unset, .unset, .unset] [])) t := by
    intro t k
    by_cases hc : (p1 &&& (32 : Int32)) = 0
    · rw [own_bf (P := ¬ (p1 &&& (32 : Int32)) = 0) (fun q => q hc)] at k
      show Steps p.tables e below (s₁.setTop (mkF m 67 #[.val (.int p1), .val (.int p2), .val (.long q1), .second, .val (.int p3), .val (.int p4), .val (.int (own_b (¬ (p1 &&& (1 : Int32)) = 0))), .val (.int (own_b (¬ (p1 &&& (2 : Int32)) = 0))), .val (.int (own_b (¬ (p1 &&& (4 : Int32)) = 0))), .val (.int (own_b (¬ (p1 &&& (8 : Int32)) = 0))), .val (.int (own_b (¬ (p1 &&& (16 : Int32)) = 0))), .unset, .unset, .unset, .unset, .unset, .unset, .unset, .unset, .unset] [])) _
      refine XS.iloadN X0.here hx rfl (hb hby at_67) rfl ?_
      show Steps p.tables e below (s₁.setTop (mkF m 68 #[.val (.int p1), .val (.int p2), .val (.long q1), .second, .val (.int p3), .val (.int p4), .val (.int (own_b (¬ (p1 &&& (1 : Int32)) = 0))), .val (.int (own_b (¬ (p1 &&& (2 : Int32)) = 0))), .val (.int (own_b (¬ (p1 &&& (4 : Int32)) = 0))), .val (.int (own_b (¬ (p1 &&& (8 : Int32)) = 0))), .val (.int (own_b (¬ (p1 &&& (16 : Int32)) = 0))), .unset, .unset, .unset, .unset, .unset, .unset, .unset, .unset, .unset] [(.int p1)])) _
      refine XS.bipush X0.here hx rfl (hb hby at_68) ?_
      show Steps p.tables e below (s₁.setTop (mkF m 70 #[.val (.int p1), .val (.int p2), .val (.long q1), .second, .val (.int p3), .val (.int p4), .val (.int (own_b (¬ (p1 &&& (1 : Int32)) = 0))), .val (.int (own_b (¬ (p1 &&& (2 : Int32)) = 0))), .val (.int (own_b (¬ (p1 &&& (4 : Int32)) = 0))), .val (.int (own_b (¬ (p1 &&& (8 : Int32)) = 0))), .val (.int (own_b (¬ (p1 &&& (16 : Int32)) = 0))), .unset, .unset, .unset, .unset, .unset, .unset, .unset, .unset, .unset] [(.int (32 : Int32)), (.int p1)])) _
      refine XS.iand X0.here hx rfl (hb hby at_70) rfl ?_
      show Steps p.tables e below (s₁.setTop (mkF m 71 #[.val (.int p1), .val (.int p2), .val (.long q1), .second, .val (.int p3), .val (.int p4), .val (.int (own_b (¬ (p1 &&& (1 : Int32)) = 0))), .val (.int (own_b (¬ (p1 &&& (2 : Int32)) = 0))), .val (.int (own_b (¬ (p1 &&& (4 : Int32)) = 0))), .val (.int (own_b (¬ (p1 &&& (8 : Int32)) = 0))), .val (.int (own_b (¬ (p1 &&& (16 : Int32)) = 0))), .unset, .unset, .unset, .unset, .unset, .unset, .unset, .unset, .unset] [(.int (p1 &&& (32 : Int32)))])) _
      refine XS.ifYes X0.here hx rfl (pc0 := 71) (pc' := 78) rfl (hb hby at_71) rfl ((if0 _ _).trans (teq hc).1) (by decide) (by decide) ?_
      show Steps p.tables e below (s₁.setTop (mkF m 78 #[.val (.int p1), .val (.int p2), .val (.long q1), .second, .val (.int p3), .val (.int p4), .val (.int (own_b (¬ (p1 &&& (1 : Int32)) = 0))), .val (.int (own_b (¬ (p1 &&& (2 : Int32)) = 0))), .val (.int (own_b (¬ (p1 &&& (4 : Int32)) = 0))), .val (.int (own_b (¬ (p1 &&& (8 : Int32)) = 0))), .val (.int (own_b (¬ (p1 &&& (16 : Int32)) = 0))), .unset, .unset, .unset, .unset, .unset, .unset, .unset, .unset, .unset] [])) _
      refine XS.iconst X0.here hx rfl (hb hby at_78) ?_
      exact k
    · rw [own_bt (P := ¬ (p1 &&& (32 : Int32)) = 0) hc] at k
      show Steps p.tables e below (s₁.setTop (mkF m 67 #[.val (.int p1), .val (.int p2), .val (.long q1), .second, .val (.int p3), .val (.int p4), .val (.int (own_b (¬ (p1 &&& (1 : Int32)) = 0))), .val (.int (own_b (¬ (p1 &&& (2 : Int32)) = 0))), .val (.int (own_b (¬ (p1 &&& (4 : Int32)) = 0))), .val (.int (own_b (¬ (p1 &&& (8 : Int32)) = 0))), .val (.int (own_b (¬ (p1 &&& (16 : Int32)) = 0))), .unset, .unset, .unset, .unset, .unset, .unset, .unset, .unset, .unset] [])) _
      refine XS.iloadN X0.here hx rfl (hb hby at_67) rfl ?_
      show Steps p.tables e below (s₁.setTop (mkF m 68 #[.val (.int p1), .val (.int p2), .val (.long q1), .second, .val (.int p3), .val (.int p4), .val (.int (own_b (¬ (p1 &&& (1 : Int32)) = 0))), .val (.int (own_b (¬ (p1 &&& (2 : Int32)) = 0))), .val (.int (own_b (¬ (p1 &&& (4 : Int32)) = 0))), .val (.int (own_b (¬ (p1 &&& (8 : Int32)) = 0))), .val (.int (own_b (¬ (p1 &&& (16 : Int32)) = 0))), .unset, .unset, .unset, .unset, .unset, .unset, .unset, .unset, .unset] [(.int p1)])) _
      refine XS.bipush X0.here hx rfl (hb hby at_68) ?_
      show Steps p.tables e below (s₁.setTop (mkF m 70 #[.val (.int p1), .val (.int p2), .val (.long q1), .second, .val (.int p3), .val (.int p4), .val (.int (own_b (¬ (p1 &&& (1 : Int32)) = 0))), .val (.int (own_b (¬ (p1 &&& (2 : Int32)) = 0))), .val (.int (own_b (¬ (p1 &&& (4 : Int32)) = 0))), .val (.int (own_b (¬ (p1 &&& (8 : Int32)) = 0))), .val (.int (own_b (¬ (p1 &&& (16 : Int32)) = 0))), .unset, .unset, .unset, .unset, .unset, .unset, .unset, .unset, .unset] [(.int (32 : Int32)), (.int p1)])) _
      refine XS.iand X0.here hx rfl (hb hby at_70) rfl ?_
      show Steps p.tables e below (s₁.setTop (mkF m 71 #[.val (.int p1), .val (.int p2), .val (.long q1), .second, .val (.int p3), .val (.int p4), .val (.int (own_b (¬ (p1 &&& (1 : Int32)) = 0))), .val (.int (own_b (¬ (p1 &&& (2 : Int32)) = 0))), .val (.int (own_b (¬ (p1 &&& (4 : Int32)) = 0))), .val (.int (own_b (¬ (p1 &&& (8 : Int32)) = 0))), .val (.int (own_b (¬ (p1 &&& (16 : Int32)) = 0))), .unset, .unset, .unset, .unset, .unset, .unset, .unset, .unset, .unset] [(.int (p1 &&& (32 : Int32)))])) _
      refine XS.ifNo X0.here hx rfl (hb hby at_71) rfl ((if0 _ _).trans (feq hc).1) ?_
      show Steps p.tables e below (s₁.setTop (mkF m 74 #[.val (.int p1), .val (.int p2), .val (.long q1), .second, .val (.int p3), .val (.int p4), .val (.int (own_b (¬ (p1 &&& (1 : Int32)) = 0))), .val (.int (own_b (¬ (p1 &&& (2 : Int32)) = 0))), .val (.int (own_b (¬ (p1 &&& (4 : Int32)) = 0))), .val (.int (own_b (¬ (p1 &&& (8 : Int32)) = 0))), .val (.int (own_b (¬ (p1 &&& (16 : Int32)) = 0))), .unset, .unset, .unset, .unset, .unset, .unset, .unset, .unset, .unset] [])) _
      refine XS.iconst X0.here hx rfl (hb hby at_74) ?_
      show Steps p.tables e below (s₁.setTop (mkF m 75 #[.val (.int p1), .val (.int p2), .val (.long q1), .second, .val (.int p3), .val (.int p4), .val (.int (own_b (¬ (p1 &&& (1 : Int32)) = 0))), .val (.int (own_b (¬ (p1 &&& (2 : Int32)) = 0))), .val (.int (own_b (¬ (p1 &&& (4 : Int32)) = 0))), .val (.int (own_b (¬ (p1 &&& (8 : Int32)) = 0))), .val (.int (own_b (¬ (p1 &&& (16 : Int32)) = 0))), .unset, .unset, .unset, .unset, .unset, .unset, .unset, .unset, .unset] [(.int (1 : Int32))])) _
      refine XS.goto X0.here hx rfl (pc0 := 75) (pc' := 79) rfl (hb hby at_75) (by decide) (by decide) ?_
      exact k
  obtain ⟨_, _, ⟨T1, L1, k1, n1⟩, -, X1, ⟨Lc1, hQ1, l1, y1, z1⟩, st1⟩ := Jvm.LawKit.callS X0 hx (y := (⟨"java/lang/String", "valueOf", "(C)Ljava/lang/String;"⟩ : MethodName)) hown (mvT hZ (hw _ (List.mem_of_getElem? (i := 0) rfl))) (mvT hZ (hw _ (List.mem_of_getElem? (i := 1) rfl))) (mvT hZ (hw _ (List.mem_of_getElem? (i := 2) rfl))) (mvT hZ (hw _ (List.mem_of_getElem? (i := 3) rfl))) (by decide) (backOf (W := 0) (rm1 l Z a0 hw [] ((((p2.toUInt32 >>> ((8 : Int32) &&& 31).toUInt32).toInt32) &&& (255 : Int32)).toUInt32.toUInt16.toUInt32.toInt32) G1 h0 n0 Z0 (own_255 _) S1 hG) hZ (hw _ (List.mem_of_getElem? (i := 3) rfl)) (hw _ (List.mem_of_getElem? (i := 2) rfl)) (by decide) (by decide)) (g := (mkF m 95 #[.val (.int p1), .val (.int p2), .val (.long q1), .second, .val (.int p3), .val (.int p4), .val (.int (own_b (¬ (p1 &&& (1 : Int32)) = 0))), .val (.int (own_b (¬ (p1 &&& (2 : Int32)) = 0))), .val (.int (own_b (¬ (p1 &&& (4 : Int32)) = 0))), .val (.int (own_b (¬ (p1 &&& (8 : Int32)) = 0))), .val (.int (own_b (¬ (p1 &&& (16 : Int32)) = 0))), .val (.int (own_b (¬ (p1 &&& (32 : Int32)) = 0))), .val (.int (p2 &&& (3 : Int32))), .unset, .unset, .unset, .unset, .unset, .unset, .unset] [(.int ((((p2.toUInt32 >>> ((8 : Int32) &&& 31).toUInt32).toInt32) &&& (255 : Int32)).toUInt32.toUInt16.toUInt32.toInt32))])) rfl (by rw [hml]; rfl) (argsL := [(.int ((((p2.toUInt32 >>> ((8 : Int32) &&& 31).toUInt32).toInt32) &&& (255 : Int32)).toUInt32.toUInt16.toUInt32.toInt32))]) (rest := []) (lenOf pd_oCcLjavalangString rfl) rfl (by show 2 * 0 + _ ≤ _; exact Nat.le_of_eq rfl) (hb hby at_95) (fun _ _ => ⟨rfl, e0, (by decide : 0 + 2 ≤ _), (by decide : 0 + 5 ≤ _)⟩)
  dsimp only [Pt.U, Pt.locs, Pt.cells, Pt.slots] at X1 l1 y1 z1 st1 hQ1
  subst l1 y1 z1
  obtain ⟨⟨nm, rfl⟩, N1q, K1⟩ := hQ1
  have N1 := Fr.app N0 N1q
  have Z1 : n0 ≤ T1.heap.size := Nat.le_trans Z0 K1.1
  obtain ⟨T2, h2, X2, e2, E2, A2, D2, -, st2⟩ := newO X1 hx hZ hown (hw _ (List.mem_of_getElem? (i := 26) rfl)) (hw _ (List.mem_of_getElem? (i := 27) rfl)) (hw _ (List.mem_of_getElem? (i := 28) rfl)) rfl (g := (mkF m 100 #[.val (.int p1), .val (.int p2), .val (.long q1), .second, .val (.int p3), .val (.int p4), .val (.int (own_b (¬ (p1 &&& (1 : Int32)) = 0))), .val (.int (own_b (¬ (p1 &&& (2 : Int32)) = 0))), .val (.int (own_b (¬ (p1 &&& (4 : Int32)) = 0))), .val (.int (own_b (¬ (p1 &&& (8 : Int32)) = 0))), .val (.int (own_b (¬ (p1 &&& (16 : Int32)) = 0))), .val (.int (own_b (¬ (p1 &&& (32 : Int32)) = 0))), .val (.int (p2 &&& (3 : Int32))), .val (.ref nm), .unset, .unset, .unset, .unset, .unset, .unset] [])) rfl (hb hby at_100) (by decide) (by decide)
  obtain ⟨b2, g2⟩ : ∃ z, z = T1.heap.size := ⟨_, rfl⟩
  rw [← g2] at A2 D2 st2
  have Fn0 : Fld Z h2 b2 "dev/shiftwise/stats/Statistics" "algorithm" "Ljava/lang/String;" .null := D2 (Or.inl (hw _ (List.mem_of_getElem? (i := 37) rfl))) (ty := (.object "java/lang/String")) (by decide)
  have Fn1 : Fld Z h2 b2 "dev/shiftwise/stats/Statistics" "searchedBy" "Ljava/lang/String;" .null := D2 (Or.inl (hw _ (List.mem_of_getElem? (i := 39) rfl))) (ty := (.object "java/lang/String")) (by decide)
  have Fn2 : Fld Z h2 b2 "dev/shiftwise/stats/Statistics" "counted" "Z" (.int (0 : Int32)) := D2 (Or.inl (hw _ (List.mem_of_getElem? (i := 41) rfl))) (ty := .boolean) (by decide)
  have Fn3 : Fld Z h2 b2 "dev/shiftwise/stats/Statistics" "text" "J" (.long (0 : Int64)) := D2 (Or.inl (hw _ (List.mem_of_getElem? (i := 43) rfl))) (ty := .long) (by decide)
  have Fn4 : Fld Z h2 b2 "dev/shiftwise/stats/Statistics" "origin" "J" (.long (0 : Int64)) := D2 (Or.inl (hw _ (List.mem_of_getElem? (i := 45) rfl))) (ty := .long) (by decide)
  have Fn5 : Fld Z h2 b2 "dev/shiftwise/stats/Statistics" "pattern" "I" (.int (0 : Int32)) := D2 (Or.inl (hw _ (List.mem_of_getElem? (i := 47) rfl))) (ty := .int) (by decide)
  have Fn6 : Fld Z h2 b2 "dev/shiftwise/stats/Statistics" "windows" "J" (.long (0 : Int64)) := D2 (Or.inl (hw _ (List.mem_of_getElem? (i := 49) rfl))) (ty := .long) (by decide)
  have Fn7 : Fld Z h2 b2 "dev/shiftwise/stats/Statistics" "comparisons" "J" (.long (0 : Int64)) := D2 (Or.inl (hw _ (List.mem_of_getElem? (i := 51) rfl))) (ty := .long) (by decide)
  have Fn8 : Fld Z h2 b2 "dev/shiftwise/stats/Statistics" "occurrences" "J" (.long (0 : Int64)) := D2 (Or.inl (hw _ (List.mem_of_getElem? (i := 53) rfl))) (ty := .long) (by decide)
  have Fn9 : Fld Z h2 b2 "dev/shiftwise/stats/Statistics" "trace" "Ldev/shiftwise/stats/Trace;" .null := D2 (Or.inr (hw _ (List.mem_of_getElem? (i := 55) rfl))) (ty := (.object "dev/shiftwise/stats/Trace")) (by decide)
  have S2 : own_st Z h2 b2 .null 0 0 := ⟨A2, ⟨_, Fn0⟩, Fn1, Fn2, ⟨_, Fn3⟩, ⟨_, Fn4⟩, ⟨_, Fn5⟩, Fn6, ⟨_, Fn7⟩, ⟨_, Fn8⟩, Fn9⟩
  have Z2 : n0 ≤ h2.size := Nat.le_trans Z1 E2.1
  have gb : n0 ≤ b2 := Nat.le_trans Z1 (Nat.le_of_eq g2.symm)
  obtain ⟨_, _, ⟨T3, L3, k3, n3⟩, -, X3, ⟨Lc3, hQ3, l3, y3, z3⟩, st3⟩ := X2.specialBack hx (y := (⟨"dev/shiftwise/stats/Statistics", "<init>", "()V"⟩ : MethodName)) rfl hown (mvT hZ (hw _ (List.mem_of_getElem? (i := 29) rfl))) (mvT hZ (hw _ (List.mem_of_getElem? (i := 30) rfl))) (mvT hZ (hw _ (List.mem_of_getElem? (i := 31) rfl))) (by decide) (backOf (W := 1) (rm6 l Z a0 hw [] b2 h2 n0 Z2 S2 gb) hZ (hw _ (List.mem_of_getElem? (i := 31) rfl)) (hw _ (List.mem_of_getElem? (i := 28) rfl)) (by decide) (by decide)) (g := (mkF m 104 #[.val (.int p1), .val (.int p2), .val (.long q1), .second, .val (.int p3), .val (.int p4), .val (.int (own_b (¬ (p1 &&& (1 : Int32)) = 0))), .val (.int (own_b (¬ (p1 &&& (2 : Int32)) = 0))), .val (.int (own_b (¬ (p1 &&& (4 : Int32)) = 0))), .val (.int (own_b (¬ (p1 &&& (8 : Int32)) = 0))), .val (.int (own_b (¬ (p1 &&& (16 : Int32)) = 0))), .val (.int (own_b (¬ (p1 &&& (32 : Int32)) = 0))), .val (.int (p2 &&& (3 : Int32))), .val (.ref nm), .unset, .unset, .unset, .unset, .unset, .unset] [(.ref b2), (.ref b2)])) rfl (by rw [hml]; rfl) (Steps.refl _) (a := b2) (argsL := []) (rest := [(.ref b2)]) (lenOf pd_ocV rfl) rfl (by show 2 * 0 + _ ≤ _; exact Nat.le_of_eq rfl) (hb hby at_104) (fun _ _ => ⟨rfl, e2, (by decide : 3 + 0 ≤ _), (by decide : 15 + 0 ≤ _)⟩)
  dsimp only [Pt.U, Pt.locs, Pt.cells, Pt.slots] at X3 l3 y3 z3 st3 hQ3
  subst l3 y3 z3
  obtain ⟨rfl, N3q, K3, S3⟩ := hQ3
  have N3 := Fr.app N1 N3q
  have Z3 : n0 ≤ T3.heap.size := Nat.le_trans Z2 K3.1
  obtain ⟨T4, L4, X4, N4, Z4, S4, st4⟩ : ∃ (T' : State) (L' : List Loc), Stand p l e room_1 s m #[(.int p1), (.int p2), (.long q1), (.int p3), (.int p4)] below meth c T' L' 3 15 ∧ Fr n0 L' ∧ n0 ≤ T'.heap.size ∧ own_st Z T'.heap b2 .null 1 (own_up (¬ (p1 &&& (1 : Int32)) = 0) 0) ∧ ∀ t, Steps p.tables e below (T'.setTop (mkF m 122 #[.val (.int p1), .val (.int p2), .val (.long q1), .second, .val (.int p3), .val (.int p4), .val (.int (own_b (¬ (p1 &&& (1 : Int32)) = 0))), .val (.int (own_b (¬ (p1 &&& (2 : Int32)) = 0))), .val (.int (own_b (¬ (p1 &&& (4 : Int32)) = 0))), .val (.int (own_b (¬ (p1 &&& (8 : Int32)) = 0))), .val (.int (own_b (¬ (p1 &&& (16 : Int32)) = 0))), .val (.int (own_b (¬ (p1 &&& (32 : Int32)) = 0))), .val (.int (p2 &&& (3 : Int32))), .val (.ref nm), .val (.ref b2), .unset, .unset, .unset, .unset, .unset] [])) t → Steps p.tables e below (T3.setTop (mkF m 109 #[.val (.int p1), .val (.int p2), .val (.long q1), .second, .val (.int p3), .val (.int p4), .val (.int (own_b (¬ (p1 &&& (1 : Int32)) = 0))), .val (.int (own_b (¬ (p1 &&& (2 : Int32)) = 0))), .val (.int (own_b (¬ (p1 &&& (4 : Int32)) = 0))), .val (.int (own_b (¬ (p1 &&& (8 : Int32)) = 0))), .val (.int (own_b (¬ (p1 &&& (16 : Int32)) = 0))), .val (.int (own_b (¬ (p1 &&& (32 : Int32)) = 0))), .val (.int (p2 &&& (3 : Int32))), .val (.ref nm), .val (.ref b2), .unset, .unset, .unset, .unset, .unset] [])) t := by
    by_cases hc : (¬ (p1 &&& (1 : Int32)) = 0)
    · rw [show (own_up (¬ (p1 &&& (1 : Int32)) = 0) 0) = 0 + 1 from if_pos hc]
      obtain ⟨cq104, kq104, q104a, q104b, q104c⟩ := isOf hZ rfl S3.1
      obtain ⟨_, _, ⟨T104, L104, k104, n104⟩, -, X104, ⟨Lc104, hQ104, l104, y104, z104⟩, st104⟩ := X3.virtualBack hx (y := (⟨"dev/shiftwise/stats/Statistics", "window", "(JI)V"⟩ : MethodName)) (z := (⟨"dev/shiftwise/stats/Statistics", "window", "(JI)V"⟩ : MethodName)) hown (mvT hZ (hw _ (List.mem_of_getElem? (i := 56) rfl))) (mvT hZ (hw _ (List.mem_of_getElem? (i := 57) rfl))) (notFace_of_selects (args := #[]) (mvT hZ (hw _ (List.mem_of_getElem? (i := 59) rfl)))) (mvT hZ (hw _ (List.mem_of_getElem? (i := 59) rfl))) (mvT hZ (hw _ (List.mem_of_getElem? (i := 58) rfl))) (by decide) (backOf (W := 0) (rm8 l Z a0 hw [] b2 q1 p3 .null 1 0 T3.heap n0 Z3 S3 gb) hZ (hw _ (List.mem_of_getElem? (i := 60) rfl)) (hw _ (List.mem_of_getElem? (i := 28) rfl)) (by decide) (by decide)) q104a q104c (g := (mkF m 119 #[.val (.int p1), .val (.int p2), .val (.long q1), .second, .val (.int p3), .val (.int p4), .val (.int (own_b (¬ (p1 &&& (1 : Int32)) = 0))), .val (.int (own_b (¬ (p1 &&& (2 : Int32)) = 0))), .val (.int (own_b (¬ (p1 &&& (4 : Int32)) = 0))), .val (.int (own_b (¬ (p1 &&& (8 : Int32)) = 0))), .val (.int (own_b (¬ (p1 &&& (16 : Int32)) = 0))), .val (.int (own_b (¬ (p1 &&& (32 : Int32)) = 0))), .val (.int (p2 &&& (3 : Int32))), .val (.ref nm), .val (.ref b2), .unset, .unset, .unset, .unset, .unset] [(.int p3), (.long q1), (.ref b2)])) rfl (by rw [hml]; rfl) (Steps.refl _) (argsL := [(.long q1), (.int p3)]) (rest := []) (lenOf pd_oJIcV rfl) rfl (by show 2 * 0 + _ ≤ _; exact Nat.le_of_eq rfl) (hb hby at_119) (fun _ _ => ⟨rfl, rfl, (by decide : 3 + 0 ≤ _), (by decide : 15 + 0 ≤ _)⟩)
      dsimp only [Pt.U, Pt.locs, Pt.cells, Pt.slots] at X104 l104 y104 z104 st104 hQ104
      subst l104 y104 z104
      obtain ⟨rfl, N104q, K104, S104⟩ := hQ104
      exact ⟨T104, _, X104, Fr.app N3 N104q, Nat.le_trans Z3 K104.1, S104, fun t k => by
          show Steps p.tables e below (T3.setTop (mkF m 109 #[.val (.int p1), .val (.int p2), .val (.long q1), .second, .val (.int p3), .val (.int p4), .val (.int (own_b (¬ (p1 &&& (1 : Int32)) = 0))), .val (.int (own_b (¬ (p1 &&& (2 : Int32)) = 0))), .val (.int (own_b (¬ (p1 &&& (4 : Int32)) = 0))), .val (.int (own_b (¬ (p1 &&& (8 : Int32)) = 0))), .val (.int (own_b (¬ (p1 &&& (16 : Int32)) = 0))), .val (.int (own_b (¬ (p1 &&& (32 : Int32)) = 0))), .val (.int (p2 &&& (3 : Int32))), .val (.ref nm), .val (.ref b2), .unset, .unset, .unset, .unset, .unset] [])) _
          refine XS.iload X3.here hx rfl (hb hby at_109) rfl ?_
          show Steps p.tables e below (T3.setTop (mkF m 111 #[.val (.int p1), .val (.int p2), .val (.long q1), .second, .val (.int p3), .val (.int p4), .val (.int (own_b (¬ (p1 &&& (1 : Int32)) = 0))), .val (.int (own_b (¬ (p1 &&& (2 : Int32)) = 0))), .val (.int (own_b (¬ (p1 &&& (4 : Int32)) = 0))), .val (.int (own_b (¬ (p1 &&& (8 : Int32)) = 0))), .val (.int (own_b (¬ (p1 &&& (16 : Int32)) = 0))), .val (.int (own_b (¬ (p1 &&& (32 : Int32)) = 0))), .val (.int (p2 &&& (3 : Int32))), .val (.ref nm), .val (.ref b2), .unset, .unset, .unset, .unset, .unset] [(.int (own_b (¬ (p1 &&& (1 : Int32)) = 0)))])) _
          refine XS.ifNo X3.here hx rfl (hb hby at_111) rfl ((if0 _ _).trans (feq (by rw [own_bt hc]; decide)).1) ?_
          show Steps p.tables e below (T3.setTop (mkF m 114 #[.val (.int p1), .val (.int p2), .val (.long q1), .second, .val (.int p3), .val (.int p4), .val (.int (own_b (¬ (p1 &&& (1 : Int32)) = 0))), .val (.int (own_b (¬ (p1 &&& (2 : Int32)) = 0))), .val (.int (own_b (¬ (p1 &&& (4 : Int32)) = 0))), .val (.int (own_b (¬ (p1 &&& (8 : Int32)) = 0))), .val (.int (own_b (¬ (p1 &&& (16 : Int32)) = 0))), .val (.int (own_b (¬ (p1 &&& (32 : Int32)) = 0))), .val (.int (p2 &&& (3 : Int32))), .val (.ref nm), .val (.ref b2), .unset, .unset, .unset, .unset, .unset] [])) _
          refine XS.aload X3.here hx rfl (hb hby at_114) rfl rfl ?_
          show Steps p.tables e below (T3.setTop (mkF m 116 #[.val (.int p1), .val (.int p2), .val (.long q1), .second, .val (.int p3), .val (.int p4), .val (.int (own_b (¬ (p1 &&& (1 : Int32)) = 0))), .val (.int (own_b (¬ (p1 &&& (2 : Int32)) = 0))), .val (.int (own_b (¬ (p1 &&& (4 : Int32)) = 0))), .val (.int (own_b (¬ (p1 &&& (8 : Int32)) = 0))), .val (.int (own_b (¬ (p1 &&& (16 : Int32)) = 0))), .val (.int (own_b (¬ (p1 &&& (32 : Int32)) = 0))), .val (.int (p2 &&& (3 : Int32))), .val (.ref nm), .val (.ref b2), .unset, .unset, .unset, .unset, .unset] [(.ref b2)])) _
          refine XS.lloadN X3.here hx rfl (hb hby at_116) rfl ?_
          show Steps p.tables e below (T3.setTop (mkF m 117 #[.val (.int p1), .val (.int p2), .val (.long q1), .second, .val (.int p3), .val (.int p4), .val (.int (own_b (¬ (p1 &&& (1 : Int32)) = 0))), .val (.int (own_b (¬ (p1 &&& (2 : Int32)) = 0))), .val (.int (own_b (¬ (p1 &&& (4 : Int32)) = 0))), .val (.int (own_b (¬ (p1 &&& (8 : Int32)) = 0))), .val (.int (own_b (¬ (p1 &&& (16 : Int32)) = 0))), .val (.int (own_b (¬ (p1 &&& (32 : Int32)) = 0))), .val (.int (p2 &&& (3 : Int32))), .val (.ref nm), .val (.ref b2), .unset, .unset, .unset, .unset, .unset] [(.long q1), (.ref b2)])) _
          refine XS.iload X3.here hx rfl (hb hby at_117) rfl ?_
          show Steps p.tables e below (T3.setTop (mkF m 119 #[.val (.int p1), .val (.int p2), .val (.long q1), .second, .val (.int p3), .val (.int p4), .val (.int (own_b (¬ (p1 &&& (1 : Int32)) = 0))), .val (.int (own_b (¬ (p1 &&& (2 : Int32)) = 0))), .val (.int (own_b (¬ (p1 &&& (4 : Int32)) = 0))), .val (.int (own_b (¬ (p1 &&& (8 : Int32)) = 0))), .val (.int (own_b (¬ (p1 &&& (16 : Int32)) = 0))), .val (.int (own_b (¬ (p1 &&& (32 : Int32)) = 0))), .val (.int (p2 &&& (3 : Int32))), .val (.ref nm), .val (.ref b2), .unset, .unset, .unset, .unset, .unset] [(.int p3), (.long q1), (.ref b2)])) _
          refine st104.trans ?_
          exact k⟩
    · rw [show (own_up (¬ (p1 &&& (1 : Int32)) = 0) 0) = 0 from if_neg hc]
      exact ⟨T3, _, X3, N3, Z3, S3, fun t k => by
          show Steps p.tables e below (T3.setTop (mkF m 109 #[.val (.int p1), .val (.int p2), .val (.long q1), .second, .val (.int p3), .val (.int p4), .val (.int (own_b (¬ (p1 &&& (1 : Int32)) = 0))), .val (.int (own_b (¬ (p1 &&& (2 : Int32)) = 0))), .val (.int (own_b (¬ (p1 &&& (4 : Int32)) = 0))), .val (.int (own_b (¬ (p1 &&& (8 : Int32)) = 0))), .val (.int (own_b (¬ (p1 &&& (16 : Int32)) = 0))), .val (.int (own_b (¬ (p1 &&& (32 : Int32)) = 0))), .val (.int (p2 &&& (3 : Int32))), .val (.ref nm), .val (.ref b2), .unset, .unset, .unset, .unset, .unset] [])) _
          refine XS.iload X3.here hx rfl (hb hby at_109) rfl ?_
          show Steps p.tables e below (T3.setTop (mkF m 111 #[.val (.int p1), .val (.int p2), .val (.long q1), .second, .val (.int p3), .val (.int p4), .val (.int (own_b (¬ (p1 &&& (1 : Int32)) = 0))), .val (.int (own_b (¬ (p1 &&& (2 : Int32)) = 0))), .val (.int (own_b (¬ (p1 &&& (4 : Int32)) = 0))), .val (.int (own_b (¬ (p1 &&& (8 : Int32)) = 0))), .val (.int (own_b (¬ (p1 &&& (16 : Int32)) = 0))), .val (.int (own_b (¬ (p1 &&& (32 : Int32)) = 0))), .val (.int (p2 &&& (3 : Int32))), .val (.ref nm), .val (.ref b2), .unset, .unset, .unset, .unset, .unset] [(.int (own_b (¬ (p1 &&& (1 : Int32)) = 0)))])) _
          refine XS.ifYes X3.here hx rfl (pc0 := 111) (pc' := 122) rfl (hb hby at_111) rfl ((if0 _ _).trans (teq (own_bf hc)).1) (by decide) (by decide) ?_
          exact k⟩
  obtain ⟨T5, L5, X5, N5, Z5, S5, st5⟩ : ∃ (T' : State) (L' : List Loc), Stand p l e room_1 s m #[(.int p1), (.int p2), (.long q1), (.int p3), (.int p4)] below meth c T' L' 3 15 ∧ Fr n0 L' ∧ n0 ≤ T'.heap.size ∧ own_st Z T'.heap b2 .null 1 (own_zr (¬ (p1 &&& (2 : Int32)) = 0) (own_up (¬ (p1 &&& (1 : Int32)) = 0) 0)) ∧ ∀ t, Steps p.tables e below (T'.setTop (mkF m 137 #[.val (.int p1), .val (.int p2), .val (.long q1), .second, .val (.int p3), .val (.int p4), .val (.int (own_b (¬ (p1 &&& (1 : Int32)) = 0))), .val (.int (own_b (¬ (p1 &&& (2 : Int32)) = 0))), .val (.int (own_b (¬ (p1 &&& (4 : Int32)) = 0))), .val (.int (own_b (¬ (p1 &&& (8 : Int32)) = 0))), .val (.int (own_b (¬ (p1 &&& (16 : Int32)) = 0))), .val (.int (own_b (¬ (p1 &&& (32 : Int32)) = 0))), .val (.int (p2 &&& (3 : Int32))), .val (.ref nm), .val (.ref b2), .unset, .unset, .unset, .unset, .unset] [])) t → Steps p.tables e below (T4.setTop (mkF m 122 #[.val (.int p1), .val (.int p2), .val (.long q1), .second, .val (.int p3), .val (.int p4), .val (.int (own_b (¬ (p1 &&& (1 : Int32)) = 0))), .val (.int (own_b (¬ (p1 &&& (2 : Int32)) = 0))), .val (.int (own_b (¬ (p1 &&& (4 : Int32)) = 0))), .val (.int (own_b (¬ (p1 &&& (8 : Int32)) = 0))), .val (.int (own_b (¬ (p1 &&& (16 : Int32)) = 0))), .val (.int (own_b (¬ (p1 &&& (32 : Int32)) = 0))), .val (.int (p2 &&& (3 : Int32))), .val (.ref nm), .val (.ref b2), .unset, .unset, .unset, .unset, .unset] [])) t := by
    by_cases hc : (¬ (p1 &&& (2 : Int32)) = 0)
    · rw [show (own_zr (¬ (p1 &&& (2 : Int32)) = 0) (own_up (¬ (p1 &&& (1 : Int32)) = 0) 0)) = 0 from if_pos hc]
      obtain ⟨cq105, kq105, q105a, q105b, q105c⟩ := isOf hZ rfl S4.1
      obtain ⟨_, _, ⟨T105, L105, k105, n105⟩, -, X105, ⟨Lc105, hQ105, l105, y105, z105⟩, st105⟩ := X4.virtualBack hx (y := (⟨"dev/shiftwise/stats/Statistics", "begin", "(Ljava/lang/String;JI)V"⟩ : MethodName)) (z := (⟨"dev/shiftwise/stats/Statistics", "begin", "(Ljava/lang/String;JI)V"⟩ : MethodName)) hown (mvT hZ (hw _ (List.mem_of_getElem? (i := 83) rfl))) (mvT hZ (hw _ (List.mem_of_getElem? (i := 84) rfl))) (notFace_of_selects (args := #[]) (mvT hZ (hw _ (List.mem_of_getElem? (i := 86) rfl)))) (mvT hZ (hw _ (List.mem_of_getElem? (i := 86) rfl))) (mvT hZ (hw _ (List.mem_of_getElem? (i := 85) rfl))) (by decide) (backOf (W := 0) (rm13 l Z a0 hw [] b2 nm q1 p4 .null 1 (own_up (¬ (p1 &&& (1 : Int32)) = 0) 0) T4.heap n0 Z4 S4 gb) hZ (hw _ (List.mem_of_getElem? (i := 87) rfl)) (hw _ (List.mem_of_getElem? (i := 28) rfl)) (by decide) (by decide)) q105a q105c (g := (mkF m 134 #[.val (.int p1), .val (.int p2), .val (.long q1), .second, .val (.int p3), .val (.int p4), .val (.int (own_b (¬ (p1 &&& (1 : Int32)) = 0))), .val (.int (own_b (¬ (p1 &&& (2 : Int32)) = 0))), .val (.int (own_b (¬ (p1 &&& (4 : Int32)) = 0))), .val (.int (own_b (¬ (p1 &&& (8 : Int32)) = 0))), .val (.int (own_b (¬ (p1 &&& (16 : Int32)) = 0))), .val (.int (own_b (¬ (p1 &&& (32 : Int32)) = 0))), .val (.int (p2 &&& (3 : Int32))), .val (.ref nm), .val (.ref b2), .unset, .unset, .unset, .unset, .unset] [(.int p4), (.long q1), (.ref nm), (.ref b2)])) rfl (by rw [hml]; rfl) (Steps.refl _) (argsL := [(.ref nm), (.long q1), (.int p4)]) (rest := []) (lenOf pd_oLjavalangStringJIcV rfl) rfl (by show 2 * 0 + _ ≤ _; exact Nat.le_of_eq rfl) (hb hby at_134) (fun _ _ => ⟨rfl, rfl, (by decide : 3 + 0 ≤ _), (by decide : 15 + 0 ≤ _)⟩)
      dsimp only [Pt.U, Pt.locs, Pt.cells, Pt.slots] at X105 l105 y105 z105 st105 hQ105
      subst l105 y105 z105
      obtain ⟨rfl, N105q, K105, S105⟩ := hQ105
      exact ⟨T105, _, X105, Fr.app N4 N105q, Nat.le_trans Z4 K105.1, S105, fun t k => by
          show Steps p.tables e below (T4.setTop (mkF m 122 #[.val (.int p1), .val (.int p2), .val (.long q1), .second, .val (.int p3), .val (.int p4), .val (.int (own_b (¬ (p1 &&& (1 : Int32)) = 0))), .val (.int (own_b (¬ (p1 &&& (2 : Int32)) = 0))), .val (.int (own_b (¬ (p1 &&& (4 : Int32)) = 0))), .val (.int (own_b (¬ (p1 &&& (8 : Int32)) = 0))), .val (.int (own_b (¬ (p1 &&& (16 : Int32)) = 0))), .val (.int (own_b (¬ (p1 &&& (32 : Int32)) = 0))), .val (.int (p2 &&& (3 : Int32))), .val (.ref nm), .val (.ref b2), .unset, .unset, .unset, .unset, .unset] [])) _
          refine XS.iload X4.here hx rfl (hb hby at_122) rfl ?_
          show Steps p.tables e below (T4.setTop (mkF m 124 #[.val (.int p1), .val (.int p2), .val (.long q1), .second, .val (.int p3), .val (.int p4), .val (.int (own_b (¬ (p1 &&& (1 : Int32)) = 0))), .val (.int (own_b (¬ (p1 &&& (2 : Int32)) = 0))), .val (.int (own_b (¬ (p1 &&& (4 : Int32)) = 0))), .val (.int (own_b (¬ (p1 &&& (8 : Int32)) = 0))), .val (.int (own_b (¬ (p1 &&& (16 : Int32)) = 0))), .val (.int (own_b (¬ (p1 &&& (32 : Int32)) = 0))), .val (.int (p2 &&& (3 : Int32))), .val (.ref nm), .val (.ref b2), .unset, .unset, .unset, .unset, .unset] [(.int (own_b (¬ (p1 &&& (2 : Int32)) = 0)))])) _
          refine XS.ifNo X4.here hx rfl (hb hby at_124) rfl ((if0 _ _).trans (feq (by rw [own_bt hc]; decide)).1) ?_
          show Steps p.tables e below (T4.setTop (mkF m 127 #[.val (.int p1), .val (.int p2), .val (.long q1), .second, .val (.int p3), .val (.int p4), .val (.int (own_b (¬ (p1 &&& (1 : Int32)) = 0))), .val (.int (own_b (¬ (p1 &&& (2 : Int32)) = 0))), .val (.int (own_b (¬ (p1 &&& (4 : Int32)) = 0))), .val (.int (own_b (¬ (p1 &&& (8 : Int32)) = 0))), .val (.int (own_b (¬ (p1 &&& (16 : Int32)) = 0))), .val (.int (own_b (¬ (p1 &&& (32 : Int32)) = 0))), .val (.int (p2 &&& (3 : Int32))), .val (.ref nm), .val (.ref b2), .unset, .unset, .unset, .unset, .unset] [])) _
          refine XS.aload X4.here hx rfl (hb hby at_127) rfl rfl ?_
          show Steps p.tables e below (T4.setTop (mkF m 129 #[.val (.int p1), .val (.int p2), .val (.long q1), .second, .val (.int p3), .val (.int p4), .val (.int (own_b (¬ (p1 &&& (1 : Int32)) = 0))), .val (.int (own_b (¬ (p1 &&& (2 : Int32)) = 0))), .val (.int (own_b (¬ (p1 &&& (4 : Int32)) = 0))), .val (.int (own_b (¬ (p1 &&& (8 : Int32)) = 0))), .val (.int (own_b (¬ (p1 &&& (16 : Int32)) = 0))), .val (.int (own_b (¬ (p1 &&& (32 : Int32)) = 0))), .val (.int (p2 &&& (3 : Int32))), .val (.ref nm), .val (.ref b2), .unset, .unset, .unset, .unset, .unset] [(.ref b2)])) _
          refine XS.aload X4.here hx rfl (hb hby at_129) rfl rfl ?_
          show Steps p.tables e below (T4.setTop (mkF m 131 #[.val (.int p1), .val (.int p2), .val (.long q1), .second, .val (.int p3), .val (.int p4), .val (.int (own_b (¬ (p1 &&& (1 : Int32)) = 0))), .val (.int (own_b (¬ (p1 &&& (2 : Int32)) = 0))), .val (.int (own_b (¬ (p1 &&& (4 : Int32)) = 0))), .val (.int (own_b (¬ (p1 &&& (8 : Int32)) = 0))), .val (.int (own_b (¬ (p1 &&& (16 : Int32)) = 0))), .val (.int (own_b (¬ (p1 &&& (32 : Int32)) = 0))), .val (.int (p2 &&& (3 : Int32))), .val (.ref nm), .val (.ref b2), .unset, .unset, .unset, .unset, .unset] [(.ref nm), (.ref b2)])) _
          refine XS.lloadN X4.here hx rfl (hb hby at_131) rfl ?_
          show Steps p.tables e below (T4.setTop (mkF m 132 #[.val (.int p1), .val (.int p2), .val (.long q1), .second, .val (.int p3), .val (.int p4), .val (.int (own_b (¬ (p1 &&& (1 : Int32)) = 0))), .val (.int (own_b (¬ (p1 &&& (2 : Int32)) = 0))), .val (.int (own_b (¬ (p1 &&& (4 : Int32)) = 0))), .val (.int (own_b (¬ (p1 &&& (8 : Int32)) = 0))), .val (.int (own_b (¬ (p1 &&& (16 : Int32)) = 0))), .val (.int (own_b (¬ (p1 &&& (32 : Int32)) = 0))), .val (.int (p2 &&& (3 : Int32))), .val (.ref nm), .val (.ref b2), .unset, .unset, .unset, .unset, .unset] [(.long q1), (.ref nm), (.ref b2)])) _
          refine XS.iload X4.here hx rfl (hb hby at_132) rfl ?_
          show Steps p.tables e below (T4.setTop (mkF m 134 #[.val (.int p1), .val (.int p2), .val (.long q1), .second, .val (.int p3), .val (.int p4), .val (.int (own_b (¬ (p1 &&& (1 : Int32)) = 0))), .val (.int (own_b (¬ (p1 &&& (2 : Int32)) = 0))), .val (.int (own_b (¬ (p1 &&& (4 : Int32)) = 0))), .val (.int (own_b (¬ (p1 &&& (8 : Int32)) = 0))), .val (.int (own_b (¬ (p1 &&& (16 : Int32)) = 0))), .val (.int (own_b (¬ (p1 &&& (32 : Int32)) = 0))), .val (.int (p2 &&& (3 : Int32))), .val (.ref nm), .val (.ref b2), .unset, .unset, .unset, .unset, .unset] [(.int p4), (.long q1), (.ref nm), (.ref b2)])) _
          refine st105.trans ?_
          exact k⟩
    · rw [show (own_zr (¬ (p1 &&& (2 : Int32)) = 0) (own_up (¬ (p1 &&& (1 : Int32)) = 0) 0)) = (own_up (¬ (p1 &&& (1 : Int32)) = 0) 0) from if_neg hc]
      exact ⟨T4, _, X4, N4, Z4, S4, fun t k => by
          show Steps p.tables e below (T4.setTop (mkF m 122 #[.val (.int p1), .val (.int p2), .val (.long q1), .second, .val (.int p3), .val (.int p4), .val (.int (own_b (¬ (p1 &&& (1 : Int32)) = 0))), .val (.int (own_b (¬ (p1 &&& (2 : Int32)) = 0))), .val (.int (own_b (¬ (p1 &&& (4 : Int32)) = 0))), .val (.int (own_b (¬ (p1 &&& (8 : Int32)) = 0))), .val (.int (own_b (¬ (p1 &&& (16 : Int32)) = 0))), .val (.int (own_b (¬ (p1 &&& (32 : Int32)) = 0))), .val (.int (p2 &&& (3 : Int32))), .val (.ref nm), .val (.ref b2), .unset, .unset, .unset, .unset, .unset] [])) _
          refine XS.iload X4.here hx rfl (hb hby at_122) rfl ?_
          show Steps p.tables e below (T4.setTop (mkF m 124 #[.val (.int p1), .val (.int p2), .val (.long q1), .second, .val (.int p3), .val (.int p4), .val (.int (own_b (¬ (p1 &&& (1 : Int32)) = 0))), .val (.int (own_b (¬ (p1 &&& (2 : Int32)) = 0))), .val (.int (own_b (¬ (p1 &&& (4 : Int32)) = 0))), .val (.int (own_b (¬ (p1 &&& (8 : Int32)) = 0))), .val (.int (own_b (¬ (p1 &&& (16 : Int32)) = 0))), .val (.int (own_b (¬ (p1 &&& (32 : Int32)) = 0))), .val (.int (p2 &&& (3 : Int32))), .val (.ref nm), .val (.ref b2), .unset, .unset, .unset, .unset, .unset] [(.int (own_b (¬ (p1 &&& (2 : Int32)) = 0)))])) _
          refine XS.ifYes X4.here hx rfl (pc0 := 124) (pc' := 137) rfl (hb hby at_124) rfl ((if0 _ _).trans (teq (own_bf hc)).1) (by decide) (by decide) ?_
          exact k⟩
  obtain ⟨T6, L6, X6, N6, Z6, S6, st6⟩ : ∃ (T' : State) (L' : List Loc), Stand p l e room_1 s m #[(.int p1), (.int p2), (.long q1), (.int p3), (.int p4)] below meth c T' L' 3 15 ∧ Fr n0 L' ∧ n0 ≤ T'.heap.size ∧ own_st Z T'.heap b2 .null 1 (own_up (¬ (p2 &&& (3 : Int32)) < 1) (own_zr (¬ (p1 &&& (2 : Int32)) = 0) (own_up (¬ (p1 &&& (1 : Int32)) = 0) 0))) ∧ ∀ t, Steps p.tables e below (T'.setTop (mkF m 151 #[.val (.int p1), .val (.int p2), .val (.long q1), .second, .val (.int p3), .val (.int p4), .val (.int (own_b (¬ (p1 &&& (1 : Int32)) = 0))), .val (.int (own_b (¬ (p1 &&& (2 : Int32)) = 0))), .val (.int (own_b (¬ (p1 &&& (4 : Int32)) = 0))), .val (.int (own_b (¬ (p1 &&& (8 : Int32)) = 0))), .val (.int (own_b (¬ (p1 &&& (16 : Int32)) = 0))), .val (.int (own_b (¬ (p1 &&& (32 : Int32)) = 0))), .val (.int (p2 &&& (3 : Int32))), .val (.ref nm), .val (.ref b2), .unset, .unset, .unset, .unset, .unset] [])) t → Steps p.tables e below (T5.setTop (mkF m 137 #[.val (.int p1), .val (.int p2), .val (.long q1), .second, .val (.int p3), .val (.int p4), .val (.int (own_b (¬ (p1 &&& (1 : Int32)) = 0))), .val (.int (own_b (¬ (p1 &&& (2 : Int32)) = 0))), .val (.int (own_b (¬ (p1 &&& (4 : Int32)) = 0))), .val (.int (own_b (¬ (p1 &&& (8 : Int32)) = 0))), .val (.int (own_b (¬ (p1 &&& (16 : Int32)) = 0))), .val (.int (own_b (¬ (p1 &&& (32 : Int32)) = 0))), .val (.int (p2 &&& (3 : Int32))), .val (.ref nm), .val (.ref b2), .unset, .unset, .unset, .unset, .unset] [])) t := by
    by_cases hc : (p2 &&& (3 : Int32)) < (1 : Int32)
    · rw [show (own_up (¬ (p2 &&& (3 : Int32)) < 1) (own_zr (¬ (p1 &&& (2 : Int32)) = 0) (own_up (¬ (p1 &&& (1 : Int32)) = 0) 0))) = (own_zr (¬ (p1 &&& (2 : Int32)) = 0) (own_up (¬ (p1 &&& (1 : Int32)) = 0) 0)) from if_neg (fun q => q hc)]
      exact ⟨T5, _, X5, N5, Z5, S5, fun t k => by
          show Steps p.tables e below (T5.setTop (mkF m 137 #[.val (.int p1), .val (.int p2), .val (.long q1), .second, .val (.int p3), .val (.int p4), .val (.int (own_b (¬ (p1 &&& (1 : Int32)) = 0))), .val (.int (own_b (¬ (p1 &&& (2 : Int32)) = 0))), .val (.int (own_b (¬ (p1 &&& (4 : Int32)) = 0))), .val (.int (own_b (¬ (p1 &&& (8 : Int32)) = 0))), .val (.int (own_b (¬ (p1 &&& (16 : Int32)) = 0))), .val (.int (own_b (¬ (p1 &&& (32 : Int32)) = 0))), .val (.int (p2 &&& (3 : Int32))), .val (.ref nm), .val (.ref b2), .unset, .unset, .unset, .unset, .unset] [])) _
          refine XS.iload X5.here hx rfl (hb hby at_137) rfl ?_
          show Steps p.tables e below (T5.setTop (mkF m 139 #[.val (.int p1), .val (.int p2), .val (.long q1), .second, .val (.int p3), .val (.int p4), .val (.int (own_b (¬ (p1 &&& (1 : Int32)) = 0))), .val (.int (own_b (¬ (p1 &&& (2 : Int32)) = 0))), .val (.int (own_b (¬ (p1 &&& (4 : Int32)) = 0))), .val (.int (own_b (¬ (p1 &&& (8 : Int32)) = 0))), .val (.int (own_b (¬ (p1 &&& (16 : Int32)) = 0))), .val (.int (own_b (¬ (p1 &&& (32 : Int32)) = 0))), .val (.int (p2 &&& (3 : Int32))), .val (.ref nm), .val (.ref b2), .unset, .unset, .unset, .unset, .unset] [(.int (p2 &&& (3 : Int32)))])) _
          refine XS.iconst X5.here hx rfl (hb hby at_139) ?_
          show Steps p.tables e below (T5.setTop (mkF m 140 #[.val (.int p1), .val (.int p2), .val (.long q1), .second, .val (.int p3), .val (.int p4), .val (.int (own_b (¬ (p1 &&& (1 : Int32)) = 0))), .val (.int (own_b (¬ (p1 &&& (2 : Int32)) = 0))), .val (.int (own_b (¬ (p1 &&& (4 : Int32)) = 0))), .val (.int (own_b (¬ (p1 &&& (8 : Int32)) = 0))), .val (.int (own_b (¬ (p1 &&& (16 : Int32)) = 0))), .val (.int (own_b (¬ (p1 &&& (32 : Int32)) = 0))), .val (.int (p2 &&& (3 : Int32))), .val (.ref nm), .val (.ref b2), .unset, .unset, .unset, .unset, .unset] [(.int (1 : Int32)), (.int (p2 &&& (3 : Int32)))])) _
          refine XS.icmpYes X5.here hx rfl (pc0 := 140) (pc' := 151) rfl (hb hby at_140) rfl (tlt hc).1 (by decide) (by decide) ?_
          exact k⟩
    · rw [show (own_up (¬ (p2 &&& (3 : Int32)) < 1) (own_zr (¬ (p1 &&& (2 : Int32)) = 0) (own_up (¬ (p1 &&& (1 : Int32)) = 0) 0))) = (own_zr (¬ (p1 &&& (2 : Int32)) = 0) (own_up (¬ (p1 &&& (1 : Int32)) = 0) 0)) + 1 from if_pos hc]
      obtain ⟨cq106, kq106, q106a, q106b, q106c⟩ := isOf hZ rfl S5.1
      obtain ⟨_, _, ⟨T106, L106, k106, n106⟩, -, X106, ⟨Lc106, hQ106, l106, y106, z106⟩, st106⟩ := X5.virtualBack hx (y := (⟨"dev/shiftwise/stats/Statistics", "window", "(JI)V"⟩ : MethodName)) (z := (⟨"dev/shiftwise/stats/Statistics", "window", "(JI)V"⟩ : MethodName)) hown (mvT hZ (hw _ (List.mem_of_getElem? (i := 56) rfl))) (mvT hZ (hw _ (List.mem_of_getElem? (i := 57) rfl))) (notFace_of_selects (args := #[]) (mvT hZ (hw _ (List.mem_of_getElem? (i := 59) rfl)))) (mvT hZ (hw _ (List.mem_of_getElem? (i := 59) rfl))) (mvT hZ (hw _ (List.mem_of_getElem? (i := 58) rfl))) (by decide) (backOf (W := 0) (rm8 l Z a0 hw [] b2 q1 p3 .null 1 (own_zr (¬ (p1 &&& (2 : Int32)) = 0) (own_up (¬ (p1 &&& (1 : Int32)) = 0) 0)) T5.heap n0 Z5 S5 gb) hZ (hw _ (List.mem_of_getElem? (i := 60) rfl)) (hw _ (List.mem_of_getElem? (i := 28) rfl)) (by decide) (by decide)) q106a q106c (g := (mkF m 148 #[.val (.int p1), .val (.int p2), .val (.long q1), .second, .val (.int p3), .val (.int p4), .val (.int (own_b (¬ (p1 &&& (1 : Int32)) = 0))), .val (.int (own_b (¬ (p1 &&& (2 : Int32)) = 0))), .val (.int (own_b (¬ (p1 &&& (4 : Int32)) = 0))), .val (.int (own_b (¬ (p1 &&& (8 : Int32)) = 0))), .val (.int (own_b (¬ (p1 &&& (16 : Int32)) = 0))), .val (.int (own_b (¬ (p1 &&& (32 : Int32)) = 0))), .val (.int (p2 &&& (3 : Int32))), .val (.ref nm), .val (.ref b2), .unset, .unset, .unset, .unset, .unset] [(.int p3), (.long q1), (.ref b2)])) rfl (by rw [hml]; rfl) (Steps.refl _) (argsL := [(.long q1), (.int p3)]) (rest := []) (lenOf pd_oJIcV rfl) rfl (by show 2 * 0 + _ ≤ _; exact Nat.le_of_eq rfl) (hb hby at_148) (fun _ _ => ⟨rfl, rfl, (by decide : 3 + 0 ≤ _), (by decide : 15 + 0 ≤ _)⟩)
      dsimp only [Pt.U, Pt.locs, Pt.cells, Pt.slots] at X106 l106 y106 z106 st106 hQ106
      subst l106 y106 z106
      obtain ⟨rfl, N106q, K106, S106⟩ := hQ106
      exact ⟨T106, _, X106, Fr.app N5 N106q, Nat.le_trans Z5 K106.1, S106, fun t k => by
          show Steps p.tables e below (T5.setTop (mkF m 137 #[.val (.int p1), .val (.int p2), .val (.long q1), .second, .val (.int p3), .val (.int p4), .val (.int (own_b (¬ (p1 &&& (1 : Int32)) = 0))), .val (.int (own_b (¬ (p1 &&& (2 : Int32)) = 0))), .val (.int (own_b (¬ (p1 &&& (4 : Int32)) = 0))), .val (.int (own_b (¬ (p1 &&& (8 : Int32)) = 0))), .val (.int (own_b (¬ (p1 &&& (16 : Int32)) = 0))), .val (.int (own_b (¬ (p1 &&& (32 : Int32)) = 0))), .val (.int (p2 &&& (3 : Int32))), .val (.ref nm), .val (.ref b2), .unset, .unset, .unset, .unset, .unset] [])) _
          refine XS.iload X5.here hx rfl (hb hby at_137) rfl ?_
          show Steps p.tables e below (T5.setTop (mkF m 139 #[.val (.int p1), .val (.int p2), .val (.long q1), .second, .val (.int p3), .val (.int p4), .val (.int (own_b (¬ (p1 &&& (1 : Int32)) = 0))), .val (.int (own_b (¬ (p1 &&& (2 : Int32)) = 0))), .val (.int (own_b (¬ (p1 &&& (4 : Int32)) = 0))), .val (.int (own_b (¬ (p1 &&& (8 : Int32)) = 0))), .val (.int (own_b (¬ (p1 &&& (16 : Int32)) = 0))), .val (.int (own_b (¬ (p1 &&& (32 : Int32)) = 0))), .val (.int (p2 &&& (3 : Int32))), .val (.ref nm), .val (.ref b2), .unset, .unset, .unset, .unset, .unset] [(.int (p2 &&& (3 : Int32)))])) _
          refine XS.iconst X5.here hx rfl (hb hby at_139) ?_
          show Steps p.tables e below (T5.setTop (mkF m 140 #[.val (.int p1), .val (.int p2), .val (.long q1), .second, .val (.int p3), .val (.int p4), .val (.int (own_b (¬ (p1 &&& (1 : Int32)) = 0))), .val (.int (own_b (¬ (p1 &&& (2 : Int32)) = 0))), .val (.int (own_b (¬ (p1 &&& (4 : Int32)) = 0))), .val (.int (own_b (¬ (p1 &&& (8 : Int32)) = 0))), .val (.int (own_b (¬ (p1 &&& (16 : Int32)) = 0))), .val (.int (own_b (¬ (p1 &&& (32 : Int32)) = 0))), .val (.int (p2 &&& (3 : Int32))), .val (.ref nm), .val (.ref b2), .unset, .unset, .unset, .unset, .unset] [(.int (1 : Int32)), (.int (p2 &&& (3 : Int32)))])) _
          refine XS.icmpNo X5.here hx rfl (hb hby at_140) rfl (flt hc).1 ?_
          show Steps p.tables e below (T5.setTop (mkF m 143 #[.val (.int p1), .val (.int p2), .val (.long q1), .second, .val (.int p3), .val (.int p4), .val (.int (own_b (¬ (p1 &&& (1 : Int32)) = 0))), .val (.int (own_b (¬ (p1 &&& (2 : Int32)) = 0))), .val (.int (own_b (¬ (p1 &&& (4 : Int32)) = 0))), .val (.int (own_b (¬ (p1 &&& (8 : Int32)) = 0))), .val (.int (own_b (¬ (p1 &&& (16 : Int32)) = 0))), .val (.int (own_b (¬ (p1 &&& (32 : Int32)) = 0))), .val (.int (p2 &&& (3 : Int32))), .val (.ref nm), .val (.ref b2), .unset, .unset, .unset, .unset, .unset] [])) _
          refine XS.aload X5.here hx rfl (hb hby at_143) rfl rfl ?_
          show Steps p.tables e below (T5.setTop (mkF m 145 #[.val (.int p1), .val (.int p2), .val (.long q1), .second, .val (.int p3), .val (.int p4), .val (.int (own_b (¬ (p1 &&& (1 : Int32)) = 0))), .val (.int (own_b (¬ (p1 &&& (2 : Int32)) = 0))), .val (.int (own_b (¬ (p1 &&& (4 : Int32)) = 0))), .val (.int (own_b (¬ (p1 &&& (8 : Int32)) = 0))), .val (.int (own_b (¬ (p1 &&& (16 : Int32)) = 0))), .val (.int (own_b (¬ (p1 &&& (32 : Int32)) = 0))), .val (.int (p2 &&& (3 : Int32))), .val (.ref nm), .val (.ref b2), .unset, .unset, .unset, .unset, .unset] [(.ref b2)])) _
          refine XS.lloadN X5.here hx rfl (hb hby at_145) rfl ?_
          show Steps p.tables e below (T5.setTop (mkF m 146 #[.val (.int p1), .val (.int p2), .val (.long q1), .second, .val (.int p3), .val (.int p4), .val (.int (own_b (¬ (p1 &&& (1 : Int32)) = 0))), .val (.int (own_b (¬ (p1 &&& (2 : Int32)) = 0))), .val (.int (own_b (¬ (p1 &&& (4 : Int32)) = 0))), .val (.int (own_b (¬ (p1 &&& (8 : Int32)) = 0))), .val (.int (own_b (¬ (p1 &&& (16 : Int32)) = 0))), .val (.int (own_b (¬ (p1 &&& (32 : Int32)) = 0))), .val (.int (p2 &&& (3 : Int32))), .val (.ref nm), .val (.ref b2), .unset, .unset, .unset, .unset, .unset] [(.long q1), (.ref b2)])) _
          refine XS.iload X5.here hx rfl (hb hby at_146) rfl ?_
          show Steps p.tables e below (T5.setTop (mkF m 148 #[.val (.int p1), .val (.int p2), .val (.long q1), .second, .val (.int p3), .val (.int p4), .val (.int (own_b (¬ (p1 &&& (1 : Int32)) = 0))), .val (.int (own_b (¬ (p1 &&& (2 : Int32)) = 0))), .val (.int (own_b (¬ (p1 &&& (4 : Int32)) = 0))), .val (.int (own_b (¬ (p1 &&& (8 : Int32)) = 0))), .val (.int (own_b (¬ (p1 &&& (16 : Int32)) = 0))), .val (.int (own_b (¬ (p1 &&& (32 : Int32)) = 0))), .val (.int (p2 &&& (3 : Int32))), .val (.ref nm), .val (.ref b2), .unset, .unset, .unset, .unset, .unset] [(.int p3), (.long q1), (.ref b2)])) _
          refine st106.trans ?_
          exact k⟩
  obtain ⟨T7, L7, X7, N7, Z7, S7, st7⟩ : ∃ (T' : State) (L' : List Loc), Stand p l e room_1 s m #[(.int p1), (.int p2), (.long q1), (.int p3), (.int p4)] below meth c T' L' 3 15 ∧ Fr n0 L' ∧ n0 ≤ T'.heap.size ∧ own_st Z T'.heap b2 .null 1 (own_up (¬ (p2 &&& (3 : Int32)) < 2) (own_up (¬ (p2 &&& (3 : Int32)) < 1) (own_zr (¬ (p1 &&& (2 : Int32)) = 0) (own_up (¬ (p1 &&& (1 : Int32)) = 0) 0)))) ∧ ∀ t, Steps p.tables e below (T'.setTop (mkF m 169 #[.val (.int p1), .val (.int p2), .val (.long q1), .second, .val (.int p3), .val (.int p4), .val (.int (own_b (¬ (p1 &&& (1 : Int32)) = 0))), .val (.int (own_b (¬ (p1 &&& (2 : Int32)) = 0))), .val (.int (own_b (¬ (p1 &&& (4 : Int32)) = 0))), .val (.int (own_b (¬ (p1 &&& (8 : Int32)) = 0))), .val (.int (own_b (¬ (p1 &&& (16 : Int32)) = 0))), .val (.int (own_b (¬ (p1 &&& (32 : Int32)) = 0))), .val (.int (p2 &&& (3 : Int32))), .val (.ref nm), .val (.ref b2), .unset, .unset, .unset, .unset, .unset] [])) t → Steps p.tables e below (T6.setTop (mkF m 151 #[.val (.int p1), .val (.int p2), .val (.long q1), .second, .val (.int p3), .val (.int p4), .val (.int (own_b (¬ (p1 &&& (1 : Int32)) = 0))), .val (.int (own_b (¬ (p1 &&& (2 : Int32)) = 0))), .val (.int (own_b (¬ (p1 &&& (4 : Int32)) = 0))), .val (.int (own_b (¬ (p1 &&& (8 : Int32)) = 0))), .val (.int (own_b (¬ (p1 &&& (16 : Int32)) = 0))), .val (.int (own_b (¬ (p1 &&& (32 : Int32)) = 0))), .val (.int (p2 &&& (3 : Int32))), .val (.ref nm), .val (.ref b2), .unset, .unset, .unset, .unset, .unset] [])) t := by
    by_cases hc : (p2 &&& (3 : Int32)) < (2 : Int32)
    · rw [show (own_up (¬ (p2 &&& (3 : Int32)) < 2) (own_up (¬ (p2 &&& (3 : Int32)) < 1) (own_zr (¬ (p1 &&& (2 : Int32)) = 0) (own_up (¬ (p1 &&& (1 : Int32)) = 0) 0)))) = (own_up (¬ (p2 &&& (3 : Int32)) < 1) (own_zr (¬ (p1 &&& (2 : Int32)) = 0) (own_up (¬ (p1 &&& (1 : Int32)) = 0) 0))) from if_neg (fun q => q hc)]
      exact ⟨T6, _, X6, N6, Z6, S6, fun t k => by
          show Steps p.tables e below (T6.setTop (mkF m 151 #[.val (.int p1), .val (.int p2), .val (.long q1), .second, .val (.int p3), .val (.int p4), .val (.int (own_b (¬ (p1 &&& (1 : Int32)) = 0))), .val (.int (own_b (¬ (p1 &&& (2 : Int32)) = 0))), .val (.int (own_b (¬ (p1 &&& (4 : Int32)) = 0))), .val (.int (own_b (¬ (p1 &&& (8 : Int32)) = 0))), .val (.int (own_b (¬ (p1 &&& (16 : Int32)) = 0))), .val (.int (own_b (¬ (p1 &&& (32 : Int32)) = 0))), .val (.int (p2 &&& (3 : Int32))), .val (.ref nm), .val (.ref b2), .unset, .unset, .unset, .unset, .unset] [])) _
          refine XS.iload X6.here hx rfl (hb hby at_151) rfl ?_
          show Steps p.tables e below (T6.setTop (mkF m 153 #[.val (.int p1), .val (.int p2), .val (.long q1), .second, .val (.int p3), .val (.int p4), .val (.int (own_b (¬ (p1 &&& (1 : Int32)) = 0))), .val (.int (own_b (¬ (p1 &&& (2 : Int32)) = 0))), .val (.int (own_b (¬ (p1 &&& (4 : Int32)) = 0))), .val (.int (own_b (¬ (p1 &&& (8 : Int32)) = 0))), .val (.int (own_b (¬ (p1 &&& (16 : Int32)) = 0))), .val (.int (own_b (¬ (p1 &&& (32 : Int32)) = 0))), .val (.int (p2 &&& (3 : Int32))), .val (.ref nm), .val (.ref b2), .unset, .unset, .unset, .unset, .unset] [(.int (p2 &&& (3 : Int32)))])) _
          refine XS.iconst X6.here hx rfl (hb hby at_153) ?_
          show Steps p.tables e below (T6.setTop (mkF m 154 #[.val (.int p1), .val (.int p2), .val (.long q1), .second, .val (.int p3), .val (.int p4), .val (.int (own_b (¬ (p1 &&& (1 : Int32)) = 0))), .val (.int (own_b (¬ (p1 &&& (2 : Int32)) = 0))), .val (.int (own_b (¬ (p1 &&& (4 : Int32)) = 0))), .val (.int (own_b (¬ (p1 &&& (8 : Int32)) = 0))), .val (.int (own_b (¬ (p1 &&& (16 : Int32)) = 0))), .val (.int (own_b (¬ (p1 &&& (32 : Int32)) = 0))), .val (.int (p2 &&& (3 : Int32))), .val (.ref nm), .val (.ref b2), .unset, .unset, .unset, .unset, .unset] [(.int (2 : Int32)), (.int (p2 &&& (3 : Int32)))])) _
          refine XS.icmpYes X6.here hx rfl (pc0 := 154) (pc' := 169) rfl (hb hby at_154) rfl (tlt hc).1 (by decide) (by decide) ?_
          exact k⟩
    · rw [show (own_up (¬ (p2 &&& (3 : Int32)) < 2) (own_up (¬ (p2 &&& (3 : Int32)) < 1) (own_zr (¬ (p1 &&& (2 : Int32)) = 0) (own_up (¬ (p1 &&& (1 : Int32)) = 0) 0)))) = (own_up (¬ (p2 &&& (3 : Int32)) < 1) (own_zr (¬ (p1 &&& (2 : Int32)) = 0) (own_up (¬ (p1 &&& (1 : Int32)) = 0) 0))) + 1 from if_pos hc]
      obtain ⟨cq107, kq107, q107a, q107b, q107c⟩ := isOf hZ rfl S6.1
      obtain ⟨_, _, ⟨T107, L107, k107, n107⟩, -, X107, ⟨Lc107, hQ107, l107, y107, z107⟩, st107⟩ := X6.virtualBack hx (y := (⟨"dev/shiftwise/stats/Statistics", "window", "(JI)V"⟩ : MethodName)) (z := (⟨"dev/shiftwise/stats/Statistics", "window", "(JI)V"⟩ : MethodName)) hown (mvT hZ (hw _ (List.mem_of_getElem? (i := 56) rfl))) (mvT hZ (hw _ (List.mem_of_getElem? (i := 57) rfl))) (notFace_of_selects (args := #[]) (mvT hZ (hw _ (List.mem_of_getElem? (i := 59) rfl)))) (mvT hZ (hw _ (List.mem_of_getElem? (i := 59) rfl))) (mvT hZ (hw _ (List.mem_of_getElem? (i := 58) rfl))) (by decide) (backOf (W := 0) (rm8 l Z a0 hw [] b2 (q1 ^^^ (-1 : Int64)) p4 .null 1 (own_up (¬ (p2 &&& (3 : Int32)) < 1) (own_zr (¬ (p1 &&& (2 : Int32)) = 0) (own_up (¬ (p1 &&& (1 : Int32)) = 0) 0))) T6.heap n0 Z6 S6 gb) hZ (hw _ (List.mem_of_getElem? (i := 60) rfl)) (hw _ (List.mem_of_getElem? (i := 28) rfl)) (by decide) (by decide)) q107a q107c (g := (mkF m 166 #[.val (.int p1), .val (.int p2), .val (.long q1), .second, .val (.int p3), .val (.int p4), .val (.int (own_b (¬ (p1 &&& (1 : Int32)) = 0))), .val (.int (own_b (¬ (p1 &&& (2 : Int32)) = 0))), .val (.int (own_b (¬ (p1 &&& (4 : Int32)) = 0))), .val (.int (own_b (¬ (p1 &&& (8 : Int32)) = 0))), .val (.int (own_b (¬ (p1 &&& (16 : Int32)) = 0))), .val (.int (own_b (¬ (p1 &&& (32 : Int32)) = 0))), .val (.int (p2 &&& (3 : Int32))), .val (.ref nm), .val (.ref b2), .unset, .unset, .unset, .unset, .unset] [(.int p4), (.long (q1 ^^^ (-1 : Int64))), (.ref b2)])) rfl (by rw [hml]; rfl) (Steps.refl _) (argsL := [(.long (q1 ^^^ (-1 : Int64))), (.int p4)]) (rest := []) (lenOf pd_oJIcV rfl) rfl (by show 2 * 0 + _ ≤ _; exact Nat.le_of_eq rfl) (hb hby at_166) (fun _ _ => ⟨rfl, rfl, (by decide : 3 + 0 ≤ _), (by decide : 15 + 0 ≤ _)⟩)
      dsimp only [Pt.U, Pt.locs, Pt.cells, Pt.slots] at X107 l107 y107 z107 st107 hQ107
      subst l107 y107 z107
      obtain ⟨rfl, N107q, K107, S107⟩ := hQ107
      exact ⟨T107, _, X107, Fr.app N6 N107q, Nat.le_trans Z6 K107.1, S107, fun t k => by
          show Steps p.tables e below (T6.setTop (mkF m 151 #[.val (.int p1), .val (.int p2), .val (.long q1), .second, .val (.int p3), .val (.int p4), .val (.int (own_b (¬ (p1 &&& (1 : Int32)) = 0))), .val (.int (own_b (¬ (p1 &&& (2 : Int32)) = 0))), .val (.int (own_b (¬ (p1 &&& (4 : Int32)) = 0))), .val (.int (own_b (¬ (p1 &&& (8 : Int32)) = 0))), .val (.int (own_b (¬ (p1 &&& (16 : Int32)) = 0))), .val (.int (own_b (¬ (p1 &&& (32 : Int32)) = 0))), .val (.int (p2 &&& (3 : Int32))), .val (.ref nm), .val (.ref b2), .unset, .unset, .unset, .unset, .unset] [])) _
          refine XS.iload X6.here hx rfl (hb hby at_151) rfl ?_
          show Steps p.tables e below (T6.setTop (mkF m 153 #[.val (.int p1), .val (.int p2), .val (.long q1), .second, .val (.int p3), .val (.int p4), .val (.int (own_b (¬ (p1 &&& (1 : Int32)) = 0))), .val (.int (own_b (¬ (p1 &&& (2 : Int32)) = 0))), .val (.int (own_b (¬ (p1 &&& (4 : Int32)) = 0))), .val (.int (own_b (¬ (p1 &&& (8 : Int32)) = 0))), .val (.int (own_b (¬ (p1 &&& (16 : Int32)) = 0))), .val (.int (own_b (¬ (p1 &&& (32 : Int32)) = 0))), .val (.int (p2 &&& (3 : Int32))), .val (.ref nm), .val (.ref b2), .unset, .unset, .unset, .unset, .unset] [(.int (p2 &&& (3 : Int32)))])) _
          refine XS.iconst X6.here hx rfl (hb hby at_153) ?_
          show Steps p.tables e below (T6.setTop (mkF m 154 #[.val (.int p1), .val (.int p2), .val (.long q1), .second, .val (.int p3), .val (.int p4), .val (.int (own_b (¬ (p1 &&& (1 : Int32)) = 0))), .val (.int (own_b (¬ (p1 &&& (2 : Int32)) = 0))), .val (.int (own_b (¬ (p1 &&& (4 : Int32)) = 0))), .val (.int (own_b (¬ (p1 &&& (8 : Int32)) = 0))), .val (.int (own_b (¬ (p1 &&& (16 : Int32)) = 0))), .val (.int (own_b (¬ (p1 &&& (32 : Int32)) = 0))), .val (.int (p2 &&& (3 : Int32))), .val (.ref nm), .val (.ref b2), .unset, .unset, .unset, .unset, .unset] [(.int (2 : Int32)), (.int (p2 &&& (3 : Int32)))])) _
          refine XS.icmpNo X6.here hx rfl (hb hby at_154) rfl (flt hc).1 ?_
          show Steps p.tables e below (T6.setTop (mkF m 157 #[.val (.int p1), .val (.int p2), .val (.long q1), .second, .val (.int p3), .val (.int p4), .val (.int (own_b (¬ (p1 &&& (1 : Int32)) = 0))), .val (.int (own_b (¬ (p1 &&& (2 : Int32)) = 0))), .val (.int (own_b (¬ (p1 &&& (4 : Int32)) = 0))), .val (.int (own_b (¬ (p1 &&& (8 : Int32)) = 0))), .val (.int (own_b (¬ (p1 &&& (16 : Int32)) = 0))), .val (.int (own_b (¬ (p1 &&& (32 : Int32)) = 0))), .val (.int (p2 &&& (3 : Int32))), .val (.ref nm), .val (.ref b2), .unset, .unset, .unset, .unset, .unset] [])) _
          refine XS.aload X6.here hx rfl (hb hby at_157) rfl rfl ?_
          show Steps p.tables e below (T6.setTop (mkF m 159 #[.val (.int p1), .val (.int p2), .val (.long q1), .second, .val (.int p3), .val (.int p4), .val (.int (own_b (¬ (p1 &&& (1 : Int32)) = 0))), .val (.int (own_b (¬ (p1 &&& (2 : Int32)) = 0))), .val (.int (own_b (¬ (p1 &&& (4 : Int32)) = 0))), .val (.int (own_b (¬ (p1 &&& (8 : Int32)) = 0))), .val (.int (own_b (¬ (p1 &&& (16 : Int32)) = 0))), .val (.int (own_b (¬ (p1 &&& (32 : Int32)) = 0))), .val (.int (p2 &&& (3 : Int32))), .val (.ref nm), .val (.ref b2), .unset, .unset, .unset, .unset, .unset] [(.ref b2)])) _
          refine XS.lloadN X6.here hx rfl (hb hby at_159) rfl ?_
          show Steps p.tables e below (T6.setTop (mkF m 160 #[.val (.int p1), .val (.int p2), .val (.long q1), .second, .val (.int p3), .val (.int p4), .val (.int (own_b (¬ (p1 &&& (1 : Int32)) = 0))), .val (.int (own_b (¬ (p1 &&& (2 : Int32)) = 0))), .val (.int (own_b (¬ (p1 &&& (4 : Int32)) = 0))), .val (.int (own_b (¬ (p1 &&& (8 : Int32)) = 0))), .val (.int (own_b (¬ (p1 &&& (16 : Int32)) = 0))), .val (.int (own_b (¬ (p1 &&& (32 : Int32)) = 0))), .val (.int (p2 &&& (3 : Int32))), .val (.ref nm), .val (.ref b2), .unset, .unset, .unset, .unset, .unset] [(.long q1), (.ref b2)])) _
          refine X6.ldc2J hx hown (mvT hZ (hw _ (List.mem_of_getElem? (i := 61) rfl))) (g := (mkF m 160 #[.val (.int p1), .val (.int p2), .val (.long q1), .second, .val (.int p3), .val (.int p4), .val (.int (own_b (¬ (p1 &&& (1 : Int32)) = 0))), .val (.int (own_b (¬ (p1 &&& (2 : Int32)) = 0))), .val (.int (own_b (¬ (p1 &&& (4 : Int32)) = 0))), .val (.int (own_b (¬ (p1 &&& (8 : Int32)) = 0))), .val (.int (own_b (¬ (p1 &&& (16 : Int32)) = 0))), .val (.int (own_b (¬ (p1 &&& (32 : Int32)) = 0))), .val (.int (p2 &&& (3 : Int32))), .val (.ref nm), .val (.ref b2), .unset, .unset, .unset, .unset, .unset] [(.long q1), (.ref b2)])) rfl (hb hby at_160) ?_
          show Steps p.tables e below (T6.setTop (mkF m 163 #[.val (.int p1), .val (.int p2), .val (.long q1), .second, .val (.int p3), .val (.int p4), .val (.int (own_b (¬ (p1 &&& (1 : Int32)) = 0))), .val (.int (own_b (¬ (p1 &&& (2 : Int32)) = 0))), .val (.int (own_b (¬ (p1 &&& (4 : Int32)) = 0))), .val (.int (own_b (¬ (p1 &&& (8 : Int32)) = 0))), .val (.int (own_b (¬ (p1 &&& (16 : Int32)) = 0))), .val (.int (own_b (¬ (p1 &&& (32 : Int32)) = 0))), .val (.int (p2 &&& (3 : Int32))), .val (.ref nm), .val (.ref b2), .unset, .unset, .unset, .unset, .unset] [(.long (-1 : Int64)), (.long q1), (.ref b2)])) _
          refine XS.lxor X6.here hx rfl (hb hby at_163) rfl ?_
          show Steps p.tables e below (T6.setTop (mkF m 164 #[.val (.int p1), .val (.int p2), .val (.long q1), .second, .val (.int p3), .val (.int p4), .val (.int (own_b (¬ (p1 &&& (1 : Int32)) = 0))), .val (.int (own_b (¬ (p1 &&& (2 : Int32)) = 0))), .val (.int (own_b (¬ (p1 &&& (4 : Int32)) = 0))), .val (.int (own_b (¬ (p1 &&& (8 : Int32)) = 0))), .val (.int (own_b (¬ (p1 &&& (16 : Int32)) = 0))), .val (.int (own_b (¬ (p1 &&& (32 : Int32)) = 0))), .val (.int (p2 &&& (3 : Int32))), .val (.ref nm), .val (.ref b2), .unset, .unset, .unset, .unset, .unset] [(.long (q1 ^^^ (-1 : Int64))), (.ref b2)])) _
          refine XS.iload X6.here hx rfl (hb hby at_164) rfl ?_
          show Steps p.tables e below (T6.setTop (mkF m 166 #[.val (.int p1), .val (.int p2), .val (.long q1), .second, .val (.int p3), .val (.int p4), .val (.int (own_b (¬ (p1 &&& (1 : Int32)) = 0))), .val (.int (own_b (¬ (p1 &&& (2 : Int32)) = 0))), .val (.int (own_b (¬ (p1 &&& (4 : Int32)) = 0))), .val (.int (own_b (¬ (p1 &&& (8 : Int32)) = 0))), .val (.int (own_b (¬ (p1 &&& (16 : Int32)) = 0))), .val (.int (own_b (¬ (p1 &&& (32 : Int32)) = 0))), .val (.int (p2 &&& (3 : Int32))), .val (.ref nm), .val (.ref b2), .unset, .unset, .unset, .unset, .unset] [(.int p4), (.long (q1 ^^^ (-1 : Int64))), (.ref b2)])) _
          refine st107.trans ?_
          exact k⟩
  obtain ⟨T8, L8, X8, N8, Z8, S8, st8⟩ : ∃ (T' : State) (L' : List Loc), Stand p l e room_1 s m #[(.int p1), (.int p2), (.long q1), (.int p3), (.int p4)] below meth c T' L' 3 15 ∧ Fr n0 L' ∧ n0 ≤ T'.heap.size ∧ own_st Z T'.heap b2 (own_sb ((¬ (p1 &&& (4 : Int32)) = 0) ∨ (¬ (p1 &&& (8 : Int32)) = 0)) nm) (own_off (¬ (p1 &&& (4 : Int32)) = 0) 1) (own_up (¬ (p2 &&& (3 : Int32)) < 2) (own_up (¬ (p2 &&& (3 : Int32)) < 1) (own_zr (¬ (p1 &&& (2 : Int32)) = 0) (own_up (¬ (p1 &&& (1 : Int32)) = 0) 0)))) ∧ ∀ t, Steps p.tables e below (T'.setTop (mkF m 196 #[.val (.int p1), .val (.int p2), .val (.long q1), .second, .val (.int p3), .val (.int p4), .val (.int (own_b (¬ (p1 &&& (1 : Int32)) = 0))), .val (.int (own_b (¬ (p1 &&& (2 : Int32)) = 0))), .val (.int (own_b (¬ (p1 &&& (4 : Int32)) = 0))), .val (.int (own_b (¬ (p1 &&& (8 : Int32)) = 0))), .val (.int (own_b (¬ (p1 &&& (16 : Int32)) = 0))), .val (.int (own_b (¬ (p1 &&& (32 : Int32)) = 0))), .val (.int (p2 &&& (3 : Int32))), .val (.ref nm), .val (.ref b2), .unset, .unset, .unset, .unset, .unset] [])) t → Steps p.tables e below (T7.setTop (mkF m 169 #[.val (.int p1), .val (.int p2), .val (.long q1), .second, .val (.int p3), .val (.int p4), .val (.int (own_b (¬ (p1 &&& (1 : Int32)) = 0))), .val (.int (own_b (¬ (p1 &&& (2 : Int32)) = 0))), .val (.int (own_b (¬ (p1 &&& (4 : Int32)) = 0))), .val (.int (own_b (¬ (p1 &&& (8 : Int32)) = 0))), .val (.int (own_b (¬ (p1 &&& (16 : Int32)) = 0))), .val (.int (own_b (¬ (p1 &&& (32 : Int32)) = 0))), .val (.int (p2 &&& (3 : Int32))), .val (.ref nm), .val (.ref b2), .unset, .unset, .unset, .unset, .unset] [])) t := by
    by_cases hc : (¬ (p1 &&& (4 : Int32)) = 0)
    · rw [show (own_off (¬ (p1 &&& (4 : Int32)) = 0) 1) = 0 from if_pos hc, show (own_sb ((¬ (p1 &&& (4 : Int32)) = 0) ∨ (¬ (p1 &&& (8 : Int32)) = 0)) nm) = .ref nm from if_pos (Or.inl hc)]
      obtain ⟨cq108, kq108, q108a, q108b, q108c⟩ := isOf hZ rfl S7.1
      obtain ⟨_, _, ⟨T108, L108, k108, n108⟩, -, X108, ⟨Lc108, hQ108, l108, y108, z108⟩, st108⟩ := X7.virtualBack hx (y := (⟨"dev/shiftwise/stats/Statistics", "searchUncountedBy", "(Ljava/lang/String;)V"⟩ : MethodName)) (z := (⟨"dev/shiftwise/stats/Statistics", "searchUncountedBy", "(Ljava/lang/String;)V"⟩ : MethodName)) hown (mvT hZ (hw _ (List.mem_of_getElem? (i := 67) rfl))) (mvT hZ (hw _ (List.mem_of_getElem? (i := 68) rfl))) (notFace_of_selects (args := #[]) (mvT hZ (hw _ (List.mem_of_getElem? (i := 70) rfl)))) (mvT hZ (hw _ (List.mem_of_getElem? (i := 70) rfl))) (mvT hZ (hw _ (List.mem_of_getElem? (i := 69) rfl))) (by decide) (backOf (W := 0) (rm10 l Z a0 hw [] b2 nm .null 1 (own_up (¬ (p2 &&& (3 : Int32)) < 2) (own_up (¬ (p2 &&& (3 : Int32)) < 1) (own_zr (¬ (p1 &&& (2 : Int32)) = 0) (own_up (¬ (p1 &&& (1 : Int32)) = 0) 0)))) T7.heap n0 Z7 S7 gb rfl) hZ (hw _ (List.mem_of_getElem? (i := 71) rfl)) (hw _ (List.mem_of_getElem? (i := 28) rfl)) (by decide) (by decide)) q108a q108c (g := (mkF m 178 #[.val (.int p1), .val (.int p2), .val (.long q1), .second, .val (.int p3), .val (.int p4), .val (.int (own_b (¬ (p1 &&& (1 : Int32)) = 0))), .val (.int (own_b (¬ (p1 &&& (2 : Int32)) = 0))), .val (.int (own_b (¬ (p1 &&& (4 : Int32)) = 0))), .val (.int (own_b (¬ (p1 &&& (8 : Int32)) = 0))), .val (.int (own_b (¬ (p1 &&& (16 : Int32)) = 0))), .val (.int (own_b (¬ (p1 &&& (32 : Int32)) = 0))), .val (.int (p2 &&& (3 : Int32))), .val (.ref nm), .val (.ref b2), .unset, .unset, .unset, .unset, .unset] [(.ref nm), (.ref b2)])) rfl (by rw [hml]; rfl) (Steps.refl _) (argsL := [(.ref nm)]) (rest := []) (lenOf pd_oLjavalangStringcV rfl) rfl (by show 2 * 0 + _ ≤ _; exact Nat.le_of_eq rfl) (hb hby at_178) (fun _ _ => ⟨rfl, rfl, (by decide : 3 + 0 ≤ _), (by decide : 15 + 0 ≤ _)⟩)
      dsimp only [Pt.U, Pt.locs, Pt.cells, Pt.slots] at X108 l108 y108 z108 st108 hQ108
      subst l108 y108 z108
      obtain ⟨rfl, N108q, K108, S108⟩ := hQ108
      exact ⟨T108, _, X108, Fr.app N7 N108q, Nat.le_trans Z7 K108.1, S108, fun t k => by
          show Steps p.tables e below (T7.setTop (mkF m 169 #[.val (.int p1), .val (.int p2), .val (.long q1), .second, .val (.int p3), .val (.int p4), .val (.int (own_b (¬ (p1 &&& (1 : Int32)) = 0))), .val (.int (own_b (¬ (p1 &&& (2 : Int32)) = 0))), .val (.int (own_b (¬ (p1 &&& (4 : Int32)) = 0))), .val (.int (own_b (¬ (p1 &&& (8 : Int32)) = 0))), .val (.int (own_b (¬ (p1 &&& (16 : Int32)) = 0))), .val (.int (own_b (¬ (p1 &&& (32 : Int32)) = 0))), .val (.int (p2 &&& (3 : Int32))), .val (.ref nm), .val (.ref b2), .unset, .unset, .unset, .unset, .unset] [])) _
          refine XS.iload X7.here hx rfl (hb hby at_169) rfl ?_
          show Steps p.tables e below (T7.setTop (mkF m 171 #[.val (.int p1), .val (.int p2), .val (.long q1), .second, .val (.int p3), .val (.int p4), .val (.int (own_b (¬ (p1 &&& (1 : Int32)) = 0))), .val (.int (own_b (¬ (p1 &&& (2 : Int32)) = 0))), .val (.int (own_b (¬ (p1 &&& (4 : Int32)) = 0))), .val (.int (own_b (¬ (p1 &&& (8 : Int32)) = 0))), .val (.int (own_b (¬ (p1 &&& (16 : Int32)) = 0))), .val (.int (own_b (¬ (p1 &&& (32 : Int32)) = 0))), .val (.int (p2 &&& (3 : Int32))), .val (.ref nm), .val (.ref b2), .unset, .unset, .unset, .unset, .unset] [(.int (own_b (¬ (p1 &&& (4 : Int32)) = 0)))])) _
          refine XS.ifNo X7.here hx rfl (hb hby at_171) rfl ((if0 _ _).trans (feq (by rw [own_bt hc]; decide)).1) ?_
          show Steps p.tables e below (T7.setTop (mkF m 174 #[.val (.int p1), .val (.int p2), .val (.long q1), .second, .val (.int p3), .val (.int p4), .val (.int (own_b (¬ (p1 &&& (1 : Int32)) = 0))), .val (.int (own_b (¬ (p1 &&& (2 : Int32)) = 0))), .val (.int (own_b (¬ (p1 &&& (4 : Int32)) = 0))), .val (.int (own_b (¬ (p1 &&& (8 : Int32)) = 0))), .val (.int (own_b (¬ (p1 &&& (16 : Int32)) = 0))), .val (.int (own_b (¬ (p1 &&& (32 : Int32)) = 0))), .val (.int (p2 &&& (3 : Int32))), .val (.ref nm), .val (.ref b2), .unset, .unset, .unset, .unset, .unset] [])) _
          refine XS.aload X7.here hx rfl (hb hby at_174) rfl rfl ?_
          show Steps p.tables e below (T7.setTop (mkF m 176 #[.val (.int p1), .val (.int p2), .val (.long q1), .second, .val (.int p3), .val (.int p4), .val (.int (own_b (¬ (p1 &&& (1 : Int32)) = 0))), .val (.int (own_b (¬ (p1 &&& (2 : Int32)) = 0))), .val (.int (own_b (¬ (p1 &&& (4 : Int32)) = 0))), .val (.int (own_b (¬ (p1 &&& (8 : Int32)) = 0))), .val (.int (own_b (¬ (p1 &&& (16 : Int32)) = 0))), .val (.int (own_b (¬ (p1 &&& (32 : Int32)) = 0))), .val (.int (p2 &&& (3 : Int32))), .val (.ref nm), .val (.ref b2), .unset, .unset, .unset, .unset, .unset] [(.ref b2)])) _
          refine XS.aload X7.here hx rfl (hb hby at_176) rfl rfl ?_
          show Steps p.tables e below (T7.setTop (mkF m 178 #[.val (.int p1), .val (.int p2), .val (.long q1), .second, .val (.int p3), .val (.int p4), .val (.int (own_b (¬ (p1 &&& (1 : Int32)) = 0))), .val (.int (own_b (¬ (p1 &&& (2 : Int32)) = 0))), .val (.int (own_b (¬ (p1 &&& (4 : Int32)) = 0))), .val (.int (own_b (¬ (p1 &&& (8 : Int32)) = 0))), .val (.int (own_b (¬ (p1 &&& (16 : Int32)) = 0))), .val (.int (own_b (¬ (p1 &&& (32 : Int32)) = 0))), .val (.int (p2 &&& (3 : Int32))), .val (.ref nm), .val (.ref b2), .unset, .unset, .unset, .unset, .unset] [(.ref nm), (.ref b2)])) _
          refine st108.trans ?_
          show Steps p.tables e below (T108.setTop (mkF m 181 #[.val (.int p1), .val (.int p2), .val (.long q1), .second, .val (.int p3), .val (.int p4), .val (.int (own_b (¬ (p1 &&& (1 : Int32)) = 0))), .val (.int (own_b (¬ (p1 &&& (2 : Int32)) = 0))), .val (.int (own_b (¬ (p1 &&& (4 : Int32)) = 0))), .val (.int (own_b (¬ (p1 &&& (8 : Int32)) = 0))), .val (.int (own_b (¬ (p1 &&& (16 : Int32)) = 0))), .val (.int (own_b (¬ (p1 &&& (32 : Int32)) = 0))), .val (.int (p2 &&& (3 : Int32))), .val (.ref nm), .val (.ref b2), .unset, .unset, .unset, .unset, .unset] [])) _
          refine XS.goto X108.here hx rfl (pc0 := 181) (pc' := 196) rfl (hb hby at_181) (by decide) (by decide) ?_
          exact k⟩
    · by_cases hd : (¬ (p1 &&& (8 : Int32)) = 0)
      · rw [show (own_off (¬ (p1 &&& (4 : Int32)) = 0) 1) = 1 from if_neg hc, show (own_sb ((¬ (p1 &&& (4 : Int32)) = 0) ∨ (¬ (p1 &&& (8 : Int32)) = 0)) nm) = .ref nm from if_pos (Or.inr hd)]
        obtain ⟨cq108, kq108, q108a, q108b, q108c⟩ := isOf hZ rfl S7.1
        obtain ⟨_, _, ⟨T108, L108, k108, n108⟩, -, X108, ⟨Lc108, hQ108, l108, y108, z108⟩, st108⟩ := X7.virtualBack hx (y := (⟨"dev/shiftwise/stats/Statistics", "searchBy", "(Ljava/lang/String;)V"⟩ : MethodName)) (z := (⟨"dev/shiftwise/stats/Statistics", "searchBy", "(Ljava/lang/String;)V"⟩ : MethodName)) hown (mvT hZ (hw _ (List.mem_of_getElem? (i := 88) rfl))) (mvT hZ (hw _ (List.mem_of_getElem? (i := 73) rfl))) (notFace_of_selects (args := #[]) (mvT hZ (hw _ (List.mem_of_getElem? (i := 75) rfl)))) (mvT hZ (hw _ (List.mem_of_getElem? (i := 75) rfl))) (mvT hZ (hw _ (List.mem_of_getElem? (i := 74) rfl))) (by decide) (backOf (W := 0) (rm11 l Z a0 hw [] b2 nm .null 1 (own_up (¬ (p2 &&& (3 : Int32)) < 2) (own_up (¬ (p2 &&& (3 : Int32)) < 1) (own_zr (¬ (p1 &&& (2 : Int32)) = 0) (own_up (¬ (p1 &&& (1 : Int32)) = 0) 0)))) T7.heap n0 Z7 S7 gb rfl) hZ (hw _ (List.mem_of_getElem? (i := 76) rfl)) (hw _ (List.mem_of_getElem? (i := 28) rfl)) (by decide) (by decide)) q108a q108c (g := (mkF m 193 #[.val (.int p1), .val (.int p2), .val (.long q1), .second, .val (.int p3), .val (.int p4), .val (.int (own_b (¬ (p1 &&& (1 : Int32)) = 0))), .val (.int (own_b (¬ (p1 &&& (2 : Int32)) = 0))), .val (.int (own_b (¬ (p1 &&& (4 : Int32)) = 0))), .val (.int (own_b (¬ (p1 &&& (8 : Int32)) = 0))), .val (.int (own_b (¬ (p1 &&& (16 : Int32)) = 0))), .val (.int (own_b (¬ (p1 &&& (32 : Int32)) = 0))), .val (.int (p2 &&& (3 : Int32))), .val (.ref nm), .val (.ref b2), .unset, .unset, .unset, .unset, .unset] [(.ref nm), (.ref b2)])) rfl (by rw [hml]; rfl) (Steps.refl _) (argsL := [(.ref nm)]) (rest := []) (lenOf pd_oLjavalangStringcV rfl) rfl (by show 2 * 0 + _ ≤ _; exact Nat.le_of_eq rfl) (hb hby at_193) (fun _ _ => ⟨rfl, rfl, (by decide : 3 + 0 ≤ _), (by decide : 15 + 0 ≤ _)⟩)
        dsimp only [Pt.U, Pt.locs, Pt.cells, Pt.slots] at X108 l108 y108 z108 st108 hQ108
        subst l108 y108 z108
        obtain ⟨rfl, N108q, K108, S108⟩ := hQ108
        exact ⟨T108, _, X108, Fr.app N7 N108q, Nat.le_trans Z7 K108.1, S108, fun t k => by
            show Steps p.tables e below (T7.setTop (mkF m 169 #[.val (.int p1), .val (.int p2), .val (.long q1), .second, .val (.int p3), .val (.int p4), .val (.int (own_b (¬ (p1 &&& (1 : Int32)) = 0))), .val (.int (own_b (¬ (p1 &&& (2 : Int32)) = 0))), .val (.int (own_b (¬ (p1 &&& (4 : Int32)) = 0))), .val (.int (own_b (¬ (p1 &&& (8 : Int32)) = 0))), .val (.int (own_b (¬ (p1 &&& (16 : Int32)) = 0))), .val (.int (own_b (¬ (p1 &&& (32 : Int32)) = 0))), .val (.int (p2 &&& (3 : Int32))), .val (.ref nm), .val (.ref b2), .unset, .unset, .unset, .unset, .unset] [])) _
            refine XS.iload X7.here hx rfl (hb hby at_169) rfl ?_
            show Steps p.tables e below (T7.setTop (mkF m 171 #[.val (.int p1), .val (.int p2), .val (.long q1), .second, .val (.int p3), .val (.int p4), .val (.int (own_b (¬ (p1 &&& (1 : Int32)) = 0))), .val (.int (own_b (¬ (p1 &&& (2 : Int32)) = 0))), .val (.int (own_b (¬ (p1 &&& (4 : Int32)) = 0))), .val (.int (own_b (¬ (p1 &&& (8 : Int32)) = 0))), .val (.int (own_b (¬ (p1 &&& (16 : Int32)) = 0))), .val (.int (own_b (¬ (p1 &&& (32 : Int32)) = 0))), .val (.int (p2 &&& (3 : Int32))), .val (.ref nm), .val (.ref b2), .unset, .unset, .unset, .unset, .unset] [(.int (own_b (¬ (p1 &&& (4 : Int32)) = 0)))])) _
            refine XS.ifYes X7.here hx rfl (pc0 := 171) (pc' := 184) rfl (hb hby at_171) rfl ((if0 _ _).trans (teq (own_bf hc)).1) (by decide) (by decide) ?_
            show Steps p.tables e below (T7.setTop (mkF m 184 #[.val (.int p1), .val (.int p2), .val (.long q1), .second, .val (.int p3), .val (.int p4), .val (.int (own_b (¬ (p1 &&& (1 : Int32)) = 0))), .val (.int (own_b (¬ (p1 &&& (2 : Int32)) = 0))), .val (.int (own_b (¬ (p1 &&& (4 : Int32)) = 0))), .val (.int (own_b (¬ (p1 &&& (8 : Int32)) = 0))), .val (.int (own_b (¬ (p1 &&& (16 : Int32)) = 0))), .val (.int (own_b (¬ (p1 &&& (32 : Int32)) = 0))), .val (.int (p2 &&& (3 : Int32))), .val (.ref nm), .val (.ref b2), .unset, .unset, .unset, .unset, .unset] [])) _
            refine XS.iload X7.here hx rfl (hb hby at_184) rfl ?_
            show Steps p.tables e below (T7.setTop (mkF m 186 #[.val (.int p1), .val (.int p2), .val (.long q1), .second, .val (.int p3), .val (.int p4), .val (.int (own_b (¬ (p1 &&& (1 : Int32)) = 0))), .val (.int (own_b (¬ (p1 &&& (2 : Int32)) = 0))), .val (.int (own_b (¬ (p1 &&& (4 : Int32)) = 0))), .val (.int (own_b (¬ (p1 &&& (8 : Int32)) = 0))), .val (.int (own_b (¬ (p1 &&& (16 : Int32)) = 0))), .val (.int (own_b (¬ (p1 &&& (32 : Int32)) = 0))), .val (.int (p2 &&& (3 : Int32))), .val (.ref nm), .val (.ref b2), .unset, .unset, .unset, .unset, .unset] [(.int (own_b (¬ (p1 &&& (8 : Int32)) = 0)))])) _
            refine XS.ifNo X7.here hx rfl (hb hby at_186) rfl ((if0 _ _).trans (feq (by rw [own_bt hd]; decide)).1) ?_
            show Steps p.tables e below (T7.setTop (mkF m 189 #[.val (.int p1), .val (.int p2), .val (.long q1), .second, .val (.int p3), .val (.int p4), .val (.int (own_b (¬ (p1 &&& (1 : Int32)) = 0))), .val (.int (own_b (¬ (p1 &&& (2 : Int32)) = 0))), .val (.int (own_b (¬ (p1 &&& (4 : Int32)) = 0))), .val (.int (own_b (¬ (p1 &&& (8 : Int32)) = 0))), .val (.int (own_b (¬ (p1 &&& (16 : Int32)) = 0))), .val (.int (own_b (¬ (p1 &&& (32 : Int32)) = 0))), .val (.int (p2 &&& (3 : Int32))), .val (.ref nm), .val (.ref b2), .unset, .unset, .unset, .unset, .unset] [])) _
            refine XS.aload X7.here hx rfl (hb hby at_189) rfl rfl ?_
            show Steps p.tables e below (T7.setTop (mkF m 191 #[.val (.int p1), .val (.int p2), .val (.long q1), .second, .val (.int p3), .val (.int p4), .val (.int (own_b (¬ (p1 &&& (1 : Int32)) = 0))), .val (.int (own_b (¬ (p1 &&& (2 : Int32)) = 0))), .val (.int (own_b (¬ (p1 &&& (4 : Int32)) = 0))), .val (.int (own_b (¬ (p1 &&& (8 : Int32)) = 0))), .val (.int (own_b (¬ (p1 &&& (16 : Int32)) = 0))), .val (.int (own_b (¬ (p1 &&& (32 : Int32)) = 0))), .val (.int (p2 &&& (3 : Int32))), .val (.ref nm), .val (.ref b2), .unset, .unset, .unset, .unset, .unset] [(.ref b2)])) _
            refine XS.aload X7.here hx rfl (hb hby at_191) rfl rfl ?_
            show Steps p.tables e below (T7.setTop (mkF m 193 #[.val (.int p1), .val (.int p2), .val (.long q1), .second, .val (.int p3), .val (.int p4), .val (.int (own_b (¬ (p1 &&& (1 : Int32)) = 0))), .val (.int (own_b (¬ (p1 &&& (2 : Int32)) = 0))), .val (.int (own_b (¬ (p1 &&& (4 : Int32)) = 0))), .val (.int (own_b (¬ (p1 &&& (8 : Int32)) = 0))), .val (.int (own_b (¬ (p1 &&& (16 : Int32)) = 0))), .val (.int (own_b (¬ (p1 &&& (32 : Int32)) = 0))), .val (.int (p2 &&& (3 : Int32))), .val (.ref nm), .val (.ref b2), .unset, .unset, .unset, .unset, .unset] [(.ref nm), (.ref b2)])) _
            refine st108.trans ?_
            exact k⟩
      · rw [show (own_off (¬ (p1 &&& (4 : Int32)) = 0) 1) = 1 from if_neg hc, show (own_sb ((¬ (p1 &&& (4 : Int32)) = 0) ∨ (¬ (p1 &&& (8 : Int32)) = 0)) nm) = .null from if_neg (fun q => q.elim hc hd)]
        exact ⟨T7, _, X7, N7, Z7, S7, fun t k => by
            show Steps p.tables e below (T7.setTop (mkF m 169 #[.val (.int p1), .val (.int p2), .val (.long q1), .second, .val (.int p3), .val (.int p4), .val (.int (own_b (¬ (p1 &&& (1 : Int32)) = 0))), .val (.int (own_b (¬ (p1 &&& (2 : Int32)) = 0))), .val (.int (own_b (¬ (p1 &&& (4 : Int32)) = 0))), .val (.int (own_b (¬ (p1 &&& (8 : Int32)) = 0))), .val (.int (own_b (¬ (p1 &&& (16 : Int32)) = 0))), .val (.int (own_b (¬ (p1 &&& (32 : Int32)) = 0))), .val (.int (p2 &&& (3 : Int32))), .val (.ref nm), .val (.ref b2), .unset, .unset, .unset, .unset, .unset] [])) _
            refine XS.iload X7.here hx rfl (hb hby at_169) rfl ?_
            show Steps p.tables e below (T7.setTop (mkF m 171 #[.val (.int p1), .val (.int p2), .val (.long q1), .second, .val (.int p3), .val (.int p4), .val (.int (own_b (¬ (p1 &&& (1 : Int32)) = 0))), .val (.int (own_b (¬ (p1 &&& (2 : Int32)) = 0))), .val (.int (own_b (¬ (p1 &&& (4 : Int32)) = 0))), .val (.int (own_b (¬ (p1 &&& (8 : Int32)) = 0))), .val (.int (own_b (¬ (p1 &&& (16 : Int32)) = 0))), .val (.int (own_b (¬ (p1 &&& (32 : Int32)) = 0))), .val (.int (p2 &&& (3 : Int32))), .val (.ref nm), .val (.ref b2), .unset, .unset, .unset, .unset, .unset] [(.int (own_b (¬ (p1 &&& (4 : Int32)) = 0)))])) _
            refine XS.ifYes X7.here hx rfl (pc0 := 171) (pc' := 184) rfl (hb hby at_171) rfl ((if0 _ _).trans (teq (own_bf hc)).1) (by decide) (by decide) ?_
            show Steps p.tables e below (T7.setTop (mkF m 184 #[.val (.int p1), .val (.int p2), .val (.long q1), .second, .val (.int p3), .val (.int p4), .val (.int (own_b (¬ (p1 &&& (1 : Int32)) = 0))), .val (.int (own_b (¬ (p1 &&& (2 : Int32)) = 0))), .val (.int (own_b (¬ (p1 &&& (4 : Int32)) = 0))), .val (.int (own_b (¬ (p1 &&& (8 : Int32)) = 0))), .val (.int (own_b (¬ (p1 &&& (16 : Int32)) = 0))), .val (.int (own_b (¬ (p1 &&& (32 : Int32)) = 0))), .val (.int (p2 &&& (3 : Int32))), .val (.ref nm), .val (.ref b2), .unset, .unset, .unset, .unset, .unset] [])) _
            refine XS.iload X7.here hx rfl (hb hby at_184) rfl ?_
            show Steps p.tables e below (T7.setTop (mkF m 186 #[.val (.int p1), .val (.int p2), .val (.long q1), .second, .val (.int p3), .val (.int p4), .val (.int (own_b (¬ (p1 &&& (1 : Int32)) = 0))), .val (.int (own_b (¬ (p1 &&& (2 : Int32)) = 0))), .val (.int (own_b (¬ (p1 &&& (4 : Int32)) = 0))), .val (.int (own_b (¬ (p1 &&& (8 : Int32)) = 0))), .val (.int (own_b (¬ (p1 &&& (16 : Int32)) = 0))), .val (.int (own_b (¬ (p1 &&& (32 : Int32)) = 0))), .val (.int (p2 &&& (3 : Int32))), .val (.ref nm), .val (.ref b2), .unset, .unset, .unset, .unset, .unset] [(.int (own_b (¬ (p1 &&& (8 : Int32)) = 0)))])) _
            refine XS.ifYes X7.here hx rfl (pc0 := 186) (pc' := 196) rfl (hb hby at_186) rfl ((if0 _ _).trans (teq (own_bf hd)).1) (by decide) (by decide) ?_
            exact k⟩
  obtain ⟨T9, L9, X9, N9, Z9, S9, st9⟩ : ∃ (T' : State) (L' : List Loc), Stand p l e room_1 s m #[(.int p1), (.int p2), (.long q1), (.int p3), (.int p4)] below meth c T' L' 3 15 ∧ Fr n0 L' ∧ n0 ≤ T'.heap.size ∧ own_st Z T'.heap b2 (own_sb ((¬ (p1 &&& (4 : Int32)) = 0) ∨ (¬ (p1 &&& (8 : Int32)) = 0)) nm) (own_off (¬ (p1 &&& (4 : Int32)) = 0) 1) (own_up (¬ (p2 &&& (3 : Int32)) < 3) (own_up (¬ (p2 &&& (3 : Int32)) < 2) (own_up (¬ (p2 &&& (3 : Int32)) < 1) (own_zr (¬ (p1 &&& (2 : Int32)) = 0) (own_up (¬ (p1 &&& (1 : Int32)) = 0) 0))))) ∧ ∀ t, Steps p.tables e below (T'.setTop (mkF m 213 #[.val (.int p1), .val (.int p2), .val (.long q1), .second, .val (.int p3), .val (.int p4), .val (.int (own_b (¬ (p1 &&& (1 : Int32)) = 0))), .val (.int (own_b (¬ (p1 &&& (2 : Int32)) = 0))), .val (.int (own_b (¬ (p1 &&& (4 : Int32)) = 0))), .val (.int (own_b (¬ (p1 &&& (8 : Int32)) = 0))), .val (.int (own_b (¬ (p1 &&& (16 : Int32)) = 0))), .val (.int (own_b (¬ (p1 &&& (32 : Int32)) = 0))), .val (.int (p2 &&& (3 : Int32))), .val (.ref nm), .val (.ref b2), .unset, .unset, .unset, .unset, .unset] [])) t → Steps p.tables e below (T8.setTop (mkF m 196 #[.val (.int p1), .val (.int p2), .val (.long q1), .second, .val (.int p3), .val (.int p4), .val (.int (own_b (¬ (p1 &&& (1 : Int32)) = 0))), .val (.int (own_b (¬ (p1 &&& (2 : Int32)) = 0))), .val (.int (own_b (¬ (p1 &&& (4 : Int32)) = 0))), .val (.int (own_b (¬ (p1 &&& (8 : Int32)) = 0))), .val (.int (own_b (¬ (p1 &&& (16 : Int32)) = 0))), .val (.int (own_b (¬ (p1 &&& (32 : Int32)) = 0))), .val (.int (p2 &&& (3 : Int32))), .val (.ref nm), .val (.ref b2), .unset, .unset, .unset, .unset, .unset] [])) t := by
    by_cases hc : (p2 &&& (3 : Int32)) < (3 : Int32)
    · rw [show (own_up (¬ (p2 &&& (3 : Int32)) < 3) (own_up (¬ (p2 &&& (3 : Int32)) < 2) (own_up (¬ (p2 &&& (3 : Int32)) < 1) (own_zr (¬ (p1 &&& (2 : Int32)) = 0) (own_up (¬ (p1 &&& (1 : Int32)) = 0) 0))))) = (own_up (¬ (p2 &&& (3 : Int32)) < 2) (own_up (¬ (p2 &&& (3 : Int32)) < 1) (own_zr (¬ (p1 &&& (2 : Int32)) = 0) (own_up (¬ (p1 &&& (1 : Int32)) = 0) 0)))) from if_neg (fun q => q hc)]
      exact ⟨T8, _, X8, N8, Z8, S8, fun t k => by
          show Steps p.tables e below (T8.setTop (mkF m 196 #[.val (.int p1), .val (.int p2), .val (.long q1), .second, .val (.int p3), .val (.int p4), .val (.int (own_b (¬ (p1 &&& (1 : Int32)) = 0))), .val (.int (own_b (¬ (p1 &&& (2 : Int32)) = 0))), .val (.int (own_b (¬ (p1 &&& (4 : Int32)) = 0))), .val (.int (own_b (¬ (p1 &&& (8 : Int32)) = 0))), .val (.int (own_b (¬ (p1 &&& (16 : Int32)) = 0))), .val (.int (own_b (¬ (p1 &&& (32 : Int32)) = 0))), .val (.int (p2 &&& (3 : Int32))), .val (.ref nm), .val (.ref b2), .unset, .unset, .unset, .unset, .unset] [])) _
          refine XS.iload X8.here hx rfl (hb hby at_196) rfl ?_
          show Steps p.tables e below (T8.setTop (mkF m 198 #[.val (.int p1), .val (.int p2), .val (.long q1), .second, .val (.int p3), .val (.int p4), .val (.int (own_b (¬ (p1 &&& (1 : Int32)) = 0))), .val (.int (own_b (¬ (p1 &&& (2 : Int32)) = 0))), .val (.int (own_b (¬ (p1 &&& (4 : Int32)) = 0))), .val (.int (own_b (¬ (p1 &&& (8 : Int32)) = 0))), .val (.int (own_b (¬ (p1 &&& (16 : Int32)) = 0))), .val (.int (own_b (¬ (p1 &&& (32 : Int32)) = 0))), .val (.int (p2 &&& (3 : Int32))), .val (.ref nm), .val (.ref b2), .unset, .unset, .unset, .unset, .unset] [(.int (p2 &&& (3 : Int32)))])) _
          refine XS.iconst X8.here hx rfl (hb hby at_198) ?_
          show Steps p.tables e below (T8.setTop (mkF m 199 #[.val (.int p1), .val (.int p2), .val (.long q1), .second, .val (.int p3), .val (.int p4), .val (.int (own_b (¬ (p1 &&& (1 : Int32)) = 0))), .val (.int (own_b (¬ (p1 &&& (2 : Int32)) = 0))), .val (.int (own_b (¬ (p1 &&& (4 : Int32)) = 0))), .val (.int (own_b (¬ (p1 &&& (8 : Int32)) = 0))), .val (.int (own_b (¬ (p1 &&& (16 : Int32)) = 0))), .val (.int (own_b (¬ (p1 &&& (32 : Int32)) = 0))), .val (.int (p2 &&& (3 : Int32))), .val (.ref nm), .val (.ref b2), .unset, .unset, .unset, .unset, .unset] [(.int (3 : Int32)), (.int (p2 &&& (3 : Int32)))])) _
          refine XS.icmpYes X8.here hx rfl (pc0 := 199) (pc' := 213) rfl (hb hby at_199) rfl (tlt hc).1 (by decide) (by decide) ?_
          exact k⟩
    · rw [show (own_up (¬ (p2 &&& (3 : Int32)) < 3) (own_up (¬ (p2 &&& (3 : Int32)) < 2) (own_up (¬ (p2 &&& (3 : Int32)) < 1) (own_zr (¬ (p1 &&& (2 : Int32)) = 0) (own_up (¬ (p1 &&& (1 : Int32)) = 0) 0))))) = (own_up (¬ (p2 &&& (3 : Int32)) < 2) (own_up (¬ (p2 &&& (3 : Int32)) < 1) (own_zr (¬ (p1 &&& (2 : Int32)) = 0) (own_up (¬ (p1 &&& (1 : Int32)) = 0) 0)))) + 1 from if_pos hc]
      obtain ⟨cq109, kq109, q109a, q109b, q109c⟩ := isOf hZ rfl S8.1
      obtain ⟨_, _, ⟨T109, L109, k109, n109⟩, -, X109, ⟨Lc109, hQ109, l109, y109, z109⟩, st109⟩ := X8.virtualBack hx (y := (⟨"dev/shiftwise/stats/Statistics", "window", "(JI)V"⟩ : MethodName)) (z := (⟨"dev/shiftwise/stats/Statistics", "window", "(JI)V"⟩ : MethodName)) hown (mvT hZ (hw _ (List.mem_of_getElem? (i := 56) rfl))) (mvT hZ (hw _ (List.mem_of_getElem? (i := 57) rfl))) (notFace_of_selects (args := #[]) (mvT hZ (hw _ (List.mem_of_getElem? (i := 59) rfl)))) (mvT hZ (hw _ (List.mem_of_getElem? (i := 59) rfl))) (mvT hZ (hw _ (List.mem_of_getElem? (i := 58) rfl))) (by decide) (backOf (W := 0) (rm8 l Z a0 hw [] b2 q1 (p3 ^^^ p4) (own_sb ((¬ (p1 &&& (4 : Int32)) = 0) ∨ (¬ (p1 &&& (8 : Int32)) = 0)) nm) (own_off (¬ (p1 &&& (4 : Int32)) = 0) 1) (own_up (¬ (p2 &&& (3 : Int32)) < 2) (own_up (¬ (p2 &&& (3 : Int32)) < 1) (own_zr (¬ (p1 &&& (2 : Int32)) = 0) (own_up (¬ (p1 &&& (1 : Int32)) = 0) 0)))) T8.heap n0 Z8 S8 gb) hZ (hw _ (List.mem_of_getElem? (i := 60) rfl)) (hw _ (List.mem_of_getElem? (i := 28) rfl)) (by decide) (by decide)) q109a q109c (g := (mkF m 210 #[.val (.int p1), .val (.int p2), .val (.long q1), .second, .val (.int p3), .val (.int p4), .val (.int (own_b (¬ (p1 &&& (1 : Int32)) = 0))), .val (.int (own_b (¬ (p1 &&& (2 : Int32)) = 0))), .val (.int (own_b (¬ (p1 &&& (4 : Int32)) = 0))), .val (.int (own_b (¬ (p1 &&& (8 : Int32)) = 0))), .val (.int (own_b (¬ (p1 &&& (16 : Int32)) = 0))), .val (.int (own_b (¬ (p1 &&& (32 : Int32)) = 0))), .val (.int (p2 &&& (3 : Int32))), .val (.ref nm), .val (.ref b2), .unset, .unset, .unset, .unset, .unset] [(.int (p3 ^^^ p4)), (.long q1), (.ref b2)])) rfl (by rw [hml]; rfl) (Steps.refl _) (argsL := [(.long q1), (.int (p3 ^^^ p4))]) (rest := []) (lenOf pd_oJIcV rfl) rfl (by show 2 * 0 + _ ≤ _; exact Nat.le_of_eq rfl) (hb hby at_210) (fun _ _ => ⟨rfl, rfl, (by decide : 3 + 0 ≤ _), (by decide : 15 + 0 ≤ _)⟩)
      dsimp only [Pt.U, Pt.locs, Pt.cells, Pt.slots] at X109 l109 y109 z109 st109 hQ109
      subst l109 y109 z109
      obtain ⟨rfl, N109q, K109, S109⟩ := hQ109
      exact ⟨T109, _, X109, Fr.app N8 N109q, Nat.le_trans Z8 K109.1, S109, fun t k => by
          show Steps p.tables e below (T8.setTop (mkF m 196 #[.val (.int p1), .val (.int p2), .val (.long q1), .second, .val (.int p3), .val (.int p4), .val (.int (own_b (¬ (p1 &&& (1 : Int32)) = 0))), .val (.int (own_b (¬ (p1 &&& (2 : Int32)) = 0))), .val (.int (own_b (¬ (p1 &&& (4 : Int32)) = 0))), .val (.int (own_b (¬ (p1 &&& (8 : Int32)) = 0))), .val (.int (own_b (¬ (p1 &&& (16 : Int32)) = 0))), .val (.int (own_b (¬ (p1 &&& (32 : Int32)) = 0))), .val (.int (p2 &&& (3 : Int32))), .val (.ref nm), .val (.ref b2), .unset, .unset, .unset, .unset, .unset] [])) _
          refine XS.iload X8.here hx rfl (hb hby at_196) rfl ?_
          show Steps p.tables e below (T8.setTop (mkF m 198 #[.val (.int p1), .val (.int p2), .val (.long q1), .second, .val (.int p3), .val (.int p4), .val (.int (own_b (¬ (p1 &&& (1 : Int32)) = 0))), .val (.int (own_b (¬ (p1 &&& (2 : Int32)) = 0))), .val (.int (own_b (¬ (p1 &&& (4 : Int32)) = 0))), .val (.int (own_b (¬ (p1 &&& (8 : Int32)) = 0))), .val (.int (own_b (¬ (p1 &&& (16 : Int32)) = 0))), .val (.int (own_b (¬ (p1 &&& (32 : Int32)) = 0))), .val (.int (p2 &&& (3 : Int32))), .val (.ref nm), .val (.ref b2), .unset, .unset, .unset, .unset, .unset] [(.int (p2 &&& (3 : Int32)))])) _
          refine XS.iconst X8.here hx rfl (hb hby at_198) ?_
          show Steps p.tables e below (T8.setTop (mkF m 199 #[.val (.int p1), .val (.int p2), .val (.long q1), .second, .val (.int p3), .val (.int p4), .val (.int (own_b (¬ (p1 &&& (1 : Int32)) = 0))), .val (.int (own_b (¬ (p1 &&& (2 : Int32)) = 0))), .val (.int (own_b (¬ (p1 &&& (4 : Int32)) = 0))), .val (.int (own_b (¬ (p1 &&& (8 : Int32)) = 0))), .val (.int (own_b (¬ (p1 &&& (16 : Int32)) = 0))), .val (.int (own_b (¬ (p1 &&& (32 : Int32)) = 0))), .val (.int (p2 &&& (3 : Int32))), .val (.ref nm), .val (.ref b2), .unset, .unset, .unset, .unset, .unset] [(.int (3 : Int32)), (.int (p2 &&& (3 : Int32)))])) _
          refine XS.icmpNo X8.here hx rfl (hb hby at_199) rfl (flt hc).1 ?_
          show Steps p.tables e below (T8.setTop (mkF m 202 #[.val (.int p1), .val (.int p2), .val (.long q1), .second, .val (.int p3), .val (.int p4), .val (.int (own_b (¬ (p1 &&& (1 : Int32)) = 0))), .val (.int (own_b (¬ (p1 &&& (2 : Int32)) = 0))), .val (.int (own_b (¬ (p1 &&& (4 : Int32)) = 0))), .val (.int (own_b (¬ (p1 &&& (8 : Int32)) = 0))), .val (.int (own_b (¬ (p1 &&& (16 : Int32)) = 0))), .val (.int (own_b (¬ (p1 &&& (32 : Int32)) = 0))), .val (.int (p2 &&& (3 : Int32))), .val (.ref nm), .val (.ref b2), .unset, .unset, .unset, .unset, .unset] [])) _
          refine XS.aload X8.here hx rfl (hb hby at_202) rfl rfl ?_
          show Steps p.tables e below (T8.setTop (mkF m 204 #[.val (.int p1), .val (.int p2), .val (.long q1), .second, .val (.int p3), .val (.int p4), .val (.int (own_b (¬ (p1 &&& (1 : Int32)) = 0))), .val (.int (own_b (¬ (p1 &&& (2 : Int32)) = 0))), .val (.int (own_b (¬ (p1 &&& (4 : Int32)) = 0))), .val (.int (own_b (¬ (p1 &&& (8 : Int32)) = 0))), .val (.int (own_b (¬ (p1 &&& (16 : Int32)) = 0))), .val (.int (own_b (¬ (p1 &&& (32 : Int32)) = 0))), .val (.int (p2 &&& (3 : Int32))), .val (.ref nm), .val (.ref b2), .unset, .unset, .unset, .unset, .unset] [(.ref b2)])) _
          refine XS.lloadN X8.here hx rfl (hb hby at_204) rfl ?_
          show Steps p.tables e below (T8.setTop (mkF m 205 #[.val (.int p1), .val (.int p2), .val (.long q1), .second, .val (.int p3), .val (.int p4), .val (.int (own_b (¬ (p1 &&& (1 : Int32)) = 0))), .val (.int (own_b (¬ (p1 &&& (2 : Int32)) = 0))), .val (.int (own_b (¬ (p1 &&& (4 : Int32)) = 0))), .val (.int (own_b (¬ (p1 &&& (8 : Int32)) = 0))), .val (.int (own_b (¬ (p1 &&& (16 : Int32)) = 0))), .val (.int (own_b (¬ (p1 &&& (32 : Int32)) = 0))), .val (.int (p2 &&& (3 : Int32))), .val (.ref nm), .val (.ref b2), .unset, .unset, .unset, .unset, .unset] [(.long q1), (.ref b2)])) _
          refine XS.iload X8.here hx rfl (hb hby at_205) rfl ?_
          show Steps p.tables e below (T8.setTop (mkF m 207 #[.val (.int p1), .val (.int p2), .val (.long q1), .second, .val (.int p3), .val (.int p4), .val (.int (own_b (¬ (p1 &&& (1 : Int32)) = 0))), .val (.int (own_b (¬ (p1 &&& (2 : Int32)) = 0))), .val (.int (own_b (¬ (p1 &&& (4 : Int32)) = 0))), .val (.int (own_b (¬ (p1 &&& (8 : Int32)) = 0))), .val (.int (own_b (¬ (p1 &&& (16 : Int32)) = 0))), .val (.int (own_b (¬ (p1 &&& (32 : Int32)) = 0))), .val (.int (p2 &&& (3 : Int32))), .val (.ref nm), .val (.ref b2), .unset, .unset, .unset, .unset, .unset] [(.int p3), (.long q1), (.ref b2)])) _
          refine XS.iload X8.here hx rfl (hb hby at_207) rfl ?_
          show Steps p.tables e below (T8.setTop (mkF m 209 #[.val (.int p1), .val (.int p2), .val (.long q1), .second, .val (.int p3), .val (.int p4), .val (.int (own_b (¬ (p1 &&& (1 : Int32)) = 0))), .val (.int (own_b (¬ (p1 &&& (2 : Int32)) = 0))), .val (.int (own_b (¬ (p1 &&& (4 : Int32)) = 0))), .val (.int (own_b (¬ (p1 &&& (8 : Int32)) = 0))), .val (.int (own_b (¬ (p1 &&& (16 : Int32)) = 0))), .val (.int (own_b (¬ (p1 &&& (32 : Int32)) = 0))), .val (.int (p2 &&& (3 : Int32))), .val (.ref nm), .val (.ref b2), .unset, .unset, .unset, .unset, .unset] [(.int p4), (.int p3), (.long q1), (.ref b2)])) _
          refine XS.ixor X8.here hx rfl (hb hby at_209) rfl ?_
          show Steps p.tables e below (T8.setTop (mkF m 210 #[.val (.int p1), .val (.int p2), .val (.long q1), .second, .val (.int p3), .val (.int p4), .val (.int (own_b (¬ (p1 &&& (1 : Int32)) = 0))), .val (.int (own_b (¬ (p1 &&& (2 : Int32)) = 0))), .val (.int (own_b (¬ (p1 &&& (4 : Int32)) = 0))), .val (.int (own_b (¬ (p1 &&& (8 : Int32)) = 0))), .val (.int (own_b (¬ (p1 &&& (16 : Int32)) = 0))), .val (.int (own_b (¬ (p1 &&& (32 : Int32)) = 0))), .val (.int (p2 &&& (3 : Int32))), .val (.ref nm), .val (.ref b2), .unset, .unset, .unset, .unset, .unset] [(.int (p3 ^^^ p4)), (.long q1), (.ref b2)])) _
          refine st109.trans ?_
          exact k⟩
  obtain ⟨T10, L10, X10, N10, Z10, S10, st10⟩ : ∃ (T' : State) (L' : List Loc), Stand p l e room_1 s m #[(.int p1), (.int p2), (.long q1), (.int p3), (.int p4)] below meth c T' L' 3 15 ∧ Fr n0 L' ∧ n0 ≤ T'.heap.size ∧ own_st Z T'.heap b2 (own_sb ((¬ (p1 &&& (4 : Int32)) = 0) ∨ (¬ (p1 &&& (8 : Int32)) = 0)) nm) (own_off (¬ (p1 &&& (4 : Int32)) = 0) 1) (own_up (¬ (p2 &&& (3 : Int32)) < 3) (own_up (¬ (p2 &&& (3 : Int32)) < 2) (own_up (¬ (p2 &&& (3 : Int32)) < 1) (own_zr (¬ (p1 &&& (2 : Int32)) = 0) (own_up (¬ (p1 &&& (1 : Int32)) = 0) 0))))) ∧ ∀ t, Steps p.tables e below (T'.setTop (mkF m 226 #[.val (.int p1), .val (.int p2), .val (.long q1), .second, .val (.int p3), .val (.int p4), .val (.int (own_b (¬ (p1 &&& (1 : Int32)) = 0))), .val (.int (own_b (¬ (p1 &&& (2 : Int32)) = 0))), .val (.int (own_b (¬ (p1 &&& (4 : Int32)) = 0))), .val (.int (own_b (¬ (p1 &&& (8 : Int32)) = 0))), .val (.int (own_b (¬ (p1 &&& (16 : Int32)) = 0))), .val (.int (own_b (¬ (p1 &&& (32 : Int32)) = 0))), .val (.int (p2 &&& (3 : Int32))), .val (.ref nm), .val (.ref b2), .unset, .unset, .unset, .unset, .unset] [])) t → Steps p.tables e below (T9.setTop (mkF m 213 #[.val (.int p1), .val (.int p2), .val (.long q1), .second, .val (.int p3), .val (.int p4), .val (.int (own_b (¬ (p1 &&& (1 : Int32)) = 0))), .val (.int (own_b (¬ (p1 &&& (2 : Int32)) = 0))), .val (.int (own_b (¬ (p1 &&& (4 : Int32)) = 0))), .val (.int (own_b (¬ (p1 &&& (8 : Int32)) = 0))), .val (.int (own_b (¬ (p1 &&& (16 : Int32)) = 0))), .val (.int (own_b (¬ (p1 &&& (32 : Int32)) = 0))), .val (.int (p2 &&& (3 : Int32))), .val (.ref nm), .val (.ref b2), .unset, .unset, .unset, .unset, .unset] [])) t := by
    by_cases hc : (¬ (p1 &&& (16 : Int32)) = 0)
    · obtain ⟨cq110, kq110, q110a, q110b, q110c⟩ := isOf hZ rfl S9.1
      obtain ⟨_, _, ⟨T110, L110, k110, n110⟩, -, X110, ⟨Lc110, hQ110, l110, y110, z110⟩, st110⟩ := X9.virtualBack hx (y := (⟨"dev/shiftwise/stats/Statistics", "part", "(JI)V"⟩ : MethodName)) (z := (⟨"dev/shiftwise/stats/Statistics", "part", "(JI)V"⟩ : MethodName)) hown (mvT hZ (hw _ (List.mem_of_getElem? (i := 78) rfl))) (mvT hZ (hw _ (List.mem_of_getElem? (i := 79) rfl))) (notFace_of_selects (args := #[]) (mvT hZ (hw _ (List.mem_of_getElem? (i := 81) rfl)))) (mvT hZ (hw _ (List.mem_of_getElem? (i := 81) rfl))) (mvT hZ (hw _ (List.mem_of_getElem? (i := 80) rfl))) (by decide) (backOf (W := 0) (rm12 l Z a0 hw [] b2 q1 p4 (own_sb ((¬ (p1 &&& (4 : Int32)) = 0) ∨ (¬ (p1 &&& (8 : Int32)) = 0)) nm) (own_off (¬ (p1 &&& (4 : Int32)) = 0) 1) (own_up (¬ (p2 &&& (3 : Int32)) < 3) (own_up (¬ (p2 &&& (3 : Int32)) < 2) (own_up (¬ (p2 &&& (3 : Int32)) < 1) (own_zr (¬ (p1 &&& (2 : Int32)) = 0) (own_up (¬ (p1 &&& (1 : Int32)) = 0) 0))))) T9.heap n0 Z9 S9 gb) hZ (hw _ (List.mem_of_getElem? (i := 82) rfl)) (hw _ (List.mem_of_getElem? (i := 28) rfl)) (by decide) (by decide)) q110a q110c (g := (mkF m 223 #[.val (.int p1), .val (.int p2), .val (.long q1), .second, .val (.int p3), .val (.int p4), .val (.int (own_b (¬ (p1 &&& (1 : Int32)) = 0))), .val (.int (own_b (¬ (p1 &&& (2 : Int32)) = 0))), .val (.int (own_b (¬ (p1 &&& (4 : Int32)) = 0))), .val (.int (own_b (¬ (p1 &&& (8 : Int32)) = 0))), .val (.int (own_b (¬ (p1 &&& (16 : Int32)) = 0))), .val (.int (own_b (¬ (p1 &&& (32 : Int32)) = 0))), .val (.int (p2 &&& (3 : Int32))), .val (.ref nm), .val (.ref b2), .unset, .unset, .unset, .unset, .unset] [(.int p4), (.long q1), (.ref b2)])) rfl (by rw [hml]; rfl) (Steps.refl _) (argsL := [(.long q1), (.int p4)]) (rest := []) (lenOf pd_oJIcV rfl) rfl (by show 2 * 0 + _ ≤ _; exact Nat.le_of_eq rfl) (hb hby at_223) (fun _ _ => ⟨rfl, rfl, (by decide : 3 + 0 ≤ _), (by decide : 15 + 0 ≤ _)⟩)
      dsimp only [Pt.U, Pt.locs, Pt.cells, Pt.slots] at X110 l110 y110 z110 st110 hQ110
      subst l110 y110 z110
      obtain ⟨rfl, N110q, K110, S110⟩ := hQ110
      exact ⟨T110, _, X110, Fr.app N9 N110q, Nat.le_trans Z9 K110.1, S110, fun t k => by
          show Steps p.tables e below (T9.setTop (mkF m 213 #[.val (.int p1), .val (.int p2), .val (.long q1), .second, .val (.int p3), .val (.int p4), .val (.int (own_b (¬ (p1 &&& (1 : Int32)) = 0))), .val (.int (own_b (¬ (p1 &&& (2 : Int32)) = 0))), .val (.int (own_b (¬ (p1 &&& (4 : Int32)) = 0))), .val (.int (own_b (¬ (p1 &&& (8 : Int32)) = 0))), .val (.int (own_b (¬ (p1 &&& (16 : Int32)) = 0))), .val (.int (own_b (¬ (p1 &&& (32 : Int32)) = 0))), .val (.int (p2 &&& (3 : Int32))), .val (.ref nm), .val (.ref b2), .unset, .unset, .unset, .unset, .unset] [])) _
          refine XS.iload X9.here hx rfl (hb hby at_213) rfl ?_
          show Steps p.tables e below (T9.setTop (mkF m 215 #[.val (.int p1), .val (.int p2), .val (.long q1), .second, .val (.int p3), .val (.int p4), .val (.int (own_b (¬ (p1 &&& (1 : Int32)) = 0))), .val (.int (own_b (¬ (p1 &&& (2 : Int32)) = 0))), .val (.int (own_b (¬ (p1 &&& (4 : Int32)) = 0))), .val (.int (own_b (¬ (p1 &&& (8 : Int32)) = 0))), .val (.int (own_b (¬ (p1 &&& (16 : Int32)) = 0))), .val (.int (own_b (¬ (p1 &&& (32 : Int32)) = 0))), .val (.int (p2 &&& (3 : Int32))), .val (.ref nm), .val (.ref b2), .unset, .unset, .unset, .unset, .unset] [(.int (own_b (¬ (p1 &&& (16 : Int32)) = 0)))])) _
          refine XS.ifNo X9.here hx rfl (hb hby at_215) rfl ((if0 _ _).trans (feq (by rw [own_bt hc]; decide)).1) ?_
          show Steps p.tables e below (T9.setTop (mkF m 218 #[.val (.int p1), .val (.int p2), .val (.long q1), .second, .val (.int p3), .val (.int p4), .val (.int (own_b (¬ (p1 &&& (1 : Int32)) = 0))), .val (.int (own_b (¬ (p1 &&& (2 : Int32)) = 0))), .val (.int (own_b (¬ (p1 &&& (4 : Int32)) = 0))), .val (.int (own_b (¬ (p1 &&& (8 : Int32)) = 0))), .val (.int (own_b (¬ (p1 &&& (16 : Int32)) = 0))), .val (.int (own_b (¬ (p1 &&& (32 : Int32)) = 0))), .val (.int (p2 &&& (3 : Int32))), .val (.ref nm), .val (.ref b2), .unset, .unset, .unset, .unset, .unset] [])) _
          refine XS.aload X9.here hx rfl (hb hby at_218) rfl rfl ?_
          show Steps p.tables e below (T9.setTop (mkF m 220 #[.val (.int p1), .val (.int p2), .val (.long q1), .second, .val (.int p3), .val (.int p4), .val (.int (own_b (¬ (p1 &&& (1 : Int32)) = 0))), .val (.int (own_b (¬ (p1 &&& (2 : Int32)) = 0))), .val (.int (own_b (¬ (p1 &&& (4 : Int32)) = 0))), .val (.int (own_b (¬ (p1 &&& (8 : Int32)) = 0))), .val (.int (own_b (¬ (p1 &&& (16 : Int32)) = 0))), .val (.int (own_b (¬ (p1 &&& (32 : Int32)) = 0))), .val (.int (p2 &&& (3 : Int32))), .val (.ref nm), .val (.ref b2), .unset, .unset, .unset, .unset, .unset] [(.ref b2)])) _
          refine XS.lloadN X9.here hx rfl (hb hby at_220) rfl ?_
          show Steps p.tables e below (T9.setTop (mkF m 221 #[.val (.int p1), .val (.int p2), .val (.long q1), .second, .val (.int p3), .val (.int p4), .val (.int (own_b (¬ (p1 &&& (1 : Int32)) = 0))), .val (.int (own_b (¬ (p1 &&& (2 : Int32)) = 0))), .val (.int (own_b (¬ (p1 &&& (4 : Int32)) = 0))), .val (.int (own_b (¬ (p1 &&& (8 : Int32)) = 0))), .val (.int (own_b (¬ (p1 &&& (16 : Int32)) = 0))), .val (.int (own_b (¬ (p1 &&& (32 : Int32)) = 0))), .val (.int (p2 &&& (3 : Int32))), .val (.ref nm), .val (.ref b2), .unset, .unset, .unset, .unset, .unset] [(.long q1), (.ref b2)])) _
          refine XS.iload X9.here hx rfl (hb hby at_221) rfl ?_
          show Steps p.tables e below (T9.setTop (mkF m 223 #[.val (.int p1), .val (.int p2), .val (.long q1), .second, .val (.int p3), .val (.int p4), .val (.int (own_b (¬ (p1 &&& (1 : Int32)) = 0))), .val (.int (own_b (¬ (p1 &&& (2 : Int32)) = 0))), .val (.int (own_b (¬ (p1 &&& (4 : Int32)) = 0))), .val (.int (own_b (¬ (p1 &&& (8 : Int32)) = 0))), .val (.int (own_b (¬ (p1 &&& (16 : Int32)) = 0))), .val (.int (own_b (¬ (p1 &&& (32 : Int32)) = 0))), .val (.int (p2 &&& (3 : Int32))), .val (.ref nm), .val (.ref b2), .unset, .unset, .unset, .unset, .unset] [(.int p4), (.long q1), (.ref b2)])) _
          refine st110.trans ?_
          exact k⟩
    · exact ⟨T9, _, X9, N9, Z9, S9, fun t k => by
          show Steps p.tables e below (T9.setTop (mkF m 213 #[.val (.int p1), .val (.int p2), .val (.long q1), .second, .val (.int p3), .val (.int p4), .val (.int (own_b (¬ (p1 &&& (1 : Int32)) = 0))), .val (.int (own_b (¬ (p1 &&& (2 : Int32)) = 0))), .val (.int (own_b (¬ (p1 &&& (4 : Int32)) = 0))), .val (.int (own_b (¬ (p1 &&& (8 : Int32)) = 0))), .val (.int (own_b (¬ (p1 &&& (16 : Int32)) = 0))), .val (.int (own_b (¬ (p1 &&& (32 : Int32)) = 0))), .val (.int (p2 &&& (3 : Int32))), .val (.ref nm), .val (.ref b2), .unset, .unset, .unset, .unset, .unset] [])) _
          refine XS.iload X9.here hx rfl (hb hby at_213) rfl ?_
          show Steps p.tables e below (T9.setTop (mkF m 215 #[.val (.int p1), .val (.int p2), .val (.long q1), .second, .val (.int p3), .val (.int p4), .val (.int (own_b (¬ (p1 &&& (1 : Int32)) = 0))), .val (.int (own_b (¬ (p1 &&& (2 : Int32)) = 0))), .val (.int (own_b (¬ (p1 &&& (4 : Int32)) = 0))), .val (.int (own_b (¬ (p1 &&& (8 : Int32)) = 0))), .val (.int (own_b (¬ (p1 &&& (16 : Int32)) = 0))), .val (.int (own_b (¬ (p1 &&& (32 : Int32)) = 0))), .val (.int (p2 &&& (3 : Int32))), .val (.ref nm), .val (.ref b2), .unset, .unset, .unset, .unset, .unset] [(.int (own_b (¬ (p1 &&& (16 : Int32)) = 0)))])) _
          refine XS.ifYes X9.here hx rfl (pc0 := 215) (pc' := 226) rfl (hb hby at_215) rfl ((if0 _ _).trans (teq (own_bf hc)).1) (by decide) (by decide) ?_
          exact k⟩
  obtain ⟨T11, L11, X11, N11, Z11, S11, st11⟩ : ∃ (T' : State) (L' : List Loc), Stand p l e room_1 s m #[(.int p1), (.int p2), (.long q1), (.int p3), (.int p4)] below meth c T' L' 3 15 ∧ Fr n0 L' ∧ n0 ≤ T'.heap.size ∧ own_st Z T'.heap b2 (own_nul (¬ (p1 &&& (32 : Int32)) = 0) (own_sb ((¬ (p1 &&& (4 : Int32)) = 0) ∨ (¬ (p1 &&& (8 : Int32)) = 0)) nm)) (own_on (¬ (p1 &&& (32 : Int32)) = 0) (own_off (¬ (p1 &&& (4 : Int32)) = 0) 1)) (own_zr (¬ (p1 &&& (32 : Int32)) = 0) (own_up (¬ (p2 &&& (3 : Int32)) < 3) (own_up (¬ (p2 &&& (3 : Int32)) < 2) (own_up (¬ (p2 &&& (3 : Int32)) < 1) (own_zr (¬ (p1 &&& (2 : Int32)) = 0) (own_up (¬ (p1 &&& (1 : Int32)) = 0) 0)))))) ∧ ∀ t, Steps p.tables e below (T'.setTop (mkF m 241 #[.val (.int p1), .val (.int p2), .val (.long q1), .second, .val (.int p3), .val (.int p4), .val (.int (own_b (¬ (p1 &&& (1 : Int32)) = 0))), .val (.int (own_b (¬ (p1 &&& (2 : Int32)) = 0))), .val (.int (own_b (¬ (p1 &&& (4 : Int32)) = 0))), .val (.int (own_b (¬ (p1 &&& (8 : Int32)) = 0))), .val (.int (own_b (¬ (p1 &&& (16 : Int32)) = 0))), .val (.int (own_b (¬ (p1 &&& (32 : Int32)) = 0))), .val (.int (p2 &&& (3 : Int32))), .val (.ref nm), .val (.ref b2), .unset, .unset, .unset, .unset, .unset] [])) t → Steps p.tables e below (T10.setTop (mkF m 226 #[.val (.int p1), .val (.int p2), .val (.long q1), .second, .val (.int p3), .val (.int p4), .val (.int (own_b (¬ (p1 &&& (1 : Int32)) = 0))), .val (.int (own_b (¬ (p1 &&& (2 : Int32)) = 0))), .val (.int (own_b (¬ (p1 &&& (4 : Int32)) = 0))), .val (.int (own_b (¬ (p1 &&& (8 : Int32)) = 0))), .val (.int (own_b (¬ (p1 &&& (16 : Int32)) = 0))), .val (.int (own_b (¬ (p1 &&& (32 : Int32)) = 0))), .val (.int (p2 &&& (3 : Int32))), .val (.ref nm), .val (.ref b2), .unset, .unset, .unset, .unset, .unset] [])) t := by
    by_cases hc : (¬ (p1 &&& (32 : Int32)) = 0)
    · rw [show (own_zr (¬ (p1 &&& (32 : Int32)) = 0) (own_up (¬ (p2 &&& (3 : Int32)) < 3) (own_up (¬ (p2 &&& (3 : Int32)) < 2) (own_up (¬ (p2 &&& (3 : Int32)) < 1) (own_zr (¬ (p1 &&& (2 : Int32)) = 0) (own_up (¬ (p1 &&& (1 : Int32)) = 0) 0)))))) = 0 from if_pos hc, show (own_on (¬ (p1 &&& (32 : Int32)) = 0) (own_off (¬ (p1 &&& (4 : Int32)) = 0) 1)) = 1 from if_pos hc, show (own_nul (¬ (p1 &&& (32 : Int32)) = 0) (own_sb ((¬ (p1 &&& (4 : Int32)) = 0) ∨ (¬ (p1 &&& (8 : Int32)) = 0)) nm)) = .null from if_pos hc]
      obtain ⟨cq111, kq111, q111a, q111b, q111c⟩ := isOf hZ rfl S10.1
      obtain ⟨_, _, ⟨T111, L111, k111, n111⟩, -, X111, ⟨Lc111, hQ111, l111, y111, z111⟩, st111⟩ := X10.virtualBack hx (y := (⟨"dev/shiftwise/stats/Statistics", "begin", "(Ljava/lang/String;JI)V"⟩ : MethodName)) (z := (⟨"dev/shiftwise/stats/Statistics", "begin", "(Ljava/lang/String;JI)V"⟩ : MethodName)) hown (mvT hZ (hw _ (List.mem_of_getElem? (i := 83) rfl))) (mvT hZ (hw _ (List.mem_of_getElem? (i := 84) rfl))) (notFace_of_selects (args := #[]) (mvT hZ (hw _ (List.mem_of_getElem? (i := 86) rfl)))) (mvT hZ (hw _ (List.mem_of_getElem? (i := 86) rfl))) (mvT hZ (hw _ (List.mem_of_getElem? (i := 85) rfl))) (by decide) (backOf (W := 0) (rm13 l Z a0 hw [] b2 nm q1 p3 (own_sb ((¬ (p1 &&& (4 : Int32)) = 0) ∨ (¬ (p1 &&& (8 : Int32)) = 0)) nm) (own_off (¬ (p1 &&& (4 : Int32)) = 0) 1) (own_up (¬ (p2 &&& (3 : Int32)) < 3) (own_up (¬ (p2 &&& (3 : Int32)) < 2) (own_up (¬ (p2 &&& (3 : Int32)) < 1) (own_zr (¬ (p1 &&& (2 : Int32)) = 0) (own_up (¬ (p1 &&& (1 : Int32)) = 0) 0))))) T10.heap n0 Z10 S10 gb) hZ (hw _ (List.mem_of_getElem? (i := 87) rfl)) (hw _ (List.mem_of_getElem? (i := 28) rfl)) (by decide) (by decide)) q111a q111c (g := (mkF m 238 #[.val (.int p1), .val (.int p2), .val (.long q1), .second, .val (.int p3), .val (.int p4), .val (.int (own_b (¬ (p1 &&& (1 : Int32)) = 0))), .val (.int (own_b (¬ (p1 &&& (2 : Int32)) = 0))), .val (.int (own_b (¬ (p1 &&& (4 : Int32)) = 0))), .val (.int (own_b (¬ (p1 &&& (8 : Int32)) = 0))), .val (.int (own_b (¬ (p1 &&& (16 : Int32)) = 0))), .val (.int (own_b (¬ (p1 &&& (32 : Int32)) = 0))), .val (.int (p2 &&& (3 : Int32))), .val (.ref nm), .val (.ref b2), .unset, .unset, .unset, .unset, .unset] [(.int p3), (.long q1), (.ref nm), (.ref b2)])) rfl (by rw [hml]; rfl) (Steps.refl _) (argsL := [(.ref nm), (.long q1), (.int p3)]) (rest := []) (lenOf pd_oLjavalangStringJIcV rfl) rfl (by show 2 * 0 + _ ≤ _; exact Nat.le_of_eq rfl) (hb hby at_238) (fun _ _ => ⟨rfl, rfl, (by decide : 3 + 0 ≤ _), (by decide : 15 + 0 ≤ _)⟩)
      dsimp only [Pt.U, Pt.locs, Pt.cells, Pt.slots] at X111 l111 y111 z111 st111 hQ111
      subst l111 y111 z111
      obtain ⟨rfl, N111q, K111, S111⟩ := hQ111
      exact ⟨T111, _, X111, Fr.app N10 N111q, Nat.le_trans Z10 K111.1, S111, fun t k => by
          show Steps p.tables e below (T10.setTop (mkF m 226 #[.val (.int p1), .val (.int p2), .val (.long q1), .second, .val (.int p3), .val (.int p4), .val (.int (own_b (¬ (p1 &&& (1 : Int32)) = 0))), .val (.int (own_b (¬ (p1 &&& (2 : Int32)) = 0))), .val (.int (own_b (¬ (p1 &&& (4 : Int32)) = 0))), .val (.int (own_b (¬ (p1 &&& (8 : Int32)) = 0))), .val (.int (own_b (¬ (p1 &&& (16 : Int32)) = 0))), .val (.int (own_b (¬ (p1 &&& (32 : Int32)) = 0))), .val (.int (p2 &&& (3 : Int32))), .val (.ref nm), .val (.ref b2), .unset, .unset, .unset, .unset, .unset] [])) _
          refine XS.iload X10.here hx rfl (hb hby at_226) rfl ?_
          show Steps p.tables e below (T10.setTop (mkF m 228 #[.val (.int p1), .val (.int p2), .val (.long q1), .second, .val (.int p3), .val (.int p4), .val (.int (own_b (¬ (p1 &&& (1 : Int32)) = 0))), .val (.int (own_b (¬ (p1 &&& (2 : Int32)) = 0))), .val (.int (own_b (¬ (p1 &&& (4 : Int32)) = 0))), .val (.int (own_b (¬ (p1 &&& (8 : Int32)) = 0))), .val (.int (own_b (¬ (p1 &&& (16 : Int32)) = 0))), .val (.int (own_b (¬ (p1 &&& (32 : Int32)) = 0))), .val (.int (p2 &&& (3 : Int32))), .val (.ref nm), .val (.ref b2), .unset, .unset, .unset, .unset, .unset] [(.int (own_b (¬ (p1 &&& (32 : Int32)) = 0)))])) _
          refine XS.ifNo X10.here hx rfl (hb hby at_228) rfl ((if0 _ _).trans (feq (by rw [own_bt hc]; decide)).1) ?_
          show Steps p.tables e below (T10.setTop (mkF m 231 #[.val (.int p1), .val (.int p2), .val (.long q1), .second, .val (.int p3), .val (.int p4), .val (.int (own_b (¬ (p1 &&& (1 : Int32)) = 0))), .val (.int (own_b (¬ (p1 &&& (2 : Int32)) = 0))), .val (.int (own_b (¬ (p1 &&& (4 : Int32)) = 0))), .val (.int (own_b (¬ (p1 &&& (8 : Int32)) = 0))), .val (.int (own_b (¬ (p1 &&& (16 : Int32)) = 0))), .val (.int (own_b (¬ (p1 &&& (32 : Int32)) = 0))), .val (.int (p2 &&& (3 : Int32))), .val (.ref nm), .val (.ref b2), .unset, .unset, .unset, .unset, .unset] [])) _
          refine XS.aload X10.here hx rfl (hb hby at_231) rfl rfl ?_
          show Steps p.tables e below (T10.setTop (mkF m 233 #[.val (.int p1), .val (.int p2), .val (.long q1), .second, .val (.int p3), .val (.int p4), .val (.int (own_b (¬ (p1 &&& (1 : Int32)) = 0))), .val (.int (own_b (¬ (p1 &&& (2 : Int32)) = 0))), .val (.int (own_b (¬ (p1 &&& (4 : Int32)) = 0))), .val (.int (own_b (¬ (p1 &&& (8 : Int32)) = 0))), .val (.int (own_b (¬ (p1 &&& (16 : Int32)) = 0))), .val (.int (own_b (¬ (p1 &&& (32 : Int32)) = 0))), .val (.int (p2 &&& (3 : Int32))), .val (.ref nm), .val (.ref b2), .unset, .unset, .unset, .unset, .unset] [(.ref b2)])) _
          refine XS.aload X10.here hx rfl (hb hby at_233) rfl rfl ?_
          show Steps p.tables e below (T10.setTop (mkF m 235 #[.val (.int p1), .val (.int p2), .val (.long q1), .second, .val (.int p3), .val (.int p4), .val (.int (own_b (¬ (p1 &&& (1 : Int32)) = 0))), .val (.int (own_b (¬ (p1 &&& (2 : Int32)) = 0))), .val (.int (own_b (¬ (p1 &&& (4 : Int32)) = 0))), .val (.int (own_b (¬ (p1 &&& (8 : Int32)) = 0))), .val (.int (own_b (¬ (p1 &&& (16 : Int32)) = 0))), .val (.int (own_b (¬ (p1 &&& (32 : Int32)) = 0))), .val (.int (p2 &&& (3 : Int32))), .val (.ref nm), .val (.ref b2), .unset, .unset, .unset, .unset, .unset] [(.ref nm), (.ref b2)])) _
          refine XS.lloadN X10.here hx rfl (hb hby at_235) rfl ?_
          show Steps p.tables e below (T10.setTop (mkF m 236 #[.val (.int p1), .val (.int p2), .val (.long q1), .second, .val (.int p3), .val (.int p4), .val (.int (own_b (¬ (p1 &&& (1 : Int32)) = 0))), .val (.int (own_b (¬ (p1 &&& (2 : Int32)) = 0))), .val (.int (own_b (¬ (p1 &&& (4 : Int32)) = 0))), .val (.int (own_b (¬ (p1 &&& (8 : Int32)) = 0))), .val (.int (own_b (¬ (p1 &&& (16 : Int32)) = 0))), .val (.int (own_b (¬ (p1 &&& (32 : Int32)) = 0))), .val (.int (p2 &&& (3 : Int32))), .val (.ref nm), .val (.ref b2), .unset, .unset, .unset, .unset, .unset] [(.long q1), (.ref nm), (.ref b2)])) _
          refine XS.iload X10.here hx rfl (hb hby at_236) rfl ?_
          show Steps p.tables e below (T10.setTop (mkF m 238 #[.val (.int p1), .val (.int p2), .val (.long q1), .second, .val (.int p3), .val (.int p4), .val (.int (own_b (¬ (p1 &&& (1 : Int32)) = 0))), .val (.int (own_b (¬ (p1 &&& (2 : Int32)) = 0))), .val (.int (own_b (¬ (p1 &&& (4 : Int32)) = 0))), .val (.int (own_b (¬ (p1 &&& (8 : Int32)) = 0))), .val (.int (own_b (¬ (p1 &&& (16 : Int32)) = 0))), .val (.int (own_b (¬ (p1 &&& (32 : Int32)) = 0))), .val (.int (p2 &&& (3 : Int32))), .val (.ref nm), .val (.ref b2), .unset, .unset, .unset, .unset, .unset] [(.int p3), (.long q1), (.ref nm), (.ref b2)])) _
          refine st111.trans ?_
          exact k⟩
    · rw [show (own_zr (¬ (p1 &&& (32 : Int32)) = 0) (own_up (¬ (p2 &&& (3 : Int32)) < 3) (own_up (¬ (p2 &&& (3 : Int32)) < 2) (own_up (¬ (p2 &&& (3 : Int32)) < 1) (own_zr (¬ (p1 &&& (2 : Int32)) = 0) (own_up (¬ (p1 &&& (1 : Int32)) = 0) 0)))))) = (own_up (¬ (p2 &&& (3 : Int32)) < 3) (own_up (¬ (p2 &&& (3 : Int32)) < 2) (own_up (¬ (p2 &&& (3 : Int32)) < 1) (own_zr (¬ (p1 &&& (2 : Int32)) = 0) (own_up (¬ (p1 &&& (1 : Int32)) = 0) 0))))) from if_neg hc, show (own_on (¬ (p1 &&& (32 : Int32)) = 0) (own_off (¬ (p1 &&& (4 : Int32)) = 0) 1)) = (own_off (¬ (p1 &&& (4 : Int32)) = 0) 1) from if_neg hc, show (own_nul (¬ (p1 &&& (32 : Int32)) = 0) (own_sb ((¬ (p1 &&& (4 : Int32)) = 0) ∨ (¬ (p1 &&& (8 : Int32)) = 0)) nm)) = (own_sb ((¬ (p1 &&& (4 : Int32)) = 0) ∨ (¬ (p1 &&& (8 : Int32)) = 0)) nm) from if_neg hc]
      exact ⟨T10, _, X10, N10, Z10, S10, fun t k => by
          show Steps p.tables e below (T10.setTop (mkF m 226 #[.val (.int p1), .val (.int p2), .val (.long q1), .second, .val (.int p3), .val (.int p4), .val (.int (own_b (¬ (p1 &&& (1 : Int32)) = 0))), .val (.int (own_b (¬ (p1 &&& (2 : Int32)) = 0))), .val (.int (own_b (¬ (p1 &&& (4 : Int32)) = 0))), .val (.int (own_b (¬ (p1 &&& (8 : Int32)) = 0))), .val (.int (own_b (¬ (p1 &&& (16 : Int32)) = 0))), .val (.int (own_b (¬ (p1 &&& (32 : Int32)) = 0))), .val (.int (p2 &&& (3 : Int32))), .val (.ref nm), .val (.ref b2), .unset, .unset, .unset, .unset, .unset] [])) _
          refine XS.iload X10.here hx rfl (hb hby at_226) rfl ?_
          show Steps p.tables e below (T10.setTop (mkF m 228 #[.val (.int p1), .val (.int p2), .val (.long q1), .second, .val (.int p3), .val (.int p4), .val (.int (own_b (¬ (p1 &&& (1 : Int32)) = 0))), .val (.int (own_b (¬ (p1 &&& (2 : Int32)) = 0))), .val (.int (own_b (¬ (p1 &&& (4 : Int32)) = 0))), .val (.int (own_b (¬ (p1 &&& (8 : Int32)) = 0))), .val (.int (own_b (¬ (p1 &&& (16 : Int32)) = 0))), .val (.int (own_b (¬ (p1 &&& (32 : Int32)) = 0))), .val (.int (p2 &&& (3 : Int32))), .val (.ref nm), .val (.ref b2), .unset, .unset, .unset, .unset, .unset] [(.int (own_b (¬ (p1 &&& (32 : Int32)) = 0)))])) _
          refine XS.ifYes X10.here hx rfl (pc0 := 228) (pc' := 241) rfl (hb hby at_228) rfl ((if0 _ _).trans (teq (own_bf hc)).1) (by decide) (by decide) ?_
          exact k⟩
  have sg241 : ∀ t, Steps p.tables e below (T11.setTop (mkF m 251 #[.val (.int p1), .val (.int p2), .val (.long q1), .second, .val (.int p3), .val (.int p4), .val (.int (own_b (¬ (p1 &&& (1 : Int32)) = 0))), .val (.int (own_b (¬ (p1 &&& (2 : Int32)) = 0))), .val (.int (own_b (¬ (p1 &&& (4 : Int32)) = 0))), .val (.int (own_b (¬ (p1 &&& (8 : Int32)) = 0))), .val (.int (own_b (¬ (p1 &&& (16 : Int32)) = 0))), .val (.int (own_b (¬ (p1 &&& (32 : Int32)) = 0))), .val (.int (p2 &&& (3 : Int32))), .val (.ref nm), .val (.ref b2), .unset, .unset, .unset, .unset, .unset] [(.long (own_lb (¬ (p1 &&& (1 : Int32)) = 0)))])) t → Steps p.tables e below (T11.setTop (mkF m 241 #[.val (.int p1), .val (.int p2), .val (.long q1), .second, .val (.int p3), .val (.int p4), .val (.int (own_b (¬ (p1 &&& (1 : Int32)) = 0))), .val (.int (own_b (¬ (p1 &&& (2 : Int32)) = 0))), .val (.int (own_b (¬ (p1 &&& (4 : Int32)) = 0))), .val (.int (own_b (¬ (p1 &&& (8 : Int32)) = 0))), .val (.int (own_b (¬ (p1 &&& (16 : Int32)) = 0))), .val (.int (own_b (¬ (p1 &&& (32 : Int32)) = 0))), .val (.int (p2 &&& (3 : Int32))), .val (.ref nm), .val (.ref b2), .unset, .unset, .unset, .unset, .unset] [])) t := by
    intro t k
    by_cases hc : (¬ (p1 &&& (1 : Int32)) = 0)
    · rw [show (own_lb (¬ (p1 &&& (1 : Int32)) = 0)) = 1 from if_pos hc] at k
      show Steps p.tables e below (T11.setTop (mkF m 241 #[.val (.int p1), .val (.int p2), .val (.long q1), .second, .val (.int p3), .val (.int p4), .val (.int (own_b (¬ (p1 &&& (1 : Int32)) = 0))), .val (.int (own_b (¬ (p1 &&& (2 : Int32)) = 0))), .val (.int (own_b (¬ (p1 &&& (4 : Int32)) = 0))), .val (.int (own_b (¬ (p1 &&& (8 : Int32)) = 0))), .val (.int (own_b (¬ (p1 &&& (16 : Int32)) = 0))), .val (.int (own_b (¬ (p1 &&& (32 : Int32)) = 0))), .val (.int (p2 &&& (3 : Int32))), .val (.ref nm), .val (.ref b2), .unset, .unset, .unset, .unset, .unset] [])) _
      refine XS.iload X11.here hx rfl (hb hby at_241) rfl ?_
      show Steps p.tables e below (T11.setTop (mkF m 243 #[.val (.int p1), .val (.int p2), .val (.long q1), .second, .val (.int p3), .val (.int p4), .val (.int (own_b (¬ (p1 &&& (1 : Int32)) = 0))), .val (.int (own_b (¬ (p1 &&& (2 : Int32)) = 0))), .val (.int (own_b (¬ (p1 &&& (4 : Int32)) = 0))), .val (.int (own_b (¬ (p1 &&& (8 : Int32)) = 0))), .val (.int (own_b (¬ (p1 &&& (16 : Int32)) = 0))), .val (.int (own_b (¬ (p1 &&& (32 : Int32)) = 0))), .val (.int (p2 &&& (3 : Int32))), .val (.ref nm), .val (.ref b2), .unset, .unset, .unset, .unset, .unset] [(.int (own_b (¬ (p1 &&& (1 : Int32)) = 0)))])) _
      refine XS.ifNo X11.here hx rfl (hb hby at_243) rfl ((if0 _ _).trans (feq (by rw [own_bt hc]; decide)).1) ?_
      show Steps p.tables e below (T11.setTop (mkF m 246 #[.val (.int p1), .val (.int p2), .val (.long q1), .second, .val (.int p3), .val (.int p4), .val (.int (own_b (¬ (p1 &&& (1 : Int32)) = 0))), .val (.int (own_b (¬ (p1 &&& (2 : Int32)) = 0))), .val (.int (own_b (¬ (p1 &&& (4 : Int32)) = 0))), .val (.int (own_b (¬ (p1 &&& (8 : Int32)) = 0))), .val (.int (own_b (¬ (p1 &&& (16 : Int32)) = 0))), .val (.int (own_b (¬ (p1 &&& (32 : Int32)) = 0))), .val (.int (p2 &&& (3 : Int32))), .val (.ref nm), .val (.ref b2), .unset, .unset, .unset, .unset, .unset] [])) _
      refine XS.lconst X11.here hx rfl (hb hby at_246) ?_
      show Steps p.tables e below (T11.setTop (mkF m 247 #[.val (.int p1), .val (.int p2), .val (.long q1), .second, .val (.int p3), .val (.int p4), .val (.int (own_b (¬ (p1 &&& (1 : Int32)) = 0))), .val (.int (own_b (¬ (p1 &&& (2 : Int32)) = 0))), .val (.int (own_b (¬ (p1 &&& (4 : Int32)) = 0))), .val (.int (own_b (¬ (p1 &&& (8 : Int32)) = 0))), .val (.int (own_b (¬ (p1 &&& (16 : Int32)) = 0))), .val (.int (own_b (¬ (p1 &&& (32 : Int32)) = 0))), .val (.int (p2 &&& (3 : Int32))), .val (.ref nm), .val (.ref b2), .unset, .unset, .unset, .unset, .unset] [(.long (1 : Int64))])) _
      refine XS.goto X11.here hx rfl (pc0 := 247) (pc' := 251) rfl (hb hby at_247) (by decide) (by decide) ?_
      exact k
    · rw [show (own_lb (¬ (p1 &&& (1 : Int32)) = 0)) = 0 from if_neg hc] at k
      show Steps p.tables e below (T11.setTop (mkF m 241 #[.val (.int p1), .val (.int p2), .val (.long q1), .second, .val (.int p3), .val (.int p4), .val (.int (own_b (¬ (p1 &&& (1 : Int32)) = 0))), .val (.int (own_b (¬ (p1 &&& (2 : Int32)) = 0))), .val (.int (own_b (¬ (p1 &&& (4 : Int32)) = 0))), .val (.int (own_b (¬ (p1 &&& (8 : Int32)) = 0))), .val (.int (own_b (¬ (p1 &&& (16 : Int32)) = 0))), .val (.int (own_b (¬ (p1 &&& (32 : Int32)) = 0))), .val (.int (p2 &&& (3 : Int32))), .val (.ref nm), .val (.ref b2), .unset, .unset, .unset, .unset, .unset] [])) _
      refine XS.iload X11.here hx rfl (hb hby at_241) rfl ?_
      show Steps p.tables e below (T11.setTop (mkF m 243 #[.val (.int p1), .val (.int p2), .val (.long q1), .second, .val (.int p3), .val (.int p4), .val (.int (own_b (¬ (p1 &&& (1 : Int32)) = 0))), .val (.int (own_b (¬ (p1 &&& (2 : Int32)) = 0))), .val (.int (own_b (¬ (p1 &&& (4 : Int32)) = 0))), .val (.int (own_b (¬ (p1 &&& (8 : Int32)) = 0))), .val (.int (own_b (¬ (p1 &&& (16 : Int32)) = 0))), .val (.int (own_b (¬ (p1 &&& (32 : Int32)) = 0))), .val (.int (p2 &&& (3 : Int32))), .val (.ref nm), .val (.ref b2), .unset, .unset, .unset, .unset, .unset] [(.int (own_b (¬ (p1 &&& (1 : Int32)) = 0)))])) _
      refine XS.ifYes X11.here hx rfl (pc0 := 243) (pc' := 250) rfl (hb hby at_243) rfl ((if0 _ _).trans (teq (own_bf hc)).1) (by decide) (by decide) ?_
      show Steps p.tables e below (T11.setTop (mkF m 250 #[.val (.int p1), .val (.int p2), .val (.long q1), .second, .val (.int p3), .val (.int p4), .val (.int (own_b (¬ (p1 &&& (1 : Int32)) = 0))), .val (.int (own_b (¬ (p1 &&& (2 : Int32)) = 0))), .val (.int (own_b (¬ (p1 &&& (4 : Int32)) = 0))), .val (.int (own_b (¬ (p1 &&& (8 : Int32)) = 0))), .val (.int (own_b (¬ (p1 &&& (16 : Int32)) = 0))), .val (.int (own_b (¬ (p1 &&& (32 : Int32)) = 0))), .val (.int (p2 &&& (3 : Int32))), .val (.ref nm), .val (.ref b2), .unset, .unset, .unset, .unset, .unset] [])) _
      refine XS.lconst X11.here hx rfl (hb hby at_250) ?_
      exact k
  have sg253 : ∀ t, Steps p.tables e below (T11.setTop (mkF m 261 #[.val (.int p1), .val (.int p2), .val (.long q1), .second, .val (.int p3), .val (.int p4), .val (.int (own_b (¬ (p1 &&& (1 : Int32)) = 0))), .val (.int (own_b (¬ (p1 &&& (2 : Int32)) = 0))), .val (.int (own_b (¬ (p1 &&& (4 : Int32)) = 0))), .val (.int (own_b (¬ (p1 &&& (8 : Int32)) = 0))), .val (.int (own_b (¬ (p1 &&& (16 : Int32)) = 0))), .val (.int (own_b (¬ (p1 &&& (32 : Int32)) = 0))), .val (.int (p2 &&& (3 : Int32))), .val (.ref nm), .val (.ref b2), .val (.long (own_zr (¬ (p1 &&& (2 : Int32)) = 0) (own_lb (¬ (p1 &&& (1 : Int32)) = 0)))), .second, .unset, .unset, .unset] [])) t → Steps p.tables e below (T11.setTop (mkF m 253 #[.val (.int p1), .val (.int p2), .val (.long q1), .second, .val (.int p3), .val (.int p4), .val (.int (own_b (¬ (p1 &&& (1 : Int32)) = 0))), .val (.int (own_b (¬ (p1 &&& (2 : Int32)) = 0))), .val (.int (own_b (¬ (p1 &&& (4 : Int32)) = 0))), .val (.int (own_b (¬ (p1 &&& (8 : Int32)) = 0))), .val (.int (own_b (¬ (p1 &&& (16 : Int32)) = 0))), .val (.int (own_b (¬ (p1 &&& (32 : Int32)) = 0))), .val (.int (p2 &&& (3 : Int32))), .val (.ref nm), .val (.ref b2), .val (.long (own_lb (¬ (p1 &&& (1 : Int32)) = 0))), .second, .unset, .unset, .unset] [])) t := by
    intro t k
    by_cases hc : (¬ (p1 &&& (2 : Int32)) = 0)
    · rw [show (own_zr (¬ (p1 &&& (2 : Int32)) = 0) (own_lb (¬ (p1 &&& (1 : Int32)) = 0))) = 0 from if_pos hc] at k
      show Steps p.tables e below (T11.setTop (mkF m 253 #[.val (.int p1), .val (.int p2), .val (.long q1), .second, .val (.int p3), .val (.int p4), .val (.int (own_b (¬ (p1 &&& (1 : Int32)) = 0))), .val (.int (own_b (¬ (p1 &&& (2 : Int32)) = 0))), .val (.int (own_b (¬ (p1 &&& (4 : Int32)) = 0))), .val (.int (own_b (¬ (p1 &&& (8 : Int32)) = 0))), .val (.int (own_b (¬ (p1 &&& (16 : Int32)) = 0))), .val (.int (own_b (¬ (p1 &&& (32 : Int32)) = 0))), .val (.int (p2 &&& (3 : Int32))), .val (.ref nm), .val (.ref b2), .val (.long (own_lb (¬ (p1 &&& (1 : Int32)) = 0))), .second, .unset, .unset, .unset] [])) _
      refine XS.iload X11.here hx rfl (hb hby at_253) rfl ?_
      show Steps p.tables e below (T11.setTop (mkF m 255 #[.val (.int p1), .val (.int p2), .val (.long q1), .second, .val (.int p3), .val (.int p4), .val (.int (own_b (¬ (p1 &&& (1 : Int32)) = 0))), .val (.int (own_b (¬ (p1 &&& (2 : Int32)) = 0))), .val (.int (own_b (¬ (p1 &&& (4 : Int32)) = 0))), .val (.int (own_b (¬ (p1 &&& (8 : Int32)) = 0))), .val (.int (own_b (¬ (p1 &&& (16 : Int32)) = 0))), .val (.int (own_b (¬ (p1 &&& (32 : Int32)) = 0))), .val (.int (p2 &&& (3 : Int32))), .val (.ref nm), .val (.ref b2), .val (.long (own_lb (¬ (p1 &&& (1 : Int32)) = 0))), .second, .unset, .unset, .unset] [(.int (own_b (¬ (p1 &&& (2 : Int32)) = 0)))])) _
      refine XS.ifNo X11.here hx rfl (hb hby at_255) rfl ((if0 _ _).trans (feq (by rw [own_bt hc]; decide)).1) ?_
      show Steps p.tables e below (T11.setTop (mkF m 258 #[.val (.int p1), .val (.int p2), .val (.long q1), .second, .val (.int p3), .val (.int p4), .val (.int (own_b (¬ (p1 &&& (1 : Int32)) = 0))), .val (.int (own_b (¬ (p1 &&& (2 : Int32)) = 0))), .val (.int (own_b (¬ (p1 &&& (4 : Int32)) = 0))), .val (.int (own_b (¬ (p1 &&& (8 : Int32)) = 0))), .val (.int (own_b (¬ (p1 &&& (16 : Int32)) = 0))), .val (.int (own_b (¬ (p1 &&& (32 : Int32)) = 0))), .val (.int (p2 &&& (3 : Int32))), .val (.ref nm), .val (.ref b2), .val (.long (own_lb (¬ (p1 &&& (1 : Int32)) = 0))), .second, .unset, .unset, .unset] [])) _
      refine XS.lconst X11.here hx rfl (hb hby at_258) ?_
      show Steps p.tables e below (T11.setTop (mkF m 259 #[.val (.int p1), .val (.int p2), .val (.long q1), .second, .val (.int p3), .val (.int p4), .val (.int (own_b (¬ (p1 &&& (1 : Int32)) = 0))), .val (.int (own_b (¬ (p1 &&& (2 : Int32)) = 0))), .val (.int (own_b (¬ (p1 &&& (4 : Int32)) = 0))), .val (.int (own_b (¬ (p1 &&& (8 : Int32)) = 0))), .val (.int (own_b (¬ (p1 &&& (16 : Int32)) = 0))), .val (.int (own_b (¬ (p1 &&& (32 : Int32)) = 0))), .val (.int (p2 &&& (3 : Int32))), .val (.ref nm), .val (.ref b2), .val (.long (own_lb (¬ (p1 &&& (1 : Int32)) = 0))), .second, .unset, .unset, .unset] [(.long (0 : Int64))])) _
      refine XS.lstore X11.here hx rfl (hb hby at_259) rfl (l' := #[.val (.int p1), .val (.int p2), .val (.long q1), .second, .val (.int p3), .val (.int p4), .val (.int (own_b (¬ (p1 &&& (1 : Int32)) = 0))), .val (.int (own_b (¬ (p1 &&& (2 : Int32)) = 0))), .val (.int (own_b (¬ (p1 &&& (4 : Int32)) = 0))), .val (.int (own_b (¬ (p1 &&& (8 : Int32)) = 0))), .val (.int (own_b (¬ (p1 &&& (16 : Int32)) = 0))), .val (.int (own_b (¬ (p1 &&& (32 : Int32)) = 0))), .val (.int (p2 &&& (3 : Int32))), .val (.ref nm), .val (.ref b2), .val (.long (0 : Int64)), .second, .unset, .unset, .unset]) rfl ?_
      exact k
    · rw [show (own_zr (¬ (p1 &&& (2 : Int32)) = 0) (own_lb (¬ (p1 &&& (1 : Int32)) = 0))) = (own_lb (¬ (p1 &&& (1 : Int32)) = 0)) from if_neg hc] at k
      show Steps p.tables e below (T11.setTop (mkF m 253 #[.val (.int p1), .val (.int p2), .val (.long q1), .second, .val (.int p3), .val (.int p4), .val (.int (own_b (¬ (p1 &&& (1 : Int32)) = 0))), .val (.int (own_b (¬ (p1 &&& (2 : Int32)) = 0))), .val (.int (own_b (¬ (p1 &&& (4 : Int32)) = 0))), .val (.int (own_b (¬ (p1 &&& (8 : Int32)) = 0))), .val (.int (own_b (¬ (p1 &&& (16 : Int32)) = 0))), .val (.int (own_b (¬ (p1 &&& (32 : Int32)) = 0))), .val (.int (p2 &&& (3 : Int32))), .val (.ref nm), .val (.ref b2), .val (.long (own_lb (¬ (p1 &&& (1 : Int32)) = 0))), .second, .unset, .unset, .unset] [])) _
      refine XS.iload X11.here hx rfl (hb hby at_253) rfl ?_
      show Steps p.tables e below (T11.setTop (mkF m 255 #[.val (.int p1), .val (.int p2), .val (.long q1), .second, .val (.int p3), .val (.int p4), .val (.int (own_b (¬ (p1 &&& (1 : Int32)) = 0))), .val (.int (own_b (¬ (p1 &&& (2 : Int32)) = 0))), .val (.int (own_b (¬ (p1 &&& (4 : Int32)) = 0))), .val (.int (own_b (¬ (p1 &&& (8 : Int32)) = 0))), .val (.int (own_b (¬ (p1 &&& (16 : Int32)) = 0))), .val (.int (own_b (¬ (p1 &&& (32 : Int32)) = 0))), .val (.int (p2 &&& (3 : Int32))), .val (.ref nm), .val (.ref b2), .val (.long (own_lb (¬ (p1 &&& (1 : Int32)) = 0))), .second, .unset, .unset, .unset] [(.int (own_b (¬ (p1 &&& (2 : Int32)) = 0)))])) _
      refine XS.ifYes X11.here hx rfl (pc0 := 255) (pc' := 261) rfl (hb hby at_255) rfl ((if0 _ _).trans (teq (own_bf hc)).1) (by decide) (by decide) ?_
      exact k
  have sg273 : ∀ t, Steps p.tables e below (T11.setTop (mkF m 284 #[.val (.int p1), .val (.int p2), .val (.long q1), .second, .val (.int p3), .val (.int p4), .val (.int (own_b (¬ (p1 &&& (1 : Int32)) = 0))), .val (.int (own_b (¬ (p1 &&& (2 : Int32)) = 0))), .val (.int (own_b (¬ (p1 &&& (4 : Int32)) = 0))), .val (.int (own_b (¬ (p1 &&& (8 : Int32)) = 0))), .val (.int (own_b (¬ (p1 &&& (16 : Int32)) = 0))), .val (.int (own_b (¬ (p1 &&& (32 : Int32)) = 0))), .val (.int (p2 &&& (3 : Int32))), .val (.ref nm), .val (.ref b2), .val (.long (own_zr (¬ (p1 &&& (32 : Int32)) = 0) ((own_zr (¬ (p1 &&& (2 : Int32)) = 0) (own_lb (¬ (p1 &&& (1 : Int32)) = 0))) + ((p2 &&& (3 : Int32)).toInt64)))), .second, .val (.int (own_off (¬ (p1 &&& (32 : Int32)) = 0) (own_b (¬ (p1 &&& (4 : Int32)) = 0)))), .unset, .unset] [])) t → Steps p.tables e below (T11.setTop (mkF m 273 #[.val (.int p1), .val (.int p2), .val (.long q1), .second, .val (.int p3), .val (.int p4), .val (.int (own_b (¬ (p1 &&& (1 : Int32)) = 0))), .val (.int (own_b (¬ (p1 &&& (2 : Int32)) = 0))), .val (.int (own_b (¬ (p1 &&& (4 : Int32)) = 0))), .val (.int (own_b (¬ (p1 &&& (8 : Int32)) = 0))), .val (.int (own_b (¬ (p1 &&& (16 : Int32)) = 0))), .val (.int (own_b (¬ (p1 &&& (32 : Int32)) = 0))), .val (.int (p2 &&& (3 : Int32))), .val (.ref nm), .val (.ref b2), .val (.long ((own_zr (¬ (p1 &&& (2 : Int32)) = 0) (own_lb (¬ (p1 &&& (1 : Int32)) = 0))) + ((p2 &&& (3 : Int32)).toInt64))), .second, .val (.int (own_b (¬ (p1 &&& (4 : Int32)) = 0))), .unset, .unset] [])) t := by
    intro t k
    by_cases hc : (¬ (p1 &&& (32 : Int32)) = 0)
    · rw [show (own_zr (¬ (p1 &&& (32 : Int32)) = 0) ((own_zr (¬ (p1 &&& (2 : Int32)) = 0) (own_lb (¬ (p1 &&& (1 : Int32)) = 0))) + ((p2 &&& (3 : Int32)).toInt64))) = 0 from if_pos hc, show (own_off (¬ (p1 &&& (32 : Int32)) = 0) (own_b (¬ (p1 &&& (4 : Int32)) = 0))) = 0 from if_pos hc] at k
      show Steps p.tables e below (T11.setTop (mkF m 273 #[.val (.int p1), .val (.int p2), .val (.long q1), .second, .val (.int p3), .val (.int p4), .val (.int (own_b (¬ (p1 &&& (1 : Int32)) = 0))), .val (.int (own_b (¬ (p1 &&& (2 : Int32)) = 0))), .val (.int (own_b (¬ (p1 &&& (4 : Int32)) = 0))), .val (.int (own_b (¬ (p1 &&& (8 : Int32)) = 0))), .val (.int (own_b (¬ (p1 &&& (16 : Int32)) = 0))), .val (.int (own_b (¬ (p1 &&& (32 : Int32)) = 0))), .val (.int (p2 &&& (3 : Int32))), .val (.ref nm), .val (.ref b2), .val (.long ((own_zr (¬ (p1 &&& (2 : Int32)) = 0) (own_lb (¬ (p1 &&& (1 : Int32)) = 0))) + ((p2 &&& (3 : Int32)).toInt64))), .second, .val (.int (own_b (¬ (p1 &&& (4 : Int32)) = 0))), .unset, .unset] [])) _
      refine XS.iload X11.here hx rfl (hb hby at_273) rfl ?_
      show Steps p.tables e below (T11.setTop (mkF m 275 #[.val (.int p1), .val (.int p2), .val (.long q1), .second, .val (.int p3), .val (.int p4), .val (.int (own_b (¬ (p1 &&& (1 : Int32)) = 0))), .val (.int (own_b (¬ (p1 &&& (2 : Int32)) = 0))), .val (.int (own_b (¬ (p1 &&& (4 : Int32)) = 0))), .val (.int (own_b (¬ (p1 &&& (8 : Int32)) = 0))), .val (.int (own_b (¬ (p1 &&& (16 : Int32)) = 0))), .val (.int (own_b (¬ (p1 &&& (32 : Int32)) = 0))), .val (.int (p2 &&& (3 : Int32))), .val (.ref nm), .val (.ref b2), .val (.long ((own_zr (¬ (p1 &&& (2 : Int32)) = 0) (own_lb (¬ (p1 &&& (1 : Int32)) = 0))) + ((p2 &&& (3 : Int32)).toInt64))), .second, .val (.int (own_b (¬ (p1 &&& (4 : Int32)) = 0))), .unset, .unset] [(.int (own_b (¬ (p1 &&& (32 : Int32)) = 0)))])) _
      refine XS.ifNo X11.here hx rfl (hb hby at_275) rfl ((if0 _ _).trans (feq (by rw [own_bt hc]; decide)).1) ?_
      show Steps p.tables e below (T11.setTop (mkF m 278 #[.val (.int p1), .val (.int p2), .val (.long q1), .second, .val (.int p3), .val (.int p4), .val (.int (own_b (¬ (p1 &&& (1 : Int32)) = 0))), .val (.int (own_b (¬ (p1 &&& (2 : Int32)) = 0))), .val (.int (own_b (¬ (p1 &&& (4 : Int32)) = 0))), .val (.int (own_b (¬ (p1 &&& (8 : Int32)) = 0))), .val (.int (own_b (¬ (p1 &&& (16 : Int32)) = 0))), .val (.int (own_b (¬ (p1 &&& (32 : Int32)) = 0))), .val (.int (p2 &&& (3 : Int32))), .val (.ref nm), .val (.ref b2), .val (.long ((own_zr (¬ (p1 &&& (2 : Int32)) = 0) (own_lb (¬ (p1 &&& (1 : Int32)) = 0))) + ((p2 &&& (3 : Int32)).toInt64))), .second, .val (.int (own_b (¬ (p1 &&& (4 : Int32)) = 0))), .unset, .unset] [])) _
      refine XS.lconst X11.here hx rfl (hb hby at_278) ?_
      show Steps p.tables e below (T11.setTop (mkF m 279 #[.val (.int p1), .val (.int p2), .val (.long q1), .second, .val (.int p3), .val (.int p4), .val (.int (own_b (¬ (p1 &&& (1 : Int32)) = 0))), .val (.int (own_b (¬ (p1 &&& (2 : Int32)) = 0))), .val (.int (own_b (¬ (p1 &&& (4 : Int32)) = 0))), .val (.int (own_b (¬ (p1 &&& (8 : Int32)) = 0))), .val (.int (own_b (¬ (p1 &&& (16 : Int32)) = 0))), .val (.int (own_b (¬ (p1 &&& (32 : Int32)) = 0))), .val (.int (p2 &&& (3 : Int32))), .val (.ref nm), .val (.ref b2), .val (.long ((own_zr (¬ (p1 &&& (2 : Int32)) = 0) (own_lb (¬ (p1 &&& (1 : Int32)) = 0))) + ((p2 &&& (3 : Int32)).toInt64))), .second, .val (.int (own_b (¬ (p1 &&& (4 : Int32)) = 0))), .unset, .unset] [(.long (0 : Int64))])) _
      refine XS.lstore X11.here hx rfl (hb hby at_279) rfl (l' := #[.val (.int p1), .val (.int p2), .val (.long q1), .second, .val (.int p3), .val (.int p4), .val (.int (own_b (¬ (p1 &&& (1 : Int32)) = 0))), .val (.int (own_b (¬ (p1 &&& (2 : Int32)) = 0))), .val (.int (own_b (¬ (p1 &&& (4 : Int32)) = 0))), .val (.int (own_b (¬ (p1 &&& (8 : Int32)) = 0))), .val (.int (own_b (¬ (p1 &&& (16 : Int32)) = 0))), .val (.int (own_b (¬ (p1 &&& (32 : Int32)) = 0))), .val (.int (p2 &&& (3 : Int32))), .val (.ref nm), .val (.ref b2), .val (.long (0 : Int64)), .second, .val (.int (own_b (¬ (p1 &&& (4 : Int32)) = 0))), .unset, .unset]) rfl ?_
      show Steps p.tables e below (T11.setTop (mkF m 281 #[.val (.int p1), .val (.int p2), .val (.long q1), .second, .val (.int p3), .val (.int p4), .val (.int (own_b (¬ (p1 &&& (1 : Int32)) = 0))), .val (.int (own_b (¬ (p1 &&& (2 : Int32)) = 0))), .val (.int (own_b (¬ (p1 &&& (4 : Int32)) = 0))), .val (.int (own_b (¬ (p1 &&& (8 : Int32)) = 0))), .val (.int (own_b (¬ (p1 &&& (16 : Int32)) = 0))), .val (.int (own_b (¬ (p1 &&& (32 : Int32)) = 0))), .val (.int (p2 &&& (3 : Int32))), .val (.ref nm), .val (.ref b2), .val (.long (0 : Int64)), .second, .val (.int (own_b (¬ (p1 &&& (4 : Int32)) = 0))), .unset, .unset] [])) _
      refine XS.iconst X11.here hx rfl (hb hby at_281) ?_
      show Steps p.tables e below (T11.setTop (mkF m 282 #[.val (.int p1), .val (.int p2), .val (.long q1), .second, .val (.int p3), .val (.int p4), .val (.int (own_b (¬ (p1 &&& (1 : Int32)) = 0))), .val (.int (own_b (¬ (p1 &&& (2 : Int32)) = 0))), .val (.int (own_b (¬ (p1 &&& (4 : Int32)) = 0))), .val (.int (own_b (¬ (p1 &&& (8 : Int32)) = 0))), .val (.int (own_b (¬ (p1 &&& (16 : Int32)) = 0))), .val (.int (own_b (¬ (p1 &&& (32 : Int32)) = 0))), .val (.int (p2 &&& (3 : Int32))), .val (.ref nm), .val (.ref b2), .val (.long (0 : Int64)), .second, .val (.int (own_b (¬ (p1 &&& (4 : Int32)) = 0))), .unset, .unset] [(.int (0 : Int32))])) _
      refine XS.istore X11.here hx rfl (hb hby at_282) rfl (l' := #[.val (.int p1), .val (.int p2), .val (.long q1), .second, .val (.int p3), .val (.int p4), .val (.int (own_b (¬ (p1 &&& (1 : Int32)) = 0))), .val (.int (own_b (¬ (p1 &&& (2 : Int32)) = 0))), .val (.int (own_b (¬ (p1 &&& (4 : Int32)) = 0))), .val (.int (own_b (¬ (p1 &&& (8 : Int32)) = 0))), .val (.int (own_b (¬ (p1 &&& (16 : Int32)) = 0))), .val (.int (own_b (¬ (p1 &&& (32 : Int32)) = 0))), .val (.int (p2 &&& (3 : Int32))), .val (.ref nm), .val (.ref b2), .val (.long (0 : Int64)), .second, .val (.int (0 : Int32)), .unset, .unset]) rfl ?_
      exact k
    · rw [show (own_zr (¬ (p1 &&& (32 : Int32)) = 0) ((own_zr (¬ (p1 &&& (2 : Int32)) = 0) (own_lb (¬ (p1 &&& (1 : Int32)) = 0))) + ((p2 &&& (3 : Int32)).toInt64))) = ((own_zr (¬ (p1 &&& (2 : Int32)) = 0) (own_lb (¬ (p1 &&& (1 : Int32)) = 0))) + ((p2 &&& (3 : Int32)).toInt64)) from if_neg hc, show (own_off (¬ (p1 &&& (32 : Int32)) = 0) (own_b (¬ (p1 &&& (4 : Int32)) = 0))) = own_b (¬ (p1 &&& (4 : Int32)) = 0) from if_neg hc] at k
      show Steps p.tables e below (T11.setTop (mkF m 273 #[.val (.int p1), .val (.int p2), .val (.long q1), .second, .val (.int p3), .val (.int p4), .val (.int (own_b (¬ (p1 &&& (1 : Int32)) = 0))), .val (.int (own_b (¬ (p1 &&& (2 : Int32)) = 0))), .val (.int (own_b (¬ (p1 &&& (4 : Int32)) = 0))), .val (.int (own_b (¬ (p1 &&& (8 : Int32)) = 0))), .val (.int (own_b (¬ (p1 &&& (16 : Int32)) = 0))), .val (.int (own_b (¬ (p1 &&& (32 : Int32)) = 0))), .val (.int (p2 &&& (3 : Int32))), .val (.ref nm), .val (.ref b2), .val (.long ((own_zr (¬ (p1 &&& (2 : Int32)) = 0) (own_lb (¬ (p1 &&& (1 : Int32)) = 0))) + ((p2 &&& (3 : Int32)).toInt64))), .second, .val (.int (own_b (¬ (p1 &&& (4 : Int32)) = 0))), .unset, .unset] [])) _
      refine XS.iload X11.here hx rfl (hb hby at_273) rfl ?_
      show Steps p.tables e below (T11.setTop (mkF m 275 #[.val (.int p1), .val (.int p2), .val (.long q1), .second, .val (.int p3), .val (.int p4), .val (.int (own_b (¬ (p1 &&& (1 : Int32)) = 0))), .val (.int (own_b (¬ (p1 &&& (2 : Int32)) = 0))), .val (.int (own_b (¬ (p1 &&& (4 : Int32)) = 0))), .val (.int (own_b (¬ (p1 &&& (8 : Int32)) = 0))), .val (.int (own_b (¬ (p1 &&& (16 : Int32)) = 0))), .val (.int (own_b (¬ (p1 &&& (32 : Int32)) = 0))), .val (.int (p2 &&& (3 : Int32))), .val (.ref nm), .val (.ref b2), .val (.long ((own_zr (¬ (p1 &&& (2 : Int32)) = 0) (own_lb (¬ (p1 &&& (1 : Int32)) = 0))) + ((p2 &&& (3 : Int32)).toInt64))), .second, .val (.int (own_b (¬ (p1 &&& (4 : Int32)) = 0))), .unset, .unset] [(.int (own_b (¬ (p1 &&& (32 : Int32)) = 0)))])) _
      refine XS.ifYes X11.here hx rfl (pc0 := 275) (pc' := 284) rfl (hb hby at_275) rfl ((if0 _ _).trans (teq (own_bf hc)).1) (by decide) (by decide) ?_
      exact k
  have sg284 : ∀ t, Steps p.tables e below (T11.setTop (mkF m 297 #[.val (.int p1), .val (.int p2), .val (.long q1), .second, .val (.int p3), .val (.int p4), .val (.int (own_b (¬ (p1 &&& (1 : Int32)) = 0))), .val (.int (own_b (¬ (p1 &&& (2 : Int32)) = 0))), .val (.int (own_b (¬ (p1 &&& (4 : Int32)) = 0))), .val (.int (own_b (¬ (p1 &&& (8 : Int32)) = 0))), .val (.int (own_b (¬ (p1 &&& (16 : Int32)) = 0))), .val (.int (own_b (¬ (p1 &&& (32 : Int32)) = 0))), .val (.int (p2 &&& (3 : Int32))), .val (.ref nm), .val (.ref b2), .val (.long (own_zr (¬ (p1 &&& (32 : Int32)) = 0) ((own_zr (¬ (p1 &&& (2 : Int32)) = 0) (own_lb (¬ (p1 &&& (1 : Int32)) = 0))) + ((p2 &&& (3 : Int32)).toInt64)))), .second, .val (.int (own_off (¬ (p1 &&& (32 : Int32)) = 0) (own_b (¬ (p1 &&& (4 : Int32)) = 0)))), .unset, .unset] [(.long (own_exp (own_off (¬ (p1 &&& (32 : Int32)) = 0) (own_b (¬ (p1 &&& (4 : Int32)) = 0))) (own_zr (¬ (p1 &&& (32 : Int32)) = 0) ((own_zr (¬ (p1 &&& (2 : Int32)) = 0) (own_lb (¬ (p1 &&& (1 : Int32)) = 0))) + ((p2 &&& (3 : Int32)).toInt64)))))])) t → Steps p.tables e below (T11.setTop (mkF m 284 #[.val (.int p1), .val (.int p2), .val (.long q1), .second, .val (.int p3), .val (.int p4), .val (.int (own_b (¬ (p1 &&& (1 : Int32)) = 0))), .val (.int (own_b (¬ (p1 &&& (2 : Int32)) = 0))), .val (.int (own_b (¬ (p1 &&& (4 : Int32)) = 0))), .val (.int (own_b (¬ (p1 &&& (8 : Int32)) = 0))), .val (.int (own_b (¬ (p1 &&& (16 : Int32)) = 0))), .val (.int (own_b (¬ (p1 &&& (32 : Int32)) = 0))), .val (.int (p2 &&& (3 : Int32))), .val (.ref nm), .val (.ref b2), .val (.long (own_zr (¬ (p1 &&& (32 : Int32)) = 0) ((own_zr (¬ (p1 &&& (2 : Int32)) = 0) (own_lb (¬ (p1 &&& (1 : Int32)) = 0))) + ((p2 &&& (3 : Int32)).toInt64)))), .second, .val (.int (own_off (¬ (p1 &&& (32 : Int32)) = 0) (own_b (¬ (p1 &&& (4 : Int32)) = 0)))), .unset, .unset] [])) t := by
    intro t k
    by_cases hc : (own_off (¬ (p1 &&& (32 : Int32)) = 0) (own_b (¬ (p1 &&& (4 : Int32)) = 0))) = 0
    · rw [show (own_exp (own_off (¬ (p1 &&& (32 : Int32)) = 0) (own_b (¬ (p1 &&& (4 : Int32)) = 0))) (own_zr (¬ (p1 &&& (32 : Int32)) = 0) ((own_zr (¬ (p1 &&& (2 : Int32)) = 0) (own_lb (¬ (p1 &&& (1 : Int32)) = 0))) + ((p2 &&& (3 : Int32)).toInt64)))) = (own_zr (¬ (p1 &&& (32 : Int32)) = 0) ((own_zr (¬ (p1 &&& (2 : Int32)) = 0) (own_lb (¬ (p1 &&& (1 : Int32)) = 0))) + ((p2 &&& (3 : Int32)).toInt64))) from if_pos hc] at k
      show Steps p.tables e below (T11.setTop (mkF m 284 #[.val (.int p1), .val (.int p2), .val (.long q1), .second, .val (.int p3), .val (.int p4), .val (.int (own_b (¬ (p1 &&& (1 : Int32)) = 0))), .val (.int (own_b (¬ (p1 &&& (2 : Int32)) = 0))), .val (.int (own_b (¬ (p1 &&& (4 : Int32)) = 0))), .val (.int (own_b (¬ (p1 &&& (8 : Int32)) = 0))), .val (.int (own_b (¬ (p1 &&& (16 : Int32)) = 0))), .val (.int (own_b (¬ (p1 &&& (32 : Int32)) = 0))), .val (.int (p2 &&& (3 : Int32))), .val (.ref nm), .val (.ref b2), .val (.long (own_zr (¬ (p1 &&& (32 : Int32)) = 0) ((own_zr (¬ (p1 &&& (2 : Int32)) = 0) (own_lb (¬ (p1 &&& (1 : Int32)) = 0))) + ((p2 &&& (3 : Int32)).toInt64)))), .second, .val (.int (own_off (¬ (p1 &&& (32 : Int32)) = 0) (own_b (¬ (p1 &&& (4 : Int32)) = 0)))), .unset, .unset] [])) _
      refine XS.iload X11.here hx rfl (hb hby at_284) rfl ?_
      show Steps p.tables e below (T11.setTop (mkF m 286 #[.val (.int p1), .val (.int p2), .val (.long q1), .second, .val (.int p3), .val (.int p4), .val (.int (own_b (¬ (p1 &&& (1 : Int32)) = 0))), .val (.int (own_b (¬ (p1 &&& (2 : Int32)) = 0))), .val (.int (own_b (¬ (p1 &&& (4 : Int32)) = 0))), .val (.int (own_b (¬ (p1 &&& (8 : Int32)) = 0))), .val (.int (own_b (¬ (p1 &&& (16 : Int32)) = 0))), .val (.int (own_b (¬ (p1 &&& (32 : Int32)) = 0))), .val (.int (p2 &&& (3 : Int32))), .val (.ref nm), .val (.ref b2), .val (.long (own_zr (¬ (p1 &&& (32 : Int32)) = 0) ((own_zr (¬ (p1 &&& (2 : Int32)) = 0) (own_lb (¬ (p1 &&& (1 : Int32)) = 0))) + ((p2 &&& (3 : Int32)).toInt64)))), .second, .val (.int (own_off (¬ (p1 &&& (32 : Int32)) = 0) (own_b (¬ (p1 &&& (4 : Int32)) = 0)))), .unset, .unset] [(.int (own_off (¬ (p1 &&& (32 : Int32)) = 0) (own_b (¬ (p1 &&& (4 : Int32)) = 0))))])) _
      refine XS.ifYes X11.here hx rfl (pc0 := 286) (pc' := 295) rfl (hb hby at_286) rfl ((if0 _ _).trans (teq hc).1) (by decide) (by decide) ?_
      show Steps p.tables e below (T11.setTop (mkF m 295 #[.val (.int p1), .val (.int p2), .val (.long q1), .second, .val (.int p3), .val (.int p4), .val (.int (own_b (¬ (p1 &&& (1 : Int32)) = 0))), .val (.int (own_b (¬ (p1 &&& (2 : Int32)) = 0))), .val (.int (own_b (¬ (p1 &&& (4 : Int32)) = 0))), .val (.int (own_b (¬ (p1 &&& (8 : Int32)) = 0))), .val (.int (own_b (¬ (p1 &&& (16 : Int32)) = 0))), .val (.int (own_b (¬ (p1 &&& (32 : Int32)) = 0))), .val (.int (p2 &&& (3 : Int32))), .val (.ref nm), .val (.ref b2), .val (.long (own_zr (¬ (p1 &&& (32 : Int32)) = 0) ((own_zr (¬ (p1 &&& (2 : Int32)) = 0) (own_lb (¬ (p1 &&& (1 : Int32)) = 0))) + ((p2 &&& (3 : Int32)).toInt64)))), .second, .val (.int (own_off (¬ (p1 &&& (32 : Int32)) = 0) (own_b (¬ (p1 &&& (4 : Int32)) = 0)))), .unset, .unset] [])) _
      refine XS.lload X11.here hx rfl (hb hby at_295) rfl ?_
      exact k
    · rw [show (own_exp (own_off (¬ (p1 &&& (32 : Int32)) = 0) (own_b (¬ (p1 &&& (4 : Int32)) = 0))) (own_zr (¬ (p1 &&& (32 : Int32)) = 0) ((own_zr (¬ (p1 &&& (2 : Int32)) = 0) (own_lb (¬ (p1 &&& (1 : Int32)) = 0))) + ((p2 &&& (3 : Int32)).toInt64)))) = -1 from if_neg hc] at k
      show Steps p.tables e below (T11.setTop (mkF m 284 #[.val (.int p1), .val (.int p2), .val (.long q1), .second, .val (.int p3), .val (.int p4), .val (.int (own_b (¬ (p1 &&& (1 : Int32)) = 0))), .val (.int (own_b (¬ (p1 &&& (2 : Int32)) = 0))), .val (.int (own_b (¬ (p1 &&& (4 : Int32)) = 0))), .val (.int (own_b (¬ (p1 &&& (8 : Int32)) = 0))), .val (.int (own_b (¬ (p1 &&& (16 : Int32)) = 0))), .val (.int (own_b (¬ (p1 &&& (32 : Int32)) = 0))), .val (.int (p2 &&& (3 : Int32))), .val (.ref nm), .val (.ref b2), .val (.long (own_zr (¬ (p1 &&& (32 : Int32)) = 0) ((own_zr (¬ (p1 &&& (2 : Int32)) = 0) (own_lb (¬ (p1 &&& (1 : Int32)) = 0))) + ((p2 &&& (3 : Int32)).toInt64)))), .second, .val (.int (own_off (¬ (p1 &&& (32 : Int32)) = 0) (own_b (¬ (p1 &&& (4 : Int32)) = 0)))), .unset, .unset] [])) _
      refine XS.iload X11.here hx rfl (hb hby at_284) rfl ?_
      show Steps p.tables e below (T11.setTop (mkF m 286 #[.val (.int p1), .val (.int p2), .val (.long q1), .second, .val (.int p3), .val (.int p4), .val (.int (own_b (¬ (p1 &&& (1 : Int32)) = 0))), .val (.int (own_b (¬ (p1 &&& (2 : Int32)) = 0))), .val (.int (own_b (¬ (p1 &&& (4 : Int32)) = 0))), .val (.int (own_b (¬ (p1 &&& (8 : Int32)) = 0))), .val (.int (own_b (¬ (p1 &&& (16 : Int32)) = 0))), .val (.int (own_b (¬ (p1 &&& (32 : Int32)) = 0))), .val (.int (p2 &&& (3 : Int32))), .val (.ref nm), .val (.ref b2), .val (.long (own_zr (¬ (p1 &&& (32 : Int32)) = 0) ((own_zr (¬ (p1 &&& (2 : Int32)) = 0) (own_lb (¬ (p1 &&& (1 : Int32)) = 0))) + ((p2 &&& (3 : Int32)).toInt64)))), .second, .val (.int (own_off (¬ (p1 &&& (32 : Int32)) = 0) (own_b (¬ (p1 &&& (4 : Int32)) = 0)))), .unset, .unset] [(.int (own_off (¬ (p1 &&& (32 : Int32)) = 0) (own_b (¬ (p1 &&& (4 : Int32)) = 0))))])) _
      refine XS.ifNo X11.here hx rfl (hb hby at_286) rfl ((if0 _ _).trans (feq hc).1) ?_
      show Steps p.tables e below (T11.setTop (mkF m 289 #[.val (.int p1), .val (.int p2), .val (.long q1), .second, .val (.int p3), .val (.int p4), .val (.int (own_b (¬ (p1 &&& (1 : Int32)) = 0))), .val (.int (own_b (¬ (p1 &&& (2 : Int32)) = 0))), .val (.int (own_b (¬ (p1 &&& (4 : Int32)) = 0))), .val (.int (own_b (¬ (p1 &&& (8 : Int32)) = 0))), .val (.int (own_b (¬ (p1 &&& (16 : Int32)) = 0))), .val (.int (own_b (¬ (p1 &&& (32 : Int32)) = 0))), .val (.int (p2 &&& (3 : Int32))), .val (.ref nm), .val (.ref b2), .val (.long (own_zr (¬ (p1 &&& (32 : Int32)) = 0) ((own_zr (¬ (p1 &&& (2 : Int32)) = 0) (own_lb (¬ (p1 &&& (1 : Int32)) = 0))) + ((p2 &&& (3 : Int32)).toInt64)))), .second, .val (.int (own_off (¬ (p1 &&& (32 : Int32)) = 0) (own_b (¬ (p1 &&& (4 : Int32)) = 0)))), .unset, .unset] [])) _
      refine X11.ldc2J hx hown (mvT hZ (hw _ (List.mem_of_getElem? (i := 61) rfl))) (g := (mkF m 289 #[.val (.int p1), .val (.int p2), .val (.long q1), .second, .val (.int p3), .val (.int p4), .val (.int (own_b (¬ (p1 &&& (1 : Int32)) = 0))), .val (.int (own_b (¬ (p1 &&& (2 : Int32)) = 0))), .val (.int (own_b (¬ (p1 &&& (4 : Int32)) = 0))), .val (.int (own_b (¬ (p1 &&& (8 : Int32)) = 0))), .val (.int (own_b (¬ (p1 &&& (16 : Int32)) = 0))), .val (.int (own_b (¬ (p1 &&& (32 : Int32)) = 0))), .val (.int (p2 &&& (3 : Int32))), .val (.ref nm), .val (.ref b2), .val (.long (own_zr (¬ (p1 &&& (32 : Int32)) = 0) ((own_zr (¬ (p1 &&& (2 : Int32)) = 0) (own_lb (¬ (p1 &&& (1 : Int32)) = 0))) + ((p2 &&& (3 : Int32)).toInt64)))), .second, .val (.int (own_off (¬ (p1 &&& (32 : Int32)) = 0) (own_b (¬ (p1 &&& (4 : Int32)) = 0)))), .unset, .unset] [])) rfl (hb hby at_289) ?_
      show Steps p.tables e below (T11.setTop (mkF m 292 #[.val (.int p1), .val (.int p2), .val (.long q1), .second, .val (.int p3), .val (.int p4), .val (.int (own_b (¬ (p1 &&& (1 : Int32)) = 0))), .val (.int (own_b (¬ (p1 &&& (2 : Int32)) = 0))), .val (.int (own_b (¬ (p1 &&& (4 : Int32)) = 0))), .val (.int (own_b (¬ (p1 &&& (8 : Int32)) = 0))), .val (.int (own_b (¬ (p1 &&& (16 : Int32)) = 0))), .val (.int (own_b (¬ (p1 &&& (32 : Int32)) = 0))), .val (.int (p2 &&& (3 : Int32))), .val (.ref nm), .val (.ref b2), .val (.long (own_zr (¬ (p1 &&& (32 : Int32)) = 0) ((own_zr (¬ (p1 &&& (2 : Int32)) = 0) (own_lb (¬ (p1 &&& (1 : Int32)) = 0))) + ((p2 &&& (3 : Int32)).toInt64)))), .second, .val (.int (own_off (¬ (p1 &&& (32 : Int32)) = 0) (own_b (¬ (p1 &&& (4 : Int32)) = 0)))), .unset, .unset] [(.long (-1 : Int64))])) _
      refine XS.goto X11.here hx rfl (pc0 := 292) (pc' := 297) rfl (hb hby at_292) (by decide) (by decide) ?_
      exact k
  obtain ⟨cq12, kq12, q12a, q12b, q12c⟩ := isOf hZ rfl S11.1
  obtain ⟨_, _, ⟨T12, L12, k12, n12⟩, -, X12, ⟨Lc12, hQ12, l12, y12, z12⟩, st12⟩ := X11.virtualBack hx (y := (⟨"dev/shiftwise/stats/Statistics", "windows", "()J"⟩ : MethodName)) (z := (⟨"dev/shiftwise/stats/Statistics", "windows", "()J"⟩ : MethodName)) hown (mvT hZ (hw _ (List.mem_of_getElem? (i := 62) rfl))) (mvT hZ (hw _ (List.mem_of_getElem? (i := 63) rfl))) (notFace_of_selects (args := #[]) (mvT hZ (hw _ (List.mem_of_getElem? (i := 65) rfl)))) (mvT hZ (hw _ (List.mem_of_getElem? (i := 65) rfl))) (mvT hZ (hw _ (List.mem_of_getElem? (i := 64) rfl))) (by decide) (backOf (W := 0) (rm9 l Z a0 hw [] b2 (own_nul (¬ (p1 &&& (32 : Int32)) = 0) (own_sb ((¬ (p1 &&& (4 : Int32)) = 0) ∨ (¬ (p1 &&& (8 : Int32)) = 0)) nm)) (own_on (¬ (p1 &&& (32 : Int32)) = 0) (own_off (¬ (p1 &&& (4 : Int32)) = 0) 1)) (own_zr (¬ (p1 &&& (32 : Int32)) = 0) (own_up (¬ (p2 &&& (3 : Int32)) < 3) (own_up (¬ (p2 &&& (3 : Int32)) < 2) (own_up (¬ (p2 &&& (3 : Int32)) < 1) (own_zr (¬ (p1 &&& (2 : Int32)) = 0) (own_up (¬ (p1 &&& (1 : Int32)) = 0) 0)))))) T11.heap n0 Z11 S11 gb) hZ (hw _ (List.mem_of_getElem? (i := 66) rfl)) (hw _ (List.mem_of_getElem? (i := 28) rfl)) (by decide) (by decide)) q12a q12c (g := (mkF m 301 #[.val (.int p1), .val (.int p2), .val (.long q1), .second, .val (.int p3), .val (.int p4), .val (.int (own_b (¬ (p1 &&& (1 : Int32)) = 0))), .val (.int (own_b (¬ (p1 &&& (2 : Int32)) = 0))), .val (.int (own_b (¬ (p1 &&& (4 : Int32)) = 0))), .val (.int (own_b (¬ (p1 &&& (8 : Int32)) = 0))), .val (.int (own_b (¬ (p1 &&& (16 : Int32)) = 0))), .val (.int (own_b (¬ (p1 &&& (32 : Int32)) = 0))), .val (.int (p2 &&& (3 : Int32))), .val (.ref nm), .val (.ref b2), .val (.long (own_zr (¬ (p1 &&& (32 : Int32)) = 0) ((own_zr (¬ (p1 &&& (2 : Int32)) = 0) (own_lb (¬ (p1 &&& (1 : Int32)) = 0))) + ((p2 &&& (3 : Int32)).toInt64)))), .second, .val (.int (own_off (¬ (p1 &&& (32 : Int32)) = 0) (own_b (¬ (p1 &&& (4 : Int32)) = 0)))), .val (.long (own_exp (own_off (¬ (p1 &&& (32 : Int32)) = 0) (own_b (¬ (p1 &&& (4 : Int32)) = 0))) (own_zr (¬ (p1 &&& (32 : Int32)) = 0) ((own_zr (¬ (p1 &&& (2 : Int32)) = 0) (own_lb (¬ (p1 &&& (1 : Int32)) = 0))) + ((p2 &&& (3 : Int32)).toInt64))))), .second] [(.ref b2)])) rfl (by rw [hml]; rfl) (Steps.refl _) (argsL := []) (rest := []) (lenOf pd_ocJ rfl) rfl (by show 2 * 0 + _ ≤ _; exact Nat.le_of_eq rfl) (hb hby at_301) (fun _ _ => ⟨rfl, rfl, (by decide : 3 + 0 ≤ _), (by decide : 15 + 0 ≤ _)⟩)
  dsimp only [Pt.U, Pt.locs, Pt.cells, Pt.slots] at X12 l12 y12 z12 st12 hQ12
  subst l12 y12 z12
  obtain ⟨rfl, N12q, eq12⟩ := hQ12
  have N12 := Fr.app N11 N12q
  obtain ⟨fs, hr, hrun, hended, hW, hsame⟩ := X12.leave (v := some (.int (1 : Int32))) (fun h => by rw [Bd.returns] at h; cases h)
  refine ⟨_, _, pre0 _ ?_, hrun, hended, _, _, rfl, ?_, ⟨_, rfl⟩, hW, hsame.mono (by decide) (by decide)⟩
  · show Steps p.tables e below (s₁.setTop (mkF m 0 #[.val (.int p1), .val (.int p2), .val (.long q1), .second, .val (.int p3), .val (.int p4), .unset, .unset, .unset, .unset, .unset, .unset, .unset, .unset, .unset, .unset, .unset, .unset, .unset, .unset] [])) _
    show Steps p.tables e below (s₁.setTop (mkF m 0 #[.val (.int p1), .val (.int p2), .val (.long q1), .second, .val (.int p3), .val (.int p4), .unset, .unset, .unset, .unset, .unset, .unset, .unset, .unset, .unset, .unset, .unset, .unset, .unset, .unset] [])) _
    refine sg0 _ ?_
    show Steps p.tables e below (s₁.setTop (mkF m 11 #[.val (.int p1), .val (.int p2), .val (.long q1), .second, .val (.int p3), .val (.int p4), .unset, .unset, .unset, .unset, .unset, .unset, .unset, .unset, .unset, .unset, .unset, .unset, .unset, .unset] [(.int (own_b (¬ (p1 &&& (1 : Int32)) = 0)))])) _
    refine XS.istore X0.here hx rfl (hb hby at_11) rfl (l' := #[.val (.int p1), .val (.int p2), .val (.long q1), .second, .val (.int p3), .val (.int p4), .val (.int (own_b (¬ (p1 &&& (1 : Int32)) = 0))), .unset, .unset, .unset, .unset, .unset, .unset, .unset, .unset, .unset, .unset, .unset, .unset, .unset]) rfl ?_
    show Steps p.tables e below (s₁.setTop (mkF m 13 #[.val (.int p1), .val (.int p2), .val (.long q1), .second, .val (.int p3), .val (.int p4), .val (.int (own_b (¬ (p1 &&& (1 : Int32)) = 0))), .unset, .unset, .unset, .unset, .unset, .unset, .unset, .unset, .unset, .unset, .unset, .unset, .unset] [])) _
    refine sg13 _ ?_
    show Steps p.tables e below (s₁.setTop (mkF m 24 #[.val (.int p1), .val (.int p2), .val (.long q1), .second, .val (.int p3), .val (.int p4), .val (.int (own_b (¬ (p1 &&& (1 : Int32)) = 0))), .unset, .unset, .unset, .unset, .unset, .unset, .unset, .unset, .unset, .unset, .unset, .unset, .unset] [(.int (own_b (¬ (p1 &&& (2 : Int32)) = 0)))])) _
    refine XS.istore X0.here hx rfl (hb hby at_24) rfl (l' := #[.val (.int p1), .val (.int p2), .val (.long q1), .second, .val (.int p3), .val (.int p4), .val (.int (own_b (¬ (p1 &&& (1 : Int32)) = 0))), .val (.int (own_b (¬ (p1 &&& (2 : Int32)) = 0))), .unset, .unset, .unset, .unset, .unset, .unset, .unset, .unset, .unset, .unset, .unset, .unset]) rfl ?_
    show Steps p.tables e below (s₁.setTop (mkF m 26 #[.val (.int p1), .val (.int p2), .val (.long q1), .second, .val (.int p3), .val (.int p4), .val (.int (own_b (¬ (p1 &&& (1 : Int32)) = 0))), .val (.int (own_b (¬ (p1 &&& (2 : Int32)) = 0))), .unset, .unset, .unset, .unset, .unset, .unset, .unset, .unset, .unset, .unset, .unset, .unset] [])) _
    refine sg26 _ ?_
    show Steps p.tables e below (s₁.setTop (mkF m 37 #[.val (.int p1), .val (.int p2), .val (.long q1), .second, .val (.int p3), .val (.int p4), .val (.int (own_b (¬ (p1 &&& (1 : Int32)) = 0))), .val (.int (own_b (¬ (p1 &&& (2 : Int32)) = 0))), .unset, .unset, .unset, .unset, .unset, .unset, .unset, .unset, .unset, .unset, .unset, .unset] [(.int (own_b (¬ (p1 &&& (4 : Int32)) = 0)))])) _
    refine XS.istore X0.here hx rfl (hb hby at_37) rfl (l' := #[.val (.int p1), .val (.int p2), .val (.long q1), .second, .val (.int p3), .val (.int p4), .val (.int (own_b (¬ (p1 &&& (1 : Int32)) = 0))), .val (.int (own_b (¬ (p1 &&& (2 : Int32)) = 0))), .val (.int (own_b (¬ (p1 &&& (4 : Int32)) = 0))), .unset, .unset, .unset, .unset, .unset, .unset, .unset, .unset, .unset, .unset, .unset]) rfl ?_
    show Steps p.tables e below (s₁.setTop (mkF m 39 #[.val (.int p1), .val (.int p2), .val (.long q1), .second, .val (.int p3), .val (.int p4), .val (.int (own_b (¬ (p1 &&& (1 : Int32)) = 0))), .val (.int (own_b (¬ (p1 &&& (2 : Int32)) = 0))), .val (.int (own_b (¬ (p1 &&& (4 : Int32)) = 0))), .unset, .unset, .unset, .unset, .unset, .unset, .unset, .unset, .unset, .unset, .unset] [])) _
    refine sg39 _ ?_
    show Steps p.tables e below (s₁.setTop (mkF m 51 #[.val (.int p1), .val (.int p2), .val (.long q1), .second, .val (.int p3), .val (.int p4), .val (.int (own_b (¬ (p1 &&& (1 : Int32)) = 0))), .val (.int (own_b (¬ (p1 &&& (2 : Int32)) = 0))), .val (.int (own_b (¬ (p1 &&& (4 : Int32)) = 0))), .unset, .unset, .unset, .unset, .unset, .unset, .unset, .unset, .unset, .unset, .unset] [(.int (own_b (¬ (p1 &&& (8 : Int32)) = 0)))])) _
    refine XS.istore X0.here hx rfl (hb hby at_51) rfl (l' := #[.val (.int p1), .val (.int p2), .val (.long q1), .second, .val (.int p3), .val (.int p4), .val (.int (own_b (¬ (p1 &&& (1 : Int32)) = 0))), .val (.int (own_b (¬ (p1 &&& (2 : Int32)) = 0))), .val (.int (own_b (¬ (p1 &&& (4 : Int32)) = 0))), .val (.int (own_b (¬ (p1 &&& (8 : Int32)) = 0))), .unset, .unset, .unset, .unset, .unset, .unset, .unset, .unset, .unset, .unset]) rfl ?_
    show Steps p.tables e below (s₁.setTop (mkF m 53 #[.val (.int p1), .val (.int p2), .val (.long q1), .second, .val (.int p3), .val (.int p4), .val (.int (own_b (¬ (p1 &&& (1 : Int32)) = 0))), .val (.int (own_b (¬ (p1 &&& (2 : Int32)) = 0))), .val (.int (own_b (¬ (p1 &&& (4 : Int32)) = 0))), .val (.int (own_b (¬ (p1 &&& (8 : Int32)) = 0))), .unset, .unset, .unset, .unset, .unset, .unset, .unset, .unset, .unset, .unset] [])) _
    refine sg53 _ ?_
    show Steps p.tables e below (s₁.setTop (mkF m 65 #[.val (.int p1), .val (.int p2), .val (.long q1), .second, .val (.int p3), .val (.int p4), .val (.int (own_b (¬ (p1 &&& (1 : Int32)) = 0))), .val (.int (own_b (¬ (p1 &&& (2 : Int32)) = 0))), .val (.int (own_b (¬ (p1 &&& (4 : Int32)) = 0))), .val (.int (own_b (¬ (p1 &&& (8 : Int32)) = 0))), .unset, .unset, .unset, .unset, .unset, .unset, .unset, .unset, .unset, .unset] [(.int (own_b (¬ (p1 &&& (16 : Int32)) = 0)))])) _
    refine XS.istore X0.here hx rfl (hb hby at_65) rfl (l' := #[.val (.int p1), .val (.int p2), .val (.long q1), .second, .val (.int p3), .val (.int p4), .val (.int (own_b (¬ (p1 &&& (1 : Int32)) = 0))), .val (.int (own_b (¬ (p1 &&& (2 : Int32)) = 0))), .val (.int (own_b (¬ (p1 &&& (4 : Int32)) = 0))), .val (.int (own_b (¬ (p1 &&& (8 : Int32)) = 0))), .val (.int (own_b (¬ (p1 &&& (16 : Int32)) = 0))), .unset, .unset, .unset, .unset, .unset, .unset, .unset, .unset, .unset]) rfl ?_
    show Steps p.tables e below (s₁.setTop (mkF m 67 #[.val (.int p1), .val (.int p2), .val (.long q1), .second, .val (.int p3), .val (.int p4), .val (.int (own_b (¬ (p1 &&& (1 : Int32)) = 0))), .val (.int (own_b (¬ (p1 &&& (2 : Int32)) = 0))), .val (.int (own_b (¬ (p1 &&& (4 : Int32)) = 0))), .val (.int (own_b (¬ (p1 &&& (8 : Int32)) = 0))), .val (.int (own_b (¬ (p1 &&& (16 : Int32)) = 0))), .unset, .unset, .unset, .unset, .unset, .unset, .unset, .unset, .unset] [])) _
    refine sg67 _ ?_
    show Steps p.tables e below (s₁.setTop (mkF m 79 #[.val (.int p1), .val (.int p2), .val (.long q1), .second, .val (.int p3), .val (.int p4), .val (.int (own_b (¬ (p1 &&& (1 : Int32)) = 0))), .val (.int (own_b (¬ (p1 &&& (2 : Int32)) = 0))), .val (.int (own_b (¬ (p1 &&& (4 : Int32)) = 0))), .val (.int (own_b (¬ (p1 &&& (8 : Int32)) = 0))), .val (.int (own_b (¬ (p1 &&& (16 : Int32)) = 0))), .unset, .unset, .unset, .unset, .unset, .unset, .unset, .unset, .unset] [(.int (own_b (¬ (p1 &&& (32 : Int32)) = 0)))])) _
    refine XS.istore X0.here hx rfl (hb hby at_79) rfl (l' := #[.val (.int p1), .val (.int p2), .val (.long q1), .second, .val (.int p3), .val (.int p4), .val (.int (own_b (¬ (p1 &&& (1 : Int32)) = 0))), .val (.int (own_b (¬ (p1 &&& (2 : Int32)) = 0))), .val (.int (own_b (¬ (p1 &&& (4 : Int32)) = 0))), .val (.int (own_b (¬ (p1 &&& (8 : Int32)) = 0))), .val (.int (own_b (¬ (p1 &&& (16 : Int32)) = 0))), .val (.int (own_b (¬ (p1 &&& (32 : Int32)) = 0))), .unset, .unset, .unset, .unset, .unset, .unset, .unset, .unset]) rfl ?_
    show Steps p.tables e below (s₁.setTop (mkF m 81 #[.val (.int p1), .val (.int p2), .val (.long q1), .second, .val (.int p3), .val (.int p4), .val (.int (own_b (¬ (p1 &&& (1 : Int32)) = 0))), .val (.int (own_b (¬ (p1 &&& (2 : Int32)) = 0))), .val (.int (own_b (¬ (p1 &&& (4 : Int32)) = 0))), .val (.int (own_b (¬ (p1 &&& (8 : Int32)) = 0))), .val (.int (own_b (¬ (p1 &&& (16 : Int32)) = 0))), .val (.int (own_b (¬ (p1 &&& (32 : Int32)) = 0))), .unset, .unset, .unset, .unset, .unset, .unset, .unset, .unset] [])) _
    refine XS.iloadN X0.here hx rfl (hb hby at_81) rfl ?_
    show Steps p.tables e below (s₁.setTop (mkF m 82 #[.val (.int p1), .val (.int p2), .val (.long q1), .second, .val (.int p3), .val (.int p4), .val (.int (own_b (¬ (p1 &&& (1 : Int32)) = 0))), .val (.int (own_b (¬ (p1 &&& (2 : Int32)) = 0))), .val (.int (own_b (¬ (p1 &&& (4 : Int32)) = 0))), .val (.int (own_b (¬ (p1 &&& (8 : Int32)) = 0))), .val (.int (own_b (¬ (p1 &&& (16 : Int32)) = 0))), .val (.int (own_b (¬ (p1 &&& (32 : Int32)) = 0))), .unset, .unset, .unset, .unset, .unset, .unset, .unset, .unset] [(.int p2)])) _
    refine XS.iconst X0.here hx rfl (hb hby at_82) ?_
    show Steps p.tables e below (s₁.setTop (mkF m 83 #[.val (.int p1), .val (.int p2), .val (.long q1), .second, .val (.int p3), .val (.int p4), .val (.int (own_b (¬ (p1 &&& (1 : Int32)) = 0))), .val (.int (own_b (¬ (p1 &&& (2 : Int32)) = 0))), .val (.int (own_b (¬ (p1 &&& (4 : Int32)) = 0))), .val (.int (own_b (¬ (p1 &&& (8 : Int32)) = 0))), .val (.int (own_b (¬ (p1 &&& (16 : Int32)) = 0))), .val (.int (own_b (¬ (p1 &&& (32 : Int32)) = 0))), .unset, .unset, .unset, .unset, .unset, .unset, .unset, .unset] [(.int (3 : Int32)), (.int p2)])) _
    refine XS.iand X0.here hx rfl (hb hby at_83) rfl ?_
    show Steps p.tables e below (s₁.setTop (mkF m 84 #[.val (.int p1), .val (.int p2), .val (.long q1), .second, .val (.int p3), .val (.int p4), .val (.int (own_b (¬ (p1 &&& (1 : Int32)) = 0))), .val (.int (own_b (¬ (p1 &&& (2 : Int32)) = 0))), .val (.int (own_b (¬ (p1 &&& (4 : Int32)) = 0))), .val (.int (own_b (¬ (p1 &&& (8 : Int32)) = 0))), .val (.int (own_b (¬ (p1 &&& (16 : Int32)) = 0))), .val (.int (own_b (¬ (p1 &&& (32 : Int32)) = 0))), .unset, .unset, .unset, .unset, .unset, .unset, .unset, .unset] [(.int (p2 &&& (3 : Int32)))])) _
    refine XS.istore X0.here hx rfl (hb hby at_84) rfl (l' := #[.val (.int p1), .val (.int p2), .val (.long q1), .second, .val (.int p3), .val (.int p4), .val (.int (own_b (¬ (p1 &&& (1 : Int32)) = 0))), .val (.int (own_b (¬ (p1 &&& (2 : Int32)) = 0))), .val (.int (own_b (¬ (p1 &&& (4 : Int32)) = 0))), .val (.int (own_b (¬ (p1 &&& (8 : Int32)) = 0))), .val (.int (own_b (¬ (p1 &&& (16 : Int32)) = 0))), .val (.int (own_b (¬ (p1 &&& (32 : Int32)) = 0))), .val (.int (p2 &&& (3 : Int32))), .unset, .unset, .unset, .unset, .unset, .unset, .unset]) rfl ?_
    show Steps p.tables e below (s₁.setTop (mkF m 86 #[.val (.int p1), .val (.int p2), .val (.long q1), .second, .val (.int p3), .val (.int p4), .val (.int (own_b (¬ (p1 &&& (1 : Int32)) = 0))), .val (.int (own_b (¬ (p1 &&& (2 : Int32)) = 0))), .val (.int (own_b (¬ (p1 &&& (4 : Int32)) = 0))), .val (.int (own_b (¬ (p1 &&& (8 : Int32)) = 0))), .val (.int (own_b (¬ (p1 &&& (16 : Int32)) = 0))), .val (.int (own_b (¬ (p1 &&& (32 : Int32)) = 0))), .val (.int (p2 &&& (3 : Int32))), .unset, .unset, .unset, .unset, .unset, .unset, .unset] [])) _
    refine XS.iloadN X0.here hx rfl (hb hby at_86) rfl ?_
    show Steps p.tables e below (s₁.setTop (mkF m 87 #[.val (.int p1), .val (.int p2), .val (.long q1), .second, .val (.int p3), .val (.int p4), .val (.int (own_b (¬ (p1 &&& (1 : Int32)) = 0))), .val (.int (own_b (¬ (p1 &&& (2 : Int32)) = 0))), .val (.int (own_b (¬ (p1 &&& (4 : Int32)) = 0))), .val (.int (own_b (¬ (p1 &&& (8 : Int32)) = 0))), .val (.int (own_b (¬ (p1 &&& (16 : Int32)) = 0))), .val (.int (own_b (¬ (p1 &&& (32 : Int32)) = 0))), .val (.int (p2 &&& (3 : Int32))), .unset, .unset, .unset, .unset, .unset, .unset, .unset] [(.int p2)])) _
    refine XS.bipush X0.here hx rfl (hb hby at_87) ?_
    show Steps p.tables e below (s₁.setTop (mkF m 89 #[.val (.int p1), .val (.int p2), .val (.long q1), .second, .val (.int p3), .val (.int p4), .val (.int (own_b (¬ (p1 &&& (1 : Int32)) = 0))), .val (.int (own_b (¬ (p1 &&& (2 : Int32)) = 0))), .val (.int (own_b (¬ (p1 &&& (4 : Int32)) = 0))), .val (.int (own_b (¬ (p1 &&& (8 : Int32)) = 0))), .val (.int (own_b (¬ (p1 &&& (16 : Int32)) = 0))), .val (.int (own_b (¬ (p1 &&& (32 : Int32)) = 0))), .val (.int (p2 &&& (3 : Int32))), .unset, .unset, .unset, .unset, .unset, .unset, .unset] [(.int (8 : Int32)), (.int p2)])) _
    refine XS.iushr X0.here hx rfl (hb hby at_89) rfl ?_
    show Steps p.tables e below (s₁.setTop (mkF m 90 #[.val (.int p1), .val (.int p2), .val (.long q1), .second, .val (.int p3), .val (.int p4), .val (.int (own_b (¬ (p1 &&& (1 : Int32)) = 0))), .val (.int (own_b (¬ (p1 &&& (2 : Int32)) = 0))), .val (.int (own_b (¬ (p1 &&& (4 : Int32)) = 0))), .val (.int (own_b (¬ (p1 &&& (8 : Int32)) = 0))), .val (.int (own_b (¬ (p1 &&& (16 : Int32)) = 0))), .val (.int (own_b (¬ (p1 &&& (32 : Int32)) = 0))), .val (.int (p2 &&& (3 : Int32))), .unset, .unset, .unset, .unset, .unset, .unset, .unset] [(.int ((p2.toUInt32 >>> ((8 : Int32) &&& 31).toUInt32).toInt32))])) _
    refine XS.sipush X0.here hx rfl (hb hby at_90) ?_
    show Steps p.tables e below (s₁.setTop (mkF m 93 #[.val (.int p1), .val (.int p2), .val (.long q1), .second, .val (.int p3), .val (.int p4), .val (.int (own_b (¬ (p1 &&& (1 : Int32)) = 0))), .val (.int (own_b (¬ (p1 &&& (2 : Int32)) = 0))), .val (.int (own_b (¬ (p1 &&& (4 : Int32)) = 0))), .val (.int (own_b (¬ (p1 &&& (8 : Int32)) = 0))), .val (.int (own_b (¬ (p1 &&& (16 : Int32)) = 0))), .val (.int (own_b (¬ (p1 &&& (32 : Int32)) = 0))), .val (.int (p2 &&& (3 : Int32))), .unset, .unset, .unset, .unset, .unset, .unset, .unset] [(.int (255 : Int32)), (.int ((p2.toUInt32 >>> ((8 : Int32) &&& 31).toUInt32).toInt32))])) _
    refine XS.iand X0.here hx rfl (hb hby at_93) rfl ?_
    show Steps p.tables e below (s₁.setTop (mkF m 94 #[.val (.int p1), .val (.int p2), .val (.long q1), .second, .val (.int p3), .val (.int p4), .val (.int (own_b (¬ (p1 &&& (1 : Int32)) = 0))), .val (.int (own_b (¬ (p1 &&& (2 : Int32)) = 0))), .val (.int (own_b (¬ (p1 &&& (4 : Int32)) = 0))), .val (.int (own_b (¬ (p1 &&& (8 : Int32)) = 0))), .val (.int (own_b (¬ (p1 &&& (16 : Int32)) = 0))), .val (.int (own_b (¬ (p1 &&& (32 : Int32)) = 0))), .val (.int (p2 &&& (3 : Int32))), .unset, .unset, .unset, .unset, .unset, .unset, .unset] [(.int (((p2.toUInt32 >>> ((8 : Int32) &&& 31).toUInt32).toInt32) &&& (255 : Int32)))])) _
    refine XS.i2c X0.here hx rfl (hb hby at_94) rfl ?_
    show Steps p.tables e below (s₁.setTop (mkF m 95 #[.val (.int p1), .val (.int p2), .val (.long q1), .second, .val (.int p3), .val (.int p4), .val (.int (own_b (¬ (p1 &&& (1 : Int32)) = 0))), .val (.int (own_b (¬ (p1 &&& (2 : Int32)) = 0))), .val (.int (own_b (¬ (p1 &&& (4 : Int32)) = 0))), .val (.int (own_b (¬ (p1 &&& (8 : Int32)) = 0))), .val (.int (own_b (¬ (p1 &&& (16 : Int32)) = 0))), .val (.int (own_b (¬ (p1 &&& (32 : Int32)) = 0))), .val (.int (p2 &&& (3 : Int32))), .unset, .unset, .unset, .unset, .unset, .unset, .unset] [(.int ((((p2.toUInt32 >>> ((8 : Int32) &&& 31).toUInt32).toInt32) &&& (255 : Int32)).toUInt32.toUInt16.toUInt32.toInt32))])) _
    refine st1 _ ?_
    show Steps p.tables e below (T1.setTop (mkF m 98 #[.val (.int p1), .val (.int p2), .val (.long q1), .second, .val (.int p3), .val (.int p4), .val (.int (own_b (¬ (p1 &&& (1 : Int32)) = 0))), .val (.int (own_b (¬ (p1 &&& (2 : Int32)) = 0))), .val (.int (own_b (¬ (p1 &&& (4 : Int32)) = 0))), .val (.int (own_b (¬ (p1 &&& (8 : Int32)) = 0))), .val (.int (own_b (¬ (p1 &&& (16 : Int32)) = 0))), .val (.int (own_b (¬ (p1 &&& (32 : Int32)) = 0))), .val (.int (p2 &&& (3 : Int32))), .unset, .unset, .unset, .unset, .unset, .unset, .unset] [(.ref nm)])) _
    refine XS.astore X1.here hx rfl (hb hby at_98) rfl rfl (l' := #[.val (.int p1), .val (.int p2), .val (.long q1), .second, .val (.int p3), .val (.int p4), .val (.int (own_b (¬ (p1 &&& (1 : Int32)) = 0))), .val (.int (own_b (¬ (p1 &&& (2 : Int32)) = 0))), .val (.int (own_b (¬ (p1 &&& (4 : Int32)) = 0))), .val (.int (own_b (¬ (p1 &&& (8 : Int32)) = 0))), .val (.int (own_b (¬ (p1 &&& (16 : Int32)) = 0))), .val (.int (own_b (¬ (p1 &&& (32 : Int32)) = 0))), .val (.int (p2 &&& (3 : Int32))), .val (.ref nm), .unset, .unset, .unset, .unset, .unset, .unset]) rfl ?_
    show Steps p.tables e below (T1.setTop (mkF m 100 #[.val (.int p1), .val (.int p2), .val (.long q1), .second, .val (.int p3), .val (.int p4), .val (.int (own_b (¬ (p1 &&& (1 : Int32)) = 0))), .val (.int (own_b (¬ (p1 &&& (2 : Int32)) = 0))), .val (.int (own_b (¬ (p1 &&& (4 : Int32)) = 0))), .val (.int (own_b (¬ (p1 &&& (8 : Int32)) = 0))), .val (.int (own_b (¬ (p1 &&& (16 : Int32)) = 0))), .val (.int (own_b (¬ (p1 &&& (32 : Int32)) = 0))), .val (.int (p2 &&& (3 : Int32))), .val (.ref nm), .unset, .unset, .unset, .unset, .unset, .unset] [])) _
    refine st2 _ ?_
    show Steps p.tables e below (T2.setTop (mkF m 103 #[.val (.int p1), .val (.int p2), .val (.long q1), .second, .val (.int p3), .val (.int p4), .val (.int (own_b (¬ (p1 &&& (1 : Int32)) = 0))), .val (.int (own_b (¬ (p1 &&& (2 : Int32)) = 0))), .val (.int (own_b (¬ (p1 &&& (4 : Int32)) = 0))), .val (.int (own_b (¬ (p1 &&& (8 : Int32)) = 0))), .val (.int (own_b (¬ (p1 &&& (16 : Int32)) = 0))), .val (.int (own_b (¬ (p1 &&& (32 : Int32)) = 0))), .val (.int (p2 &&& (3 : Int32))), .val (.ref nm), .unset, .unset, .unset, .unset, .unset, .unset] [(.ref b2)])) _
    refine XS.dup X2.here hx rfl (hb hby at_103) rfl rfl ?_
    show Steps p.tables e below (T2.setTop (mkF m 104 #[.val (.int p1), .val (.int p2), .val (.long q1), .second, .val (.int p3), .val (.int p4), .val (.int (own_b (¬ (p1 &&& (1 : Int32)) = 0))), .val (.int (own_b (¬ (p1 &&& (2 : Int32)) = 0))), .val (.int (own_b (¬ (p1 &&& (4 : Int32)) = 0))), .val (.int (own_b (¬ (p1 &&& (8 : Int32)) = 0))), .val (.int (own_b (¬ (p1 &&& (16 : Int32)) = 0))), .val (.int (own_b (¬ (p1 &&& (32 : Int32)) = 0))), .val (.int (p2 &&& (3 : Int32))), .val (.ref nm), .unset, .unset, .unset, .unset, .unset, .unset] [(.ref b2), (.ref b2)])) _
    refine st3.trans ?_
    show Steps p.tables e below (T3.setTop (mkF m 107 #[.val (.int p1), .val (.int p2), .val (.long q1), .second, .val (.int p3), .val (.int p4), .val (.int (own_b (¬ (p1 &&& (1 : Int32)) = 0))), .val (.int (own_b (¬ (p1 &&& (2 : Int32)) = 0))), .val (.int (own_b (¬ (p1 &&& (4 : Int32)) = 0))), .val (.int (own_b (¬ (p1 &&& (8 : Int32)) = 0))), .val (.int (own_b (¬ (p1 &&& (16 : Int32)) = 0))), .val (.int (own_b (¬ (p1 &&& (32 : Int32)) = 0))), .val (.int (p2 &&& (3 : Int32))), .val (.ref nm), .unset, .unset, .unset, .unset, .unset, .unset] [(.ref b2)])) _
    refine XS.astore X3.here hx rfl (hb hby at_107) rfl rfl (l' := #[.val (.int p1), .val (.int p2), .val (.long q1), .second, .val (.int p3), .val (.int p4), .val (.int (own_b (¬ (p1 &&& (1 : Int32)) = 0))), .val (.int (own_b (¬ (p1 &&& (2 : Int32)) = 0))), .val (.int (own_b (¬ (p1 &&& (4 : Int32)) = 0))), .val (.int (own_b (¬ (p1 &&& (8 : Int32)) = 0))), .val (.int (own_b (¬ (p1 &&& (16 : Int32)) = 0))), .val (.int (own_b (¬ (p1 &&& (32 : Int32)) = 0))), .val (.int (p2 &&& (3 : Int32))), .val (.ref nm), .val (.ref b2), .unset, .unset, .unset, .unset, .unset]) rfl ?_
    show Steps p.tables e below (T3.setTop (mkF m 109 #[.val (.int p1), .val (.int p2), .val (.long q1), .second, .val (.int p3), .val (.int p4), .val (.int (own_b (¬ (p1 &&& (1 : Int32)) = 0))), .val (.int (own_b (¬ (p1 &&& (2 : Int32)) = 0))), .val (.int (own_b (¬ (p1 &&& (4 : Int32)) = 0))), .val (.int (own_b (¬ (p1 &&& (8 : Int32)) = 0))), .val (.int (own_b (¬ (p1 &&& (16 : Int32)) = 0))), .val (.int (own_b (¬ (p1 &&& (32 : Int32)) = 0))), .val (.int (p2 &&& (3 : Int32))), .val (.ref nm), .val (.ref b2), .unset, .unset, .unset, .unset, .unset] [])) _
    refine st4 _ ?_
    show Steps p.tables e below (T4.setTop (mkF m 122 #[.val (.int p1), .val (.int p2), .val (.long q1), .second, .val (.int p3), .val (.int p4), .val (.int (own_b (¬ (p1 &&& (1 : Int32)) = 0))), .val (.int (own_b (¬ (p1 &&& (2 : Int32)) = 0))), .val (.int (own_b (¬ (p1 &&& (4 : Int32)) = 0))), .val (.int (own_b (¬ (p1 &&& (8 : Int32)) = 0))), .val (.int (own_b (¬ (p1 &&& (16 : Int32)) = 0))), .val (.int (own_b (¬ (p1 &&& (32 : Int32)) = 0))), .val (.int (p2 &&& (3 : Int32))), .val (.ref nm), .val (.ref b2), .unset, .unset, .unset, .unset, .unset] [])) _
    refine st5 _ ?_
    show Steps p.tables e below (T5.setTop (mkF m 137 #[.val (.int p1), .val (.int p2), .val (.long q1), .second, .val (.int p3), .val (.int p4), .val (.int (own_b (¬ (p1 &&& (1 : Int32)) = 0))), .val (.int (own_b (¬ (p1 &&& (2 : Int32)) = 0))), .val (.int (own_b (¬ (p1 &&& (4 : Int32)) = 0))), .val (.int (own_b (¬ (p1 &&& (8 : Int32)) = 0))), .val (.int (own_b (¬ (p1 &&& (16 : Int32)) = 0))), .val (.int (own_b (¬ (p1 &&& (32 : Int32)) = 0))), .val (.int (p2 &&& (3 : Int32))), .val (.ref nm), .val (.ref b2), .unset, .unset, .unset, .unset, .unset] [])) _
    refine st6 _ ?_
    show Steps p.tables e below (T6.setTop (mkF m 151 #[.val (.int p1), .val (.int p2), .val (.long q1), .second, .val (.int p3), .val (.int p4), .val (.int (own_b (¬ (p1 &&& (1 : Int32)) = 0))), .val (.int (own_b (¬ (p1 &&& (2 : Int32)) = 0))), .val (.int (own_b (¬ (p1 &&& (4 : Int32)) = 0))), .val (.int (own_b (¬ (p1 &&& (8 : Int32)) = 0))), .val (.int (own_b (¬ (p1 &&& (16 : Int32)) = 0))), .val (.int (own_b (¬ (p1 &&& (32 : Int32)) = 0))), .val (.int (p2 &&& (3 : Int32))), .val (.ref nm), .val (.ref b2), .unset, .unset, .unset, .unset, .unset] [])) _
    refine st7 _ ?_
    show Steps p.tables e below (T7.setTop (mkF m 169 #[.val (.int p1), .val (.int p2), .val (.long q1), .second, .val (.int p3), .val (.int p4), .val (.int (own_b (¬ (p1 &&& (1 : Int32)) = 0))), .val (.int (own_b (¬ (p1 &&& (2 : Int32)) = 0))), .val (.int (own_b (¬ (p1 &&& (4 : Int32)) = 0))), .val (.int (own_b (¬ (p1 &&& (8 : Int32)) = 0))), .val (.int (own_b (¬ (p1 &&& (16 : Int32)) = 0))), .val (.int (own_b (¬ (p1 &&& (32 : Int32)) = 0))), .val (.int (p2 &&& (3 : Int32))), .val (.ref nm), .val (.ref b2), .unset, .unset, .unset, .unset, .unset] [])) _
    refine st8 _ ?_
    show Steps p.tables e below (T8.setTop (mkF m 196 #[.val (.int p1), .val (.int p2), .val (.long q1), .second, .val (.int p3), .val (.int p4), .val (.int (own_b (¬ (p1 &&& (1 : Int32)) = 0))), .val (.int (own_b (¬ (p1 &&& (2 : Int32)) = 0))), .val (.int (own_b (¬ (p1 &&& (4 : Int32)) = 0))), .val (.int (own_b (¬ (p1 &&& (8 : Int32)) = 0))), .val (.int (own_b (¬ (p1 &&& (16 : Int32)) = 0))), .val (.int (own_b (¬ (p1 &&& (32 : Int32)) = 0))), .val (.int (p2 &&& (3 : Int32))), .val (.ref nm), .val (.ref b2), .unset, .unset, .unset, .unset, .unset] [])) _
    refine st9 _ ?_
    show Steps p.tables e below (T9.setTop (mkF m 213 #[.val (.int p1), .val (.int p2), .val (.long q1), .second, .val (.int p3), .val (.int p4), .val (.int (own_b (¬ (p1 &&& (1 : Int32)) = 0))), .val (.int (own_b (¬ (p1 &&& (2 : Int32)) = 0))), .val (.int (own_b (¬ (p1 &&& (4 : Int32)) = 0))), .val (.int (own_b (¬ (p1 &&& (8 : Int32)) = 0))), .val (.int (own_b (¬ (p1 &&& (16 : Int32)) = 0))), .val (.int (own_b (¬ (p1 &&& (32 : Int32)) = 0))), .val (.int (p2 &&& (3 : Int32))), .val (.ref nm), .val (.ref b2), .unset, .unset, .unset, .unset, .unset] [])) _
    refine st10 _ ?_
    show Steps p.tables e below (T10.setTop (mkF m 226 #[.val (.int p1), .val (.int p2), .val (.long q1), .second, .val (.int p3), .val (.int p4), .val (.int (own_b (¬ (p1 &&& (1 : Int32)) = 0))), .val (.int (own_b (¬ (p1 &&& (2 : Int32)) = 0))), .val (.int (own_b (¬ (p1 &&& (4 : Int32)) = 0))), .val (.int (own_b (¬ (p1 &&& (8 : Int32)) = 0))), .val (.int (own_b (¬ (p1 &&& (16 : Int32)) = 0))), .val (.int (own_b (¬ (p1 &&& (32 : Int32)) = 0))), .val (.int (p2 &&& (3 : Int32))), .val (.ref nm), .val (.ref b2), .unset, .unset, .unset, .unset, .unset] [])) _
    refine st11 _ ?_
    show Steps p.tables e below (T11.setTop (mkF m 241 #[.val (.int p1), .val (.int p2), .val (.long q1), .second, .val (.int p3), .val (.int p4), .val (.int (own_b (¬ (p1 &&& (1 : Int32)) = 0))), .val (.int (own_b (¬ (p1 &&& (2 : Int32)) = 0))), .val (.int (own_b (¬ (p1 &&& (4 : Int32)) = 0))), .val (.int (own_b (¬ (p1 &&& (8 : Int32)) = 0))), .val (.int (own_b (¬ (p1 &&& (16 : Int32)) = 0))), .val (.int (own_b (¬ (p1 &&& (32 : Int32)) = 0))), .val (.int (p2 &&& (3 : Int32))), .val (.ref nm), .val (.ref b2), .unset, .unset, .unset, .unset, .unset] [])) _
    refine sg241 _ ?_
    show Steps p.tables e below (T11.setTop (mkF m 251 #[.val (.int p1), .val (.int p2), .val (.long q1), .second, .val (.int p3), .val (.int p4), .val (.int (own_b (¬ (p1 &&& (1 : Int32)) = 0))), .val (.int (own_b (¬ (p1 &&& (2 : Int32)) = 0))), .val (.int (own_b (¬ (p1 &&& (4 : Int32)) = 0))), .val (.int (own_b (¬ (p1 &&& (8 : Int32)) = 0))), .val (.int (own_b (¬ (p1 &&& (16 : Int32)) = 0))), .val (.int (own_b (¬ (p1 &&& (32 : Int32)) = 0))), .val (.int (p2 &&& (3 : Int32))), .val (.ref nm), .val (.ref b2), .unset, .unset, .unset, .unset, .unset] [(.long (own_lb (¬ (p1 &&& (1 : Int32)) = 0)))])) _
    refine XS.lstore X11.here hx rfl (hb hby at_251) rfl (l' := #[.val (.int p1), .val (.int p2), .val (.long q1), .second, .val (.int p3), .val (.int p4), .val (.int (own_b (¬ (p1 &&& (1 : Int32)) = 0))), .val (.int (own_b (¬ (p1 &&& (2 : Int32)) = 0))), .val (.int (own_b (¬ (p1 &&& (4 : Int32)) = 0))), .val (.int (own_b (¬ (p1 &&& (8 : Int32)) = 0))), .val (.int (own_b (¬ (p1 &&& (16 : Int32)) = 0))), .val (.int (own_b (¬ (p1 &&& (32 : Int32)) = 0))), .val (.int (p2 &&& (3 : Int32))), .val (.ref nm), .val (.ref b2), .val (.long (own_lb (¬ (p1 &&& (1 : Int32)) = 0))), .second, .unset, .unset, .unset]) rfl ?_
    show Steps p.tables e below (T11.setTop (mkF m 253 #[.val (.int p1), .val (.int p2), .val (.long q1), .second, .val (.int p3), .val (.int p4), .val (.int (own_b (¬ (p1 &&& (1 : Int32)) = 0))), .val (.int (own_b (¬ (p1 &&& (2 : Int32)) = 0))), .val (.int (own_b (¬ (p1 &&& (4 : Int32)) = 0))), .val (.int (own_b (¬ (p1 &&& (8 : Int32)) = 0))), .val (.int (own_b (¬ (p1 &&& (16 : Int32)) = 0))), .val (.int (own_b (¬ (p1 &&& (32 : Int32)) = 0))), .val (.int (p2 &&& (3 : Int32))), .val (.ref nm), .val (.ref b2), .val (.long (own_lb (¬ (p1 &&& (1 : Int32)) = 0))), .second, .unset, .unset, .unset] [])) _
    refine sg253 _ ?_
    show Steps p.tables e below (T11.setTop (mkF m 261 #[.val (.int p1), .val (.int p2), .val (.long q1), .second, .val (.int p3), .val (.int p4), .val (.int (own_b (¬ (p1 &&& (1 : Int32)) = 0))), .val (.int (own_b (¬ (p1 &&& (2 : Int32)) = 0))), .val (.int (own_b (¬ (p1 &&& (4 : Int32)) = 0))), .val (.int (own_b (¬ (p1 &&& (8 : Int32)) = 0))), .val (.int (own_b (¬ (p1 &&& (16 : Int32)) = 0))), .val (.int (own_b (¬ (p1 &&& (32 : Int32)) = 0))), .val (.int (p2 &&& (3 : Int32))), .val (.ref nm), .val (.ref b2), .val (.long (own_zr (¬ (p1 &&& (2 : Int32)) = 0) (own_lb (¬ (p1 &&& (1 : Int32)) = 0)))), .second, .unset, .unset, .unset] [])) _
    refine XS.lload X11.here hx rfl (hb hby at_261) rfl ?_
    show Steps p.tables e below (T11.setTop (mkF m 263 #[.val (.int p1), .val (.int p2), .val (.long q1), .second, .val (.int p3), .val (.int p4), .val (.int (own_b (¬ (p1 &&& (1 : Int32)) = 0))), .val (.int (own_b (¬ (p1 &&& (2 : Int32)) = 0))), .val (.int (own_b (¬ (p1 &&& (4 : Int32)) = 0))), .val (.int (own_b (¬ (p1 &&& (8 : Int32)) = 0))), .val (.int (own_b (¬ (p1 &&& (16 : Int32)) = 0))), .val (.int (own_b (¬ (p1 &&& (32 : Int32)) = 0))), .val (.int (p2 &&& (3 : Int32))), .val (.ref nm), .val (.ref b2), .val (.long (own_zr (¬ (p1 &&& (2 : Int32)) = 0) (own_lb (¬ (p1 &&& (1 : Int32)) = 0)))), .second, .unset, .unset, .unset] [(.long (own_zr (¬ (p1 &&& (2 : Int32)) = 0) (own_lb (¬ (p1 &&& (1 : Int32)) = 0))))])) _
    refine XS.iload X11.here hx rfl (hb hby at_263) rfl ?_
    show Steps p.tables e below (T11.setTop (mkF m 265 #[.val (.int p1), .val (.int p2), .val (.long q1), .second, .val (.int p3), .val (.int p4), .val (.int (own_b (¬ (p1 &&& (1 : Int32)) = 0))), .val (.int (own_b (¬ (p1 &&& (2 : Int32)) = 0))), .val (.int (own_b (¬ (p1 &&& (4 : Int32)) = 0))), .val (.int (own_b (¬ (p1 &&& (8 : Int32)) = 0))), .val (.int (own_b (¬ (p1 &&& (16 : Int32)) = 0))), .val (.int (own_b (¬ (p1 &&& (32 : Int32)) = 0))), .val (.int (p2 &&& (3 : Int32))), .val (.ref nm), .val (.ref b2), .val (.long (own_zr (¬ (p1 &&& (2 : Int32)) = 0) (own_lb (¬ (p1 &&& (1 : Int32)) = 0)))), .second, .unset, .unset, .unset] [(.int (p2 &&& (3 : Int32))), (.long (own_zr (¬ (p1 &&& (2 : Int32)) = 0) (own_lb (¬ (p1 &&& (1 : Int32)) = 0))))])) _
    refine XS.i2l X11.here hx rfl (hb hby at_265) rfl ?_
    show Steps p.tables e below (T11.setTop (mkF m 266 #[.val (.int p1), .val (.int p2), .val (.long q1), .second, .val (.int p3), .val (.int p4), .val (.int (own_b (¬ (p1 &&& (1 : Int32)) = 0))), .val (.int (own_b (¬ (p1 &&& (2 : Int32)) = 0))), .val (.int (own_b (¬ (p1 &&& (4 : Int32)) = 0))), .val (.int (own_b (¬ (p1 &&& (8 : Int32)) = 0))), .val (.int (own_b (¬ (p1 &&& (16 : Int32)) = 0))), .val (.int (own_b (¬ (p1 &&& (32 : Int32)) = 0))), .val (.int (p2 &&& (3 : Int32))), .val (.ref nm), .val (.ref b2), .val (.long (own_zr (¬ (p1 &&& (2 : Int32)) = 0) (own_lb (¬ (p1 &&& (1 : Int32)) = 0)))), .second, .unset, .unset, .unset] [(.long ((p2 &&& (3 : Int32)).toInt64)), (.long (own_zr (¬ (p1 &&& (2 : Int32)) = 0) (own_lb (¬ (p1 &&& (1 : Int32)) = 0))))])) _
    refine XS.ladd X11.here hx rfl (hb hby at_266) rfl ?_
    show Steps p.tables e below (T11.setTop (mkF m 267 #[.val (.int p1), .val (.int p2), .val (.long q1), .second, .val (.int p3), .val (.int p4), .val (.int (own_b (¬ (p1 &&& (1 : Int32)) = 0))), .val (.int (own_b (¬ (p1 &&& (2 : Int32)) = 0))), .val (.int (own_b (¬ (p1 &&& (4 : Int32)) = 0))), .val (.int (own_b (¬ (p1 &&& (8 : Int32)) = 0))), .val (.int (own_b (¬ (p1 &&& (16 : Int32)) = 0))), .val (.int (own_b (¬ (p1 &&& (32 : Int32)) = 0))), .val (.int (p2 &&& (3 : Int32))), .val (.ref nm), .val (.ref b2), .val (.long (own_zr (¬ (p1 &&& (2 : Int32)) = 0) (own_lb (¬ (p1 &&& (1 : Int32)) = 0)))), .second, .unset, .unset, .unset] [(.long ((own_zr (¬ (p1 &&& (2 : Int32)) = 0) (own_lb (¬ (p1 &&& (1 : Int32)) = 0))) + ((p2 &&& (3 : Int32)).toInt64)))])) _
    refine XS.lstore X11.here hx rfl (hb hby at_267) rfl (l' := #[.val (.int p1), .val (.int p2), .val (.long q1), .second, .val (.int p3), .val (.int p4), .val (.int (own_b (¬ (p1 &&& (1 : Int32)) = 0))), .val (.int (own_b (¬ (p1 &&& (2 : Int32)) = 0))), .val (.int (own_b (¬ (p1 &&& (4 : Int32)) = 0))), .val (.int (own_b (¬ (p1 &&& (8 : Int32)) = 0))), .val (.int (own_b (¬ (p1 &&& (16 : Int32)) = 0))), .val (.int (own_b (¬ (p1 &&& (32 : Int32)) = 0))), .val (.int (p2 &&& (3 : Int32))), .val (.ref nm), .val (.ref b2), .val (.long ((own_zr (¬ (p1 &&& (2 : Int32)) = 0) (own_lb (¬ (p1 &&& (1 : Int32)) = 0))) + ((p2 &&& (3 : Int32)).toInt64))), .second, .unset, .unset, .unset]) rfl ?_
    show Steps p.tables e below (T11.setTop (mkF m 269 #[.val (.int p1), .val (.int p2), .val (.long q1), .second, .val (.int p3), .val (.int p4), .val (.int (own_b (¬ (p1 &&& (1 : Int32)) = 0))), .val (.int (own_b (¬ (p1 &&& (2 : Int32)) = 0))), .val (.int (own_b (¬ (p1 &&& (4 : Int32)) = 0))), .val (.int (own_b (¬ (p1 &&& (8 : Int32)) = 0))), .val (.int (own_b (¬ (p1 &&& (16 : Int32)) = 0))), .val (.int (own_b (¬ (p1 &&& (32 : Int32)) = 0))), .val (.int (p2 &&& (3 : Int32))), .val (.ref nm), .val (.ref b2), .val (.long ((own_zr (¬ (p1 &&& (2 : Int32)) = 0) (own_lb (¬ (p1 &&& (1 : Int32)) = 0))) + ((p2 &&& (3 : Int32)).toInt64))), .second, .unset, .unset, .unset] [])) _
    refine XS.iload X11.here hx rfl (hb hby at_269) rfl ?_
    show Steps p.tables e below (T11.setTop (mkF m 271 #[.val (.int p1), .val (.int p2), .val (.long q1), .second, .val (.int p3), .val (.int p4), .val (.int (own_b (¬ (p1 &&& (1 : Int32)) = 0))), .val (.int (own_b (¬ (p1 &&& (2 : Int32)) = 0))), .val (.int (own_b (¬ (p1 &&& (4 : Int32)) = 0))), .val (.int (own_b (¬ (p1 &&& (8 : Int32)) = 0))), .val (.int (own_b (¬ (p1 &&& (16 : Int32)) = 0))), .val (.int (own_b (¬ (p1 &&& (32 : Int32)) = 0))), .val (.int (p2 &&& (3 : Int32))), .val (.ref nm), .val (.ref b2), .val (.long ((own_zr (¬ (p1 &&& (2 : Int32)) = 0) (own_lb (¬ (p1 &&& (1 : Int32)) = 0))) + ((p2 &&& (3 : Int32)).toInt64))), .second, .unset, .unset, .unset] [(.int (own_b (¬ (p1 &&& (4 : Int32)) = 0)))])) _
    refine XS.istore X11.here hx rfl (hb hby at_271) rfl (l' := #[.val (.int p1), .val (.int p2), .val (.long q1), .second, .val (.int p3), .val (.int p4), .val (.int (own_b (¬ (p1 &&& (1 : Int32)) = 0))), .val (.int (own_b (¬ (p1 &&& (2 : Int32)) = 0))), .val (.int (own_b (¬ (p1 &&& (4 : Int32)) = 0))), .val (.int (own_b (¬ (p1 &&& (8 : Int32)) = 0))), .val (.int (own_b (¬ (p1 &&& (16 : Int32)) = 0))), .val (.int (own_b (¬ (p1 &&& (32 : Int32)) = 0))), .val (.int (p2 &&& (3 : Int32))), .val (.ref nm), .val (.ref b2), .val (.long ((own_zr (¬ (p1 &&& (2 : Int32)) = 0) (own_lb (¬ (p1 &&& (1 : Int32)) = 0))) + ((p2 &&& (3 : Int32)).toInt64))), .second, .val (.int (own_b (¬ (p1 &&& (4 : Int32)) = 0))), .unset, .unset]) rfl ?_
    show Steps p.tables e below (T11.setTop (mkF m 273 #[.val (.int p1), .val (.int p2), .val (.long q1), .second, .val (.int p3), .val (.int p4), .val (.int (own_b (¬ (p1 &&& (1 : Int32)) = 0))), .val (.int (own_b (¬ (p1 &&& (2 : Int32)) = 0))), .val (.int (own_b (¬ (p1 &&& (4 : Int32)) = 0))), .val (.int (own_b (¬ (p1 &&& (8 : Int32)) = 0))), .val (.int (own_b (¬ (p1 &&& (16 : Int32)) = 0))), .val (.int (own_b (¬ (p1 &&& (32 : Int32)) = 0))), .val (.int (p2 &&& (3 : Int32))), .val (.ref nm), .val (.ref b2), .val (.long ((own_zr (¬ (p1 &&& (2 : Int32)) = 0) (own_lb (¬ (p1 &&& (1 : Int32)) = 0))) + ((p2 &&& (3 : Int32)).toInt64))), .second, .val (.int (own_b (¬ (p1 &&& (4 : Int32)) = 0))), .unset, .unset] [])) _
    refine sg273 _ ?_
    show Steps p.tables e below (T11.setTop (mkF m 284 #[.val (.int p1), .val (.int p2), .val (.long q1), .second, .val (.int p3), .val (.int p4), .val (.int (own_b (¬ (p1 &&& (1 : Int32)) = 0))), .val (.int (own_b (¬ (p1 &&& (2 : Int32)) = 0))), .val (.int (own_b (¬ (p1 &&& (4 : Int32)) = 0))), .val (.int (own_b (¬ (p1 &&& (8 : Int32)) = 0))), .val (.int (own_b (¬ (p1 &&& (16 : Int32)) = 0))), .val (.int (own_b (¬ (p1 &&& (32 : Int32)) = 0))), .val (.int (p2 &&& (3 : Int32))), .val (.ref nm), .val (.ref b2), .val (.long (own_zr (¬ (p1 &&& (32 : Int32)) = 0) ((own_zr (¬ (p1 &&& (2 : Int32)) = 0) (own_lb (¬ (p1 &&& (1 : Int32)) = 0))) + ((p2 &&& (3 : Int32)).toInt64)))), .second, .val (.int (own_off (¬ (p1 &&& (32 : Int32)) = 0) (own_b (¬ (p1 &&& (4 : Int32)) = 0)))), .unset, .unset] [])) _
    refine sg284 _ ?_
    show Steps p.tables e below (T11.setTop (mkF m 297 #[.val (.int p1), .val (.int p2), .val (.long q1), .second, .val (.int p3), .val (.int p4), .val (.int (own_b (¬ (p1 &&& (1 : Int32)) = 0))), .val (.int (own_b (¬ (p1 &&& (2 : Int32)) = 0))), .val (.int (own_b (¬ (p1 &&& (4 : Int32)) = 0))), .val (.int (own_b (¬ (p1 &&& (8 : Int32)) = 0))), .val (.int (own_b (¬ (p1 &&& (16 : Int32)) = 0))), .val (.int (own_b (¬ (p1 &&& (32 : Int32)) = 0))), .val (.int (p2 &&& (3 : Int32))), .val (.ref nm), .val (.ref b2), .val (.long (own_zr (¬ (p1 &&& (32 : Int32)) = 0) ((own_zr (¬ (p1 &&& (2 : Int32)) = 0) (own_lb (¬ (p1 &&& (1 : Int32)) = 0))) + ((p2 &&& (3 : Int32)).toInt64)))), .second, .val (.int (own_off (¬ (p1 &&& (32 : Int32)) = 0) (own_b (¬ (p1 &&& (4 : Int32)) = 0)))), .unset, .unset] [(.long (own_exp (own_off (¬ (p1 &&& (32 : Int32)) = 0) (own_b (¬ (p1 &&& (4 : Int32)) = 0))) (own_zr (¬ (p1 &&& (32 : Int32)) = 0) ((own_zr (¬ (p1 &&& (2 : Int32)) = 0) (own_lb (¬ (p1 &&& (1 : Int32)) = 0))) + ((p2 &&& (3 : Int32)).toInt64)))))])) _
    refine XS.lstore X11.here hx rfl (hb hby at_297) rfl (l' := #[.val (.int p1), .val (.int p2), .val (.long q1), .second, .val (.int p3), .val (.int p4), .val (.int (own_b (¬ (p1 &&& (1 : Int32)) = 0))), .val (.int (own_b (¬ (p1 &&& (2 : Int32)) = 0))), .val (.int (own_b (¬ (p1 &&& (4 : Int32)) = 0))), .val (.int (own_b (¬ (p1 &&& (8 : Int32)) = 0))), .val (.int (own_b (¬ (p1 &&& (16 : Int32)) = 0))), .val (.int (own_b (¬ (p1 &&& (32 : Int32)) = 0))), .val (.int (p2 &&& (3 : Int32))), .val (.ref nm), .val (.ref b2), .val (.long (own_zr (¬ (p1 &&& (32 : Int32)) = 0) ((own_zr (¬ (p1 &&& (2 : Int32)) = 0) (own_lb (¬ (p1 &&& (1 : Int32)) = 0))) + ((p2 &&& (3 : Int32)).toInt64)))), .second, .val (.int (own_off (¬ (p1 &&& (32 : Int32)) = 0) (own_b (¬ (p1 &&& (4 : Int32)) = 0)))), .val (.long (own_exp (own_off (¬ (p1 &&& (32 : Int32)) = 0) (own_b (¬ (p1 &&& (4 : Int32)) = 0))) (own_zr (¬ (p1 &&& (32 : Int32)) = 0) ((own_zr (¬ (p1 &&& (2 : Int32)) = 0) (own_lb (¬ (p1 &&& (1 : Int32)) = 0))) + ((p2 &&& (3 : Int32)).toInt64))))), .second]) rfl ?_
    show Steps p.tables e below (T11.setTop (mkF m 299 #[.val (.int p1), .val (.int p2), .val (.long q1), .second, .val (.int p3), .val (.int p4), .val (.int (own_b (¬ (p1 &&& (1 : Int32)) = 0))), .val (.int (own_b (¬ (p1 &&& (2 : Int32)) = 0))), .val (.int (own_b (¬ (p1 &&& (4 : Int32)) = 0))), .val (.int (own_b (¬ (p1 &&& (8 : Int32)) = 0))), .val (.int (own_b (¬ (p1 &&& (16 : Int32)) = 0))), .val (.int (own_b (¬ (p1 &&& (32 : Int32)) = 0))), .val (.int (p2 &&& (3 : Int32))), .val (.ref nm), .val (.ref b2), .val (.long (own_zr (¬ (p1 &&& (32 : Int32)) = 0) ((own_zr (¬ (p1 &&& (2 : Int32)) = 0) (own_lb (¬ (p1 &&& (1 : Int32)) = 0))) + ((p2 &&& (3 : Int32)).toInt64)))), .second, .val (.int (own_off (¬ (p1 &&& (32 : Int32)) = 0) (own_b (¬ (p1 &&& (4 : Int32)) = 0)))), .val (.long (own_exp (own_off (¬ (p1 &&& (32 : Int32)) = 0) (own_b (¬ (p1 &&& (4 : Int32)) = 0))) (own_zr (¬ (p1 &&& (32 : Int32)) = 0) ((own_zr (¬ (p1 &&& (2 : Int32)) = 0) (own_lb (¬ (p1 &&& (1 : Int32)) = 0))) + ((p2 &&& (3 : Int32)).toInt64))))), .second] [])) _
    refine XS.aload X11.here hx rfl (hb hby at_299) rfl rfl ?_
    show Steps p.tables e below (T11.setTop (mkF m 301 #[.val (.int p1), .val (.int p2), .val (.long q1), .second, .val (.int p3), .val (.int p4), .val (.int (own_b (¬ (p1 &&& (1 : Int32)) = 0))), .val (.int (own_b (¬ (p1 &&& (2 : Int32)) = 0))), .val (.int (own_b (¬ (p1 &&& (4 : Int32)) = 0))), .val (.int (own_b (¬ (p1 &&& (8 : Int32)) = 0))), .val (.int (own_b (¬ (p1 &&& (16 : Int32)) = 0))), .val (.int (own_b (¬ (p1 &&& (32 : Int32)) = 0))), .val (.int (p2 &&& (3 : Int32))), .val (.ref nm), .val (.ref b2), .val (.long (own_zr (¬ (p1 &&& (32 : Int32)) = 0) ((own_zr (¬ (p1 &&& (2 : Int32)) = 0) (own_lb (¬ (p1 &&& (1 : Int32)) = 0))) + ((p2 &&& (3 : Int32)).toInt64)))), .second, .val (.int (own_off (¬ (p1 &&& (32 : Int32)) = 0) (own_b (¬ (p1 &&& (4 : Int32)) = 0)))), .val (.long (own_exp (own_off (¬ (p1 &&& (32 : Int32)) = 0) (own_b (¬ (p1 &&& (4 : Int32)) = 0))) (own_zr (¬ (p1 &&& (32 : Int32)) = 0) ((own_zr (¬ (p1 &&& (2 : Int32)) = 0) (own_lb (¬ (p1 &&& (1 : Int32)) = 0))) + ((p2 &&& (3 : Int32)).toInt64))))), .second] [(.ref b2)])) _
    refine st12.trans ?_
    show Steps p.tables e below (T12.setTop (mkF m 304 #[.val (.int p1), .val (.int p2), .val (.long q1), .second, .val (.int p3), .val (.int p4), .val (.int (own_b (¬ (p1 &&& (1 : Int32)) = 0))), .val (.int (own_b (¬ (p1 &&& (2 : Int32)) = 0))), .val (.int (own_b (¬ (p1 &&& (4 : Int32)) = 0))), .val (.int (own_b (¬ (p1 &&& (8 : Int32)) = 0))), .val (.int (own_b (¬ (p1 &&& (16 : Int32)) = 0))), .val (.int (own_b (¬ (p1 &&& (32 : Int32)) = 0))), .val (.int (p2 &&& (3 : Int32))), .val (.ref nm), .val (.ref b2), .val (.long (own_zr (¬ (p1 &&& (32 : Int32)) = 0) ((own_zr (¬ (p1 &&& (2 : Int32)) = 0) (own_lb (¬ (p1 &&& (1 : Int32)) = 0))) + ((p2 &&& (3 : Int32)).toInt64)))), .second, .val (.int (own_off (¬ (p1 &&& (32 : Int32)) = 0) (own_b (¬ (p1 &&& (4 : Int32)) = 0)))), .val (.long (own_exp (own_off (¬ (p1 &&& (32 : Int32)) = 0) (own_b (¬ (p1 &&& (4 : Int32)) = 0))) (own_zr (¬ (p1 &&& (32 : Int32)) = 0) ((own_zr (¬ (p1 &&& (2 : Int32)) = 0) (own_lb (¬ (p1 &&& (1 : Int32)) = 0))) + ((p2 &&& (3 : Int32)).toInt64))))), .second] [(.long (own_ans (own_on (¬ (p1 &&& (32 : Int32)) = 0) (own_off (¬ (p1 &&& (4 : Int32)) = 0) 1)) (own_zr (¬ (p1 &&& (32 : Int32)) = 0) (own_up (¬ (p2 &&& (3 : Int32)) < 3) (own_up (¬ (p2 &&& (3 : Int32)) < 2) (own_up (¬ (p2 &&& (3 : Int32)) < 1) (own_zr (¬ (p1 &&& (2 : Int32)) = 0) (own_up (¬ (p1 &&& (1 : Int32)) = 0) 0))))))))])) _
    refine XS.lload X12.here hx rfl (hb hby at_304) rfl ?_
    show Steps p.tables e below (T12.setTop (mkF m 306 #[.val (.int p1), .val (.int p2), .val (.long q1), .second, .val (.int p3), .val (.int p4), .val (.int (own_b (¬ (p1 &&& (1 : Int32)) = 0))), .val (.int (own_b (¬ (p1 &&& (2 : Int32)) = 0))), .val (.int (own_b (¬ (p1 &&& (4 : Int32)) = 0))), .val (.int (own_b (¬ (p1 &&& (8 : Int32)) = 0))), .val (.int (own_b (¬ (p1 &&& (16 : Int32)) = 0))), .val (.int (own_b (¬ (p1 &&& (32 : Int32)) = 0))), .val (.int (p2 &&& (3 : Int32))), .val (.ref nm), .val (.ref b2), .val (.long (own_zr (¬ (p1 &&& (32 : Int32)) = 0) ((own_zr (¬ (p1 &&& (2 : Int32)) = 0) (own_lb (¬ (p1 &&& (1 : Int32)) = 0))) + ((p2 &&& (3 : Int32)).toInt64)))), .second, .val (.int (own_off (¬ (p1 &&& (32 : Int32)) = 0) (own_b (¬ (p1 &&& (4 : Int32)) = 0)))), .val (.long (own_exp (own_off (¬ (p1 &&& (32 : Int32)) = 0) (own_b (¬ (p1 &&& (4 : Int32)) = 0))) (own_zr (¬ (p1 &&& (32 : Int32)) = 0) ((own_zr (¬ (p1 &&& (2 : Int32)) = 0) (own_lb (¬ (p1 &&& (1 : Int32)) = 0))) + ((p2 &&& (3 : Int32)).toInt64))))), .second] [(.long (own_exp (own_off (¬ (p1 &&& (32 : Int32)) = 0) (own_b (¬ (p1 &&& (4 : Int32)) = 0))) (own_zr (¬ (p1 &&& (32 : Int32)) = 0) ((own_zr (¬ (p1 &&& (2 : Int32)) = 0) (own_lb (¬ (p1 &&& (1 : Int32)) = 0))) + ((p2 &&& (3 : Int32)).toInt64))))), (.long (own_ans (own_on (¬ (p1 &&& (32 : Int32)) = 0) (own_off (¬ (p1 &&& (4 : Int32)) = 0) 1)) (own_zr (¬ (p1 &&& (32 : Int32)) = 0) (own_up (¬ (p2 &&& (3 : Int32)) < 3) (own_up (¬ (p2 &&& (3 : Int32)) < 2) (own_up (¬ (p2 &&& (3 : Int32)) < 1) (own_zr (¬ (p1 &&& (2 : Int32)) = 0) (own_up (¬ (p1 &&& (1 : Int32)) = 0) 0))))))))])) _
    refine XS.lcmp X12.here hx rfl (hb hby at_306) rfl ?_
    show Steps p.tables e below (T12.setTop (mkF m 307 #[.val (.int p1), .val (.int p2), .val (.long q1), .second, .val (.int p3), .val (.int p4), .val (.int (own_b (¬ (p1 &&& (1 : Int32)) = 0))), .val (.int (own_b (¬ (p1 &&& (2 : Int32)) = 0))), .val (.int (own_b (¬ (p1 &&& (4 : Int32)) = 0))), .val (.int (own_b (¬ (p1 &&& (8 : Int32)) = 0))), .val (.int (own_b (¬ (p1 &&& (16 : Int32)) = 0))), .val (.int (own_b (¬ (p1 &&& (32 : Int32)) = 0))), .val (.int (p2 &&& (3 : Int32))), .val (.ref nm), .val (.ref b2), .val (.long (own_zr (¬ (p1 &&& (32 : Int32)) = 0) ((own_zr (¬ (p1 &&& (2 : Int32)) = 0) (own_lb (¬ (p1 &&& (1 : Int32)) = 0))) + ((p2 &&& (3 : Int32)).toInt64)))), .second, .val (.int (own_off (¬ (p1 &&& (32 : Int32)) = 0) (own_b (¬ (p1 &&& (4 : Int32)) = 0)))), .val (.long (own_exp (own_off (¬ (p1 &&& (32 : Int32)) = 0) (own_b (¬ (p1 &&& (4 : Int32)) = 0))) (own_zr (¬ (p1 &&& (32 : Int32)) = 0) ((own_zr (¬ (p1 &&& (2 : Int32)) = 0) (own_lb (¬ (p1 &&& (1 : Int32)) = 0))) + ((p2 &&& (3 : Int32)).toInt64))))), .second] [(.int (lcmpW (own_ans (own_on (¬ (p1 &&& (32 : Int32)) = 0) (own_off (¬ (p1 &&& (4 : Int32)) = 0) 1)) (own_zr (¬ (p1 &&& (32 : Int32)) = 0) (own_up (¬ (p2 &&& (3 : Int32)) < 3) (own_up (¬ (p2 &&& (3 : Int32)) < 2) (own_up (¬ (p2 &&& (3 : Int32)) < 1) (own_zr (¬ (p1 &&& (2 : Int32)) = 0) (own_up (¬ (p1 &&& (1 : Int32)) = 0) 0))))))) (own_exp (own_off (¬ (p1 &&& (32 : Int32)) = 0) (own_b (¬ (p1 &&& (4 : Int32)) = 0))) (own_zr (¬ (p1 &&& (32 : Int32)) = 0) ((own_zr (¬ (p1 &&& (2 : Int32)) = 0) (own_lb (¬ (p1 &&& (1 : Int32)) = 0))) + ((p2 &&& (3 : Int32)).toInt64))))))])) _
    refine XS.ifNo X12.here hx rfl (hb hby at_307) rfl ((if0 _ _).trans (teq ((lw_eq _ _).mpr (own_law _ _ _ _ _ (own_k p2)))).2) ?_
    show Steps p.tables e below (T12.setTop (mkF m 310 #[.val (.int p1), .val (.int p2), .val (.long q1), .second, .val (.int p3), .val (.int p4), .val (.int (own_b (¬ (p1 &&& (1 : Int32)) = 0))), .val (.int (own_b (¬ (p1 &&& (2 : Int32)) = 0))), .val (.int (own_b (¬ (p1 &&& (4 : Int32)) = 0))), .val (.int (own_b (¬ (p1 &&& (8 : Int32)) = 0))), .val (.int (own_b (¬ (p1 &&& (16 : Int32)) = 0))), .val (.int (own_b (¬ (p1 &&& (32 : Int32)) = 0))), .val (.int (p2 &&& (3 : Int32))), .val (.ref nm), .val (.ref b2), .val (.long (own_zr (¬ (p1 &&& (32 : Int32)) = 0) ((own_zr (¬ (p1 &&& (2 : Int32)) = 0) (own_lb (¬ (p1 &&& (1 : Int32)) = 0))) + ((p2 &&& (3 : Int32)).toInt64)))), .second, .val (.int (own_off (¬ (p1 &&& (32 : Int32)) = 0) (own_b (¬ (p1 &&& (4 : Int32)) = 0)))), .val (.long (own_exp (own_off (¬ (p1 &&& (32 : Int32)) = 0) (own_b (¬ (p1 &&& (4 : Int32)) = 0))) (own_zr (¬ (p1 &&& (32 : Int32)) = 0) ((own_zr (¬ (p1 &&& (2 : Int32)) = 0) (own_lb (¬ (p1 &&& (1 : Int32)) = 0))) + ((p2 &&& (3 : Int32)).toInt64))))), .second] [])) _
    refine XS.iconst X12.here hx rfl (hb hby at_310) ?_
    show Steps p.tables e below (T12.setTop (mkF m 311 #[.val (.int p1), .val (.int p2), .val (.long q1), .second, .val (.int p3), .val (.int p4), .val (.int (own_b (¬ (p1 &&& (1 : Int32)) = 0))), .val (.int (own_b (¬ (p1 &&& (2 : Int32)) = 0))), .val (.int (own_b (¬ (p1 &&& (4 : Int32)) = 0))), .val (.int (own_b (¬ (p1 &&& (8 : Int32)) = 0))), .val (.int (own_b (¬ (p1 &&& (16 : Int32)) = 0))), .val (.int (own_b (¬ (p1 &&& (32 : Int32)) = 0))), .val (.int (p2 &&& (3 : Int32))), .val (.ref nm), .val (.ref b2), .val (.long (own_zr (¬ (p1 &&& (32 : Int32)) = 0) ((own_zr (¬ (p1 &&& (2 : Int32)) = 0) (own_lb (¬ (p1 &&& (1 : Int32)) = 0))) + ((p2 &&& (3 : Int32)).toInt64)))), .second, .val (.int (own_off (¬ (p1 &&& (32 : Int32)) = 0) (own_b (¬ (p1 &&& (4 : Int32)) = 0)))), .val (.long (own_exp (own_off (¬ (p1 &&& (32 : Int32)) = 0) (own_b (¬ (p1 &&& (4 : Int32)) = 0))) (own_zr (¬ (p1 &&& (32 : Int32)) = 0) ((own_zr (¬ (p1 &&& (2 : Int32)) = 0) (own_lb (¬ (p1 &&& (1 : Int32)) = 0))) + ((p2 &&& (3 : Int32)).toInt64))))), .second] [(.int (1 : Int32))])) _
    refine XS.goto X12.here hx rfl (pc0 := 311) (pc' := 315) rfl (hb hby at_311) (by decide) (by decide) ?_
    show Steps p.tables e below (T12.setTop (mkF m 315 #[.val (.int p1), .val (.int p2), .val (.long q1), .second, .val (.int p3), .val (.int p4), .val (.int (own_b (¬ (p1 &&& (1 : Int32)) = 0))), .val (.int (own_b (¬ (p1 &&& (2 : Int32)) = 0))), .val (.int (own_b (¬ (p1 &&& (4 : Int32)) = 0))), .val (.int (own_b (¬ (p1 &&& (8 : Int32)) = 0))), .val (.int (own_b (¬ (p1 &&& (16 : Int32)) = 0))), .val (.int (own_b (¬ (p1 &&& (32 : Int32)) = 0))), .val (.int (p2 &&& (3 : Int32))), .val (.ref nm), .val (.ref b2), .val (.long (own_zr (¬ (p1 &&& (32 : Int32)) = 0) ((own_zr (¬ (p1 &&& (2 : Int32)) = 0) (own_lb (¬ (p1 &&& (1 : Int32)) = 0))) + ((p2 &&& (3 : Int32)).toInt64)))), .second, .val (.int (own_off (¬ (p1 &&& (32 : Int32)) = 0) (own_b (¬ (p1 &&& (4 : Int32)) = 0)))), .val (.long (own_exp (own_off (¬ (p1 &&& (32 : Int32)) = 0) (own_b (¬ (p1 &&& (4 : Int32)) = 0))) (own_zr (¬ (p1 &&& (32 : Int32)) = 0) ((own_zr (¬ (p1 &&& (2 : Int32)) = 0) (own_lb (¬ (p1 &&& (1 : Int32)) = 0))) + ((p2 &&& (3 : Int32)).toInt64))))), .second] [(.int (1 : Int32))])) _
    exact retN X12 hx (t := .boolean) Bd.returns (by simp) (hb hby at_315) hr
  · exact ⟨rfl, N12⟩
set_option maxRecDepth 65536 in
set_option maxHeartbeats 40000000 in
theorem comes_1 {Post : Tables → Env → Array Value → State → Outcome → State → Prop} (hpost : ∀ tb e args s v u, (limb_1_1.after args s (.returned v) u = true ∧ limb_1_2.after args s (.returned v) u = true ∧ True) → FrameEnd s (.returned v) u (Jvm.fieldLocs frame_1_writes args s ++ Jvm.arrayLocs frame_1_arrays args s ++ Jvm.staticLocs frame_1_statics s) 16 128 → Post tb e args s (.returned v) u) :
    ArmFor flags0 classFile x code maxLocals ret World_1 tables_1 room_1 Calls_1 rest_1 Pre_1 Post := by
  intro l hfl _ _ p e ha hc hk s m args below hf hA hF happ hP
  obtain ⟨hcalls, hrest, hpre⟩ := hP
  obtain ⟨-, -, -, hnamed, -, -, -, hat⟩ := (Spec.applies_iff hf).mp happ
  obtain ⟨hg, hn⟩ := and_e (Cond.before_iff.mp (show (Jvm.Cond.and given_1 narrow_1).before args s = true from hpre))
  obtain ⟨h1, g1⟩ := and_e hg
  obtain ⟨w0, w1, w2, w3, w4, rfl⟩ : ∃ w0 w1 w2 w3 w4 : Value, args = #[w0, w1, w2, w3, w4] := by
    have hs : args.size = 5 := by simpa [Cond.value, given_1] using h1
    obtain ⟨L⟩ := args
    match L, hs with
    | [w0, w1, w2, w3, w4], _ => exact ⟨w0, w1, w2, w3, w4, rfl⟩
  obtain ⟨f1, g2⟩ := and_e g1
  obtain ⟨i0, e0⟩ := is_v f1
  obtain rfl : w0 = (.int i0) := Option.some.inj e0
  obtain ⟨f2, g3⟩ := and_e g2
  obtain ⟨i1, e1⟩ := is_v f2
  obtain rfl : w1 = (.int i1) := Option.some.inj e1
  obtain ⟨f3, g4⟩ := and_e g3
  obtain ⟨i2, e2⟩ := isL_v f3
  obtain rfl : w2 = (.long i2) := Option.some.inj e2
  obtain ⟨f4, g5⟩ := and_e g4
  obtain ⟨i3, e3⟩ := is_v f4
  obtain rfl : w3 = (.int i3) := Option.some.inj e3
  obtain ⟨i4, e4⟩ := is_v g5
  obtain rfl : w4 = (.int i4) := Option.some.inj e4
  have hw := fun d (hd : d ∈ tables_1) => atoms_spec (ws := Jvm.Cond.code x code maxLocals ret :: tables_1) hat d (List.mem_cons_of_mem _ hd)
  obtain ⟨hsets, hown0⟩ := atoms_of _ (rest_1_c_eq ▸ (show rest_1_c.before _ s = true from hrest))
  have n5 := not_v (Cond.before_iff.mp (hsets _ (List.mem_of_getElem? (i := 2) rfl)))
  obtain ⟨i11, e10⟩ := is_v (Cond.before_iff.mp (hsets _ (List.mem_of_getElem? (i := 1) rfl)))
  have S12 : Sta s s.heap "java/lang/String" "COMPACT_STRINGS" "Z" (.int i11) := Sta.start e10 (Or.inl (hsets _ (List.mem_of_getElem? (i := 0) rfl)))
  have c17 : ¬ (i11 = (0 : Int32)) := gotF (Cond.eq_ints e10 (Term.int_eval (0))) n5
  obtain ⟨n, o, h1, h2, h3, _, L, rfl, ⟨rfl, N⟩, hq⟩ := rm0 l s _ hw tables_1 i0 i1 i2 i3 i4 i11 s.heap s.heap.size (Nat.le_refl _) S12 c17 p e ha hc hk s m _ below hf ((Spec.applies_iff_loose hf).mp happ).1 ⟨rfl, State.Warmed39.refl s, rfl⟩ trivial
  refine ⟨n, _, h1, h2, h3, hpost _ _ _ _ _ _ ⟨Cond.after_iff.mpr rfl, Cond.after_iff.mpr (eq_i res_at (Term.int_eval (1)) rfl), trivial⟩ ⟨hq.1, hq.2.1, (hq.2.2.sift fun y hy => Or.inr (N y hy)).mono (by decide) (by decide)⟩⟩
theorem main_1_1 : Claimed_1_1 := comes_1 fun _ _ _ _ _ _ h hF => ⟨h.1, hF⟩
theorem main_1_2 : Claimed_1_2 := comes_1 fun _ _ _ _ _ _ h hF => ⟨h.2.1, hF⟩
end Jvm.Pilot.@@N@@
namespace Jvm.Pilot.@@N@@
open Jvm Jvm.ClassFile Sem Op Lib Jvm.Free Jvm.Stand Jvm.Pilot.@@N@@.Jvm.D
/-! MADE BY PROGRAM (witnessworld.py) out of the Statement's table words and the real class files: 17 classes; the members and pool entries that the words name. The judged class is class 1, her method 1. -/
namespace start1
open Jvm.ClassFile
def u (s : String) : CpInfo := .utf8 (stringToUtf16 s)
/-- a pool by its gaps: so many unusable entries, then the entry; so many at the end -/
def gap : Nat → List CpInfo → List CpInfo
  | 0, r => r
  | n + 1, r => .unusable :: gap n r
def poolList (es : List (Nat × CpInfo)) (last : Nat) : List CpInfo := es.foldr (fun e r => gap e.1 (e.2 :: r)) (gap last [])
def pool (es : List (Nat × CpInfo)) (last : Nat) : Array CpInfo := ⟨poolList es last⟩
def fileOf (pool : Array CpInfo) (this : Nat) (attrs : Array Attribute := #[]) (ms : Array MethodInfo := #[]) (fl : Nat := 33) (sup : Nat := 0) (ifs : Array Nat := #[]) (fds : Array FieldInfo := #[]) : ClassFile where
  minorVersion := 0
  majorVersion := 65
  constantPool := pool
  accessFlags := fl
  thisClass := this
  superClass := sup
  interfaces := ifs
  fields := fds
  methods := ms
  attributes := attrs
def plain (name : String) (sup : Option ClassId) : Class where
  name := name
  kind := .ordinary
  loader := none
  accessFlags := 33
  super := sup
  interfaces := #[]
  cf := none
  fields := #[]
  methods := #[]
  instanceTypes := #[]
  staticTypes := #[]
  resolved := #[]
  callSites := []
  init := .initialized
  statics := none
  mirror := none

def pool0 : Array CpInfo := pool [(5, u "<init>"), (0, u "()V"), (1, .class_ 10), (1, u "java/lang/Object")] 113

def k0c0 : Code := { maxStack := 0, maxLocals := 1, code := object_method_1_code, exceptionTable := #[], attributes := #[] }
def k0m0 : Method := { name := "<init>", desc := "()V", sig := { parameters := [], returnType := none }, accessFlags := 1, code := some k0c0 }
/-- java/lang/Object -/
def k0 : Class := { plain "java/lang/Object" none with
  accessFlags := 33
  interfaces := #[]
  cf := some (fileOf pool0 8 #[] #[{ accessFlags := 1, nameIndex := 5, descriptorIndex := 6, attributes := #[] }] 33 0 #[] #[])
  fields := #[]
  methods := #[k0m0]
  instanceTypes := #[]
  staticTypes := #[]
  resolved := Array.replicate 124 none
  statics := none }

def pool1 : Array CpInfo := pool [(2, .class_ 4), (0, .nameAndType 5 6), (0, u "java/lang/Object"), (0, u "<init>"), (0, u "()V"), (0, .methodref 8 9), (0, .class_ 10), (0, .nameAndType 11 12), (0, u "java/lang/String"), (0, u "valueOf"), (0, u "(C)Ljava/lang/String;"), (0, .class_ 14), (0, u "dev/shiftwise/stats/Statistics"), (0, .methodref 13 3), (0, .methodref 13 17), (0, .nameAndType 18 19), (0, u "window"), (0, u "(JI)V"), (0, .methodref 13 21), (0, .nameAndType 22 23), (0, u "begin"), (0, u "(Ljava/lang/String;JI)V"), (0, .long 18446744073709551615), (1, .methodref 13 27), (0, .nameAndType 28 29), (0, u "searchUncountedBy"), (0, u "(Ljava/lang/String;)V"), (0, .methodref 13 31), (0, .nameAndType 32 29), (0, u "searchBy"), (0, .methodref 13 34), (0, .nameAndType 35 19), (0, u "part"), (0, .methodref 13 37), (0, .nameAndType 38 39), (0, u "windows"), (0, u "()J"), (0, .class_ 41), (0, u "dev/shiftwise/stats/StatisticsWindowsPinLaw"), (2, u "law"), (0, u "(IIJII)Z")] 3

def k1m0 : Method := { name := "<init>", desc := "()V", sig := { parameters := [], returnType := none }, accessFlags := 1, code := none }
def k1c1 : Code := { maxStack := 5, maxLocals := 20, code := code, exceptionTable := #[], attributes := #[] }
def k1m1 : Method := { name := "law", desc := "(IIJII)Z", sig := { parameters := [.int, .int, .long, .int, .int], returnType := some .boolean }, accessFlags := 9, code := some k1c1 }
/-- dev/shiftwise/stats/StatisticsWindowsPinLaw -/
def k1 : Class := { plain "dev/shiftwise/stats/StatisticsWindowsPinLaw" (some 0) with
  accessFlags := 49
  interfaces := #[]
  cf := some (fileOf pool1 40 #[] #[{ accessFlags := 1, nameIndex := 5, descriptorIndex := 6, attributes := #[] }, { accessFlags := 9, nameIndex := 44, descriptorIndex := 45, attributes := #[] }] 49 2 #[] #[])
  fields := #[]
  methods := #[k1m0, k1m1]
  instanceTypes := #[]
  staticTypes := #[]
  resolved := Array.replicate 49 none
  statics := none }

def pool2 : Array CpInfo := pool [(1, .class_ 2), (0, u "java/io/Serializable"), (0, .class_ 4), (0, u "java/lang/Object")] 2

/-- java/io/Serializable -/
def k2 : Class := { plain "java/io/Serializable" (some 0) with
  accessFlags := 1537
  interfaces := #[]
  cf := some (fileOf pool2 1 #[] #[] 1537 3 #[] #[])
  fields := #[]
  methods := #[]
  instanceTypes := #[]
  staticTypes := #[]
  resolved := Array.replicate 7 none
  statics := none }

def pool3 : Array CpInfo := pool [(1, .class_ 2), (0, u "java/lang/Comparable"), (0, .class_ 4), (0, u "java/lang/Object")] 7

/-- java/lang/Comparable -/
def k3 : Class := { plain "java/lang/Comparable" (some 0) with
  accessFlags := 1537
  interfaces := #[]
  cf := some (fileOf pool3 1 #[] #[] 1537 3 #[] #[])
  fields := #[]
  methods := #[]
  instanceTypes := #[]
  staticTypes := #[]
  resolved := Array.replicate 12 none
  statics := none }

def pool4 : Array CpInfo := pool [(2, .class_ 4), (1, u "java/lang/CharSequence"), (42, .class_ 48), (0, u "java/lang/CharSequence$1CodePointIterator"), (10, .class_ 60), (0, u "java/lang/CharSequence$1CharIterator"), (5, .class_ 67), (0, u "java/lang/Object")] 63

/-- java/lang/CharSequence -/
def k4 : Class := { plain "java/lang/CharSequence" (some 0) with
  accessFlags := 1537
  interfaces := #[]
  cf := some (fileOf pool4 2 #[.nestMembers #[47, 59]] #[] 1537 66 #[] #[])
  fields := #[]
  methods := #[]
  instanceTypes := #[]
  staticTypes := #[]
  resolved := Array.replicate 131 none
  statics := none }

def pool5 : Array CpInfo := pool [(1, .class_ 2), (0, u "java/lang/constant/Constable"), (0, .class_ 4), (0, u "java/lang/Object")] 6

/-- java/lang/constant/Constable -/
def k5 : Class := { plain "java/lang/constant/Constable" (some 0) with
  accessFlags := 1537
  interfaces := #[]
  cf := some (fileOf pool5 1 #[] #[] 1537 3 #[] #[])
  fields := #[]
  methods := #[]
  instanceTypes := #[]
  staticTypes := #[]
  resolved := Array.replicate 11 none
  statics := none }

def pool6 : Array CpInfo := pool [(1, .class_ 2), (0, u "java/lang/constant/ConstantDesc"), (0, .class_ 4), (0, u "java/lang/Object")] 32

/-- java/lang/constant/ConstantDesc -/
def k6 : Class := { plain "java/lang/constant/ConstantDesc" (some 0) with
  accessFlags := 1537
  interfaces := #[]
  cf := some (fileOf pool6 1 #[] #[] 1537 3 #[] #[])
  fields := #[]
  methods := #[]
  instanceTypes := #[]
  staticTypes := #[]
  resolved := Array.replicate 37 none
  statics := none }

def pool7 : Array CpInfo := pool [(1, .methodref 2 3), (0, .class_ 4), (0, .nameAndType 5 6), (0, u "java/lang/Object"), (0, u "<init>"), (0, u "()V"), (2, .fieldref 10 11), (0, .class_ 12), (0, .nameAndType 13 14), (0, u "java/lang/String"), (0, u "value"), (0, u "[B"), (0, .fieldref 10 16), (0, .nameAndType 17 18), (0, u "coder"), (0, u "B"), (2, u "hash"), (0, u "I"), (2, u "hashIsZero"), (0, u "Z"), (11, .fieldref 10 39), (0, .nameAndType 40 26), (0, u "COMPACT_STRINGS"), (12, u "toBytes"), (53, .class_ 109), (1, u "java/lang/StringLatin1"), (99, .methodref 10 210), (0, .nameAndType 5 211), (0, u "([BB)V"), (157, u "(C)Z"), (205, .class_ 576), (0, u "java/lang/CharSequence"), (22, u "CASE_INSENSITIVE_ORDER"), (0, u "Ljava/util/Comparator;"), (181, u "valueOf"), (0, u "(C)Ljava/lang/String;"), (231, .methodref 107 1016), (0, .nameAndType 1017 369), (0, u "canEncode"), (0, .methodref 107 1019), (0, .nameAndType 53 1020), (0, u "(C)[B"), (80, u "serialPersistentFields"), (0, u "[Ljava/io/ObjectStreamField;"), (0, .class_ 1104), (0, u "java/lang/String$CaseInsensitiveComparator"), (1, .class_ 1107), (0, u "java/io/Serializable"), (0, .class_ 1109), (0, u "java/lang/Comparable"), (0, .class_ 1111), (0, u "java/lang/constant/Constable"), (0, .class_ 1113), (0, u "java/lang/constant/ConstantDesc"), (2, u "serialVersionUID"), (0, u "J"), (3, u "REPL"), (0, u "C"), (2, u "LATIN1"), (1, u "UTF16")] 323

def k7m0 : Method := { name := "<init>", desc := "()V", sig := { parameters := [], returnType := none }, accessFlags := 1, code := none }
def k7c1 : Code := { maxStack := 4, maxLocals := 1, code := jdk_42_method_139_code, exceptionTable := #[], attributes := #[] }
def k7m1 : Method := { name := "valueOf", desc := "(C)Ljava/lang/String;", sig := { parameters := [.char], returnType := some (.object "java/lang/String") }, accessFlags := 9, code := some k7c1 }
def k7c2 : Code := { maxStack := 2, maxLocals := 3, code := jdk_42_method_151_code, exceptionTable := #[], attributes := #[] }
def k7m2 : Method := { name := "<init>", desc := "([BB)V", sig := { parameters := [(.array .byte), .byte], returnType := none }, accessFlags := 0, code := some k7c2 }
/-- java/lang/String -/
def k7 : Class := { plain "java/lang/String" (some 0) with
  accessFlags := 49
  interfaces := #[2, 3, 4, 5, 6]
  cf := some (fileOf pool7 10 #[.nestMembers #[1103]] #[{ accessFlags := 1, nameIndex := 5, descriptorIndex := 6, attributes := #[] }, { accessFlags := 9, nameIndex := 782, descriptorIndex := 783, attributes := #[] }, { accessFlags := 0, nameIndex := 5, descriptorIndex := 211, attributes := #[] }] 49 2 #[1106, 1108, 575, 1110, 1112] #[{ accessFlags := 18, nameIndex := 13, descriptorIndex := 14, attributes := #[] }, { accessFlags := 18, nameIndex := 17, descriptorIndex := 18, attributes := #[] }, { accessFlags := 2, nameIndex := 21, descriptorIndex := 22, attributes := #[] }, { accessFlags := 2, nameIndex := 25, descriptorIndex := 26, attributes := #[] }, { accessFlags := 26, nameIndex := 1116, descriptorIndex := 1117, attributes := #[] }, { accessFlags := 24, nameIndex := 40, descriptorIndex := 26, attributes := #[] }, { accessFlags := 26, nameIndex := 1101, descriptorIndex := 1102, attributes := #[] }, { accessFlags := 26, nameIndex := 1121, descriptorIndex := 1122, attributes := #[] }, { accessFlags := 25, nameIndex := 599, descriptorIndex := 600, attributes := #[] }, { accessFlags := 24, nameIndex := 1125, descriptorIndex := 18, attributes := #[] }, { accessFlags := 24, nameIndex := 1127, descriptorIndex := 18, attributes := #[] }])
  fields := #[{ name := "value", type := (.array .byte), accessFlags := 18, slot := 0, constantValue := 0 }, { name := "coder", type := .byte, accessFlags := 18, slot := 1, constantValue := 0 }, { name := "hash", type := .int, accessFlags := 2, slot := 2, constantValue := 0 }, { name := "hashIsZero", type := .boolean, accessFlags := 2, slot := 3, constantValue := 0 }, { name := "serialVersionUID", type := .long, accessFlags := 26, slot := 0, constantValue := 0 }, { name := "COMPACT_STRINGS", type := .boolean, accessFlags := 24, slot := 1, constantValue := 0 }, { name := "serialPersistentFields", type := (.array (.object "java/io/ObjectStreamField")), accessFlags := 26, slot := 2, constantValue := 0 }, { name := "REPL", type := .char, accessFlags := 26, slot := 3, constantValue := 0 }, { name := "CASE_INSENSITIVE_ORDER", type := (.object "java/util/Comparator"), accessFlags := 25, slot := 4, constantValue := 0 }, { name := "LATIN1", type := .byte, accessFlags := 24, slot := 5, constantValue := 0 }, { name := "UTF16", type := .byte, accessFlags := 24, slot := 6, constantValue := 0 }]
  methods := #[k7m0, k7m1, k7m2]
  instanceTypes := #[(.array .byte), .byte, .int, .boolean]
  staticTypes := #[.long, .boolean, (.array (.object "java/io/ObjectStreamField")), .char, (.object "java/util/Comparator"), .byte, .byte]
  resolved := Array.replicate 1451 none
  statics := some 0 }

def pool8 : Array CpInfo := pool [(4, .class_ 6), (1, u "java/lang/Object"), (0, u "<init>"), (0, u "()V"), (5, .class_ 16), (1, u "java/lang/StringLatin1"), (73, u "canEncode"), (14, u "(C)Z"), (15, u "$assertionsDisabled"), (0, u "Z"), (98, .class_ 223), (1, u "java/lang/StringLatin1$LinesSpliterator"), (156, u "toBytes"), (1, u "(C)[B"), (7, .class_ 391), (0, u "java/lang/StringLatin1$CharsSpliterator")] 3

def k8m0 : Method := { name := "<init>", desc := "()V", sig := { parameters := [], returnType := none }, accessFlags := 0, code := none }
def k8c1 : Code := { maxStack := 2, maxLocals := 1, code := jdk_43_method_3_code, exceptionTable := #[], attributes := #[] }
def k8m1 : Method := { name := "canEncode", desc := "(C)Z", sig := { parameters := [.char], returnType := some .boolean }, accessFlags := 9, code := some k8c1 }
def k8c2 : Code := { maxStack := 4, maxLocals := 1, code := jdk_43_method_46_code, exceptionTable := #[], attributes := #[] }
def k8m2 : Method := { name := "toBytes", desc := "(C)[B", sig := { parameters := [.char], returnType := some (.array .byte) }, accessFlags := 9, code := some k8c2 }
/-- java/lang/StringLatin1 -/
def k8 : Class := { plain "java/lang/StringLatin1" (some 0) with
  accessFlags := 48
  interfaces := #[]
  cf := some (fileOf pool8 14 #[.nestMembers #[390, 221]] #[{ accessFlags := 0, nameIndex := 7, descriptorIndex := 8, attributes := #[] }, { accessFlags := 9, nameIndex := 90, descriptorIndex := 105, attributes := #[] }, { accessFlags := 9, nameIndex := 380, descriptorIndex := 382, attributes := #[] }] 48 4 #[] #[{ accessFlags := 4120, nameIndex := 121, descriptorIndex := 122, attributes := #[] }])
  fields := #[{ name := "$assertionsDisabled", type := .boolean, accessFlags := 4120, slot := 0, constantValue := 0 }]
  methods := #[k8m0, k8m1, k8m2]
  instanceTypes := #[]
  staticTypes := #[.boolean]
  resolved := Array.replicate 395 none
  statics := none }

def pool9 : Array CpInfo := pool [(1, .methodref 2 3), (0, .class_ 4), (0, .nameAndType 5 6), (0, u "dev/shiftwise/stats/Statistics"), (0, u "<init>"), (0, u "(Ldev/shiftwise/stats/Trace;)V"), (0, .methodref 8 9), (0, .class_ 10), (0, .nameAndType 5 11), (0, u "java/lang/Object"), (0, u "()V"), (0, .fieldref 2 13), (0, .nameAndType 14 15), (0, u "algorithm"), (0, u "Ljava/lang/String;"), (0, .fieldref 2 17), (0, .nameAndType 18 15), (0, u "searchedBy"), (0, .fieldref 2 20), (0, .nameAndType 21 22), (0, u "counted"), (0, u "Z"), (0, .fieldref 2 24), (0, .nameAndType 25 26), (0, u "text"), (0, u "J"), (0, .fieldref 2 28), (0, .nameAndType 29 26), (0, u "origin"), (0, .fieldref 2 31), (0, .nameAndType 32 33), (0, u "pattern"), (0, u "I"), (0, .fieldref 2 35), (0, .nameAndType 36 26), (0, u "windows"), (0, .fieldref 2 38), (0, .nameAndType 39 26), (0, u "comparisons"), (0, .fieldref 2 41), (0, .nameAndType 42 26), (0, u "occurrences"), (0, .fieldref 2 44), (0, .nameAndType 45 46), (0, u "trace"), (0, u "Ldev/shiftwise/stats/Trace;"), (4, u "window"), (0, u "(JI)V"), (4, .methodref 2 58), (0, .nameAndType 59 60), (0, u "searchBy"), (0, u "(Ljava/lang/String;)V"), (0, .long 18446744073709551615), (3, u "()J"), (5, u "UNCOUNTED"), (3, u "begin"), (0, u "(Ljava/lang/String;JI)V"), (0, u "part"), (3, u "searchUncountedBy")] 22

def k9c0 : Code := { maxStack := 2, maxLocals := 1, code := prog_46_method_1_code, exceptionTable := #[], attributes := #[] }
def k9m0 : Method := { name := "<init>", desc := "()V", sig := { parameters := [], returnType := none }, accessFlags := 1, code := some k9c0 }
def k9c1 : Code := { maxStack := 3, maxLocals := 2, code := prog_46_method_2_code, exceptionTable := #[], attributes := #[] }
def k9m1 : Method := { name := "<init>", desc := "(Ldev/shiftwise/stats/Trace;)V", sig := { parameters := [(.object "dev/shiftwise/stats/Trace")], returnType := none }, accessFlags := 1, code := some k9c1 }
def k9c2 : Code := { maxStack := 3, maxLocals := 5, code := prog_46_method_3_code, exceptionTable := #[], attributes := #[] }
def k9m2 : Method := { name := "begin", desc := "(Ljava/lang/String;JI)V", sig := { parameters := [(.object "java/lang/String"), .long, .int], returnType := none }, accessFlags := 1, code := some k9c2 }
def k9c3 : Code := { maxStack := 5, maxLocals := 4, code := prog_46_method_4_code, exceptionTable := #[], attributes := #[] }
def k9m3 : Method := { name := "part", desc := "(JI)V", sig := { parameters := [.long, .int], returnType := none }, accessFlags := 1, code := some k9c3 }
def k9c4 : Code := { maxStack := 5, maxLocals := 4, code := prog_46_method_5_code, exceptionTable := #[], attributes := #[] }
def k9m4 : Method := { name := "window", desc := "(JI)V", sig := { parameters := [.long, .int], returnType := none }, accessFlags := 1, code := some k9c4 }
def k9c5 : Code := { maxStack := 3, maxLocals := 2, code := prog_46_method_6_code, exceptionTable := #[], attributes := #[] }
def k9m5 : Method := { name := "searchBy", desc := "(Ljava/lang/String;)V", sig := { parameters := [(.object "java/lang/String")], returnType := none }, accessFlags := 1, code := some k9c5 }
def k9c6 : Code := { maxStack := 2, maxLocals := 2, code := prog_46_method_7_code, exceptionTable := #[], attributes := #[] }
def k9m6 : Method := { name := "searchUncountedBy", desc := "(Ljava/lang/String;)V", sig := { parameters := [(.object "java/lang/String")], returnType := none }, accessFlags := 1, code := some k9c6 }
def k9c7 : Code := { maxStack := 2, maxLocals := 1, code := prog_46_method_9_code, exceptionTable := #[], attributes := #[] }
def k9m7 : Method := { name := "windows", desc := "()J", sig := { parameters := [], returnType := some .long }, accessFlags := 1, code := some k9c7 }
/-- dev/shiftwise/stats/Statistics -/
def k9 : Class := { plain "dev/shiftwise/stats/Statistics" (some 0) with
  accessFlags := 49
  interfaces := #[]
  cf := some (fileOf pool9 2 #[] #[{ accessFlags := 1, nameIndex := 5, descriptorIndex := 11, attributes := #[] }, { accessFlags := 1, nameIndex := 5, descriptorIndex := 6, attributes := #[] }, { accessFlags := 1, nameIndex := 75, descriptorIndex := 76, attributes := #[] }, { accessFlags := 1, nameIndex := 77, descriptorIndex := 52, attributes := #[] }, { accessFlags := 1, nameIndex := 51, descriptorIndex := 52, attributes := #[] }, { accessFlags := 1, nameIndex := 59, descriptorIndex := 60, attributes := #[] }, { accessFlags := 1, nameIndex := 81, descriptorIndex := 60, attributes := #[] }, { accessFlags := 1, nameIndex := 36, descriptorIndex := 65, attributes := #[] }] 49 8 #[] #[{ accessFlags := 26, nameIndex := 71, descriptorIndex := 26, attributes := #[] }, { accessFlags := 18, nameIndex := 45, descriptorIndex := 46, attributes := #[] }, { accessFlags := 2, nameIndex := 14, descriptorIndex := 15, attributes := #[] }, { accessFlags := 2, nameIndex := 18, descriptorIndex := 15, attributes := #[] }, { accessFlags := 2, nameIndex := 21, descriptorIndex := 22, attributes := #[] }, { accessFlags := 2, nameIndex := 25, descriptorIndex := 26, attributes := #[] }, { accessFlags := 2, nameIndex := 29, descriptorIndex := 26, attributes := #[] }, { accessFlags := 2, nameIndex := 32, descriptorIndex := 33, attributes := #[] }, { accessFlags := 2, nameIndex := 36, descriptorIndex := 26, attributes := #[] }, { accessFlags := 2, nameIndex := 39, descriptorIndex := 26, attributes := #[] }, { accessFlags := 2, nameIndex := 42, descriptorIndex := 26, attributes := #[] }])
  fields := #[{ name := "UNCOUNTED", type := .long, accessFlags := 26, slot := 0, constantValue := 0 }, { name := "trace", type := (.object "dev/shiftwise/stats/Trace"), accessFlags := 18, slot := 0, constantValue := 0 }, { name := "algorithm", type := (.object "java/lang/String"), accessFlags := 2, slot := 1, constantValue := 0 }, { name := "searchedBy", type := (.object "java/lang/String"), accessFlags := 2, slot := 2, constantValue := 0 }, { name := "counted", type := .boolean, accessFlags := 2, slot := 3, constantValue := 0 }, { name := "text", type := .long, accessFlags := 2, slot := 4, constantValue := 0 }, { name := "origin", type := .long, accessFlags := 2, slot := 5, constantValue := 0 }, { name := "pattern", type := .int, accessFlags := 2, slot := 6, constantValue := 0 }, { name := "windows", type := .long, accessFlags := 2, slot := 7, constantValue := 0 }, { name := "comparisons", type := .long, accessFlags := 2, slot := 8, constantValue := 0 }, { name := "occurrences", type := .long, accessFlags := 2, slot := 9, constantValue := 0 }]
  methods := #[k9m0, k9m1, k9m2, k9m3, k9m4, k9m5, k9m6, k9m7]
  instanceTypes := #[(.object "dev/shiftwise/stats/Trace"), (.object "java/lang/String"), (.object "java/lang/String"), .boolean, .long, .long, .int, .long, .long, .long]
  staticTypes := #[.long]
  resolved := Array.replicate 104 none
  statics := none }

def pool10 : Array CpInfo := pool [(2, .class_ 4), (1, u "java/lang/Object"), (0, u "<init>"), (0, u "()V"), (17, .class_ 26), (1, u "jdk/internal/util/Preconditions"), (28, .class_ 56), (0, u "jdk/internal/util/Preconditions$4"), (57, .class_ 115), (0, u "jdk/internal/util/Preconditions$1"), (7, u "SIOOBE_FORMATTER"), (0, u "Ljava/util/function/BiFunction;"), (0, .class_ 126), (0, u "jdk/internal/util/Preconditions$2"), (3, u "AIOOBE_FORMATTER"), (0, .class_ 132), (0, u "jdk/internal/util/Preconditions$3"), (3, u "IOOBE_FORMATTER")] 57

def k10m0 : Method := { name := "<init>", desc := "()V", sig := { parameters := [], returnType := none }, accessFlags := 1, code := none }
/-- jdk/internal/util/Preconditions -/
def k10 : Class := { plain "jdk/internal/util/Preconditions" (some 0) with
  accessFlags := 33
  interfaces := #[]
  cf := some (fileOf pool10 24 #[.nestMembers #[55, 131, 125, 114]] #[{ accessFlags := 1, nameIndex := 5, descriptorIndex := 6, attributes := #[] }] 33 2 #[] #[{ accessFlags := 25, nameIndex := 123, descriptorIndex := 124, attributes := #[] }, { accessFlags := 25, nameIndex := 130, descriptorIndex := 124, attributes := #[] }, { accessFlags := 25, nameIndex := 136, descriptorIndex := 124, attributes := #[] }])
  fields := #[{ name := "SIOOBE_FORMATTER", type := (.object "java/util/function/BiFunction"), accessFlags := 25, slot := 0, constantValue := 0 }, { name := "AIOOBE_FORMATTER", type := (.object "java/util/function/BiFunction"), accessFlags := 25, slot := 1, constantValue := 0 }, { name := "IOOBE_FORMATTER", type := (.object "java/util/function/BiFunction"), accessFlags := 25, slot := 2, constantValue := 0 }]
  methods := #[k10m0]
  instanceTypes := #[]
  staticTypes := #[(.object "java/util/function/BiFunction"), (.object "java/util/function/BiFunction"), (.object "java/util/function/BiFunction")]
  resolved := Array.replicate 194 none
  statics := some 1 }

def pool11 : Array CpInfo := pool [(9, u "<init>"), (6, .class_ 18), (1, u "java/lang/Object"), (0, u "()V"), (1, .class_ 23), (1, u "jdk/internal/util/ArraysSupport"), (0, u "LOG2_ARRAY_LONG_INDEX_SCALE"), (0, u "I"), (2, u "U"), (0, u "Ljdk/internal/misc/Unsafe;"), (8, u "BIG_ENDIAN"), (0, u "Z"), (8, u "LOG2_BYTE_BIT_SIZE"), (4, u "LOG2_ARRAY_INT_INDEX_SCALE"), (54, u "JLA"), (0, u "Ljdk/internal/access/JavaLangAccess;"), (11, u "LOG2_ARRAY_BOOLEAN_INDEX_SCALE"), (9, u "LOG2_ARRAY_BYTE_INDEX_SCALE"), (5, u "LOG2_ARRAY_CHAR_INDEX_SCALE"), (5, u "LOG2_ARRAY_SHORT_INDEX_SCALE"), (18, u "LOG2_ARRAY_FLOAT_INDEX_SCALE"), (24, u "LOG2_ARRAY_DOUBLE_INDEX_SCALE"), (89, u "T_BOOLEAN"), (2, u "T_CHAR"), (1, u "T_FLOAT"), (1, u "T_DOUBLE"), (1, u "T_BYTE"), (1, u "T_SHORT"), (1, u "T_INT"), (1, u "T_LONG"), (1, u "SOFT_MAX_ARRAY_LENGTH")] 83

def k11m0 : Method := { name := "<init>", desc := "()V", sig := { parameters := [], returnType := none }, accessFlags := 2, code := none }
/-- jdk/internal/util/ArraysSupport -/
def k11 : Class := { plain "jdk/internal/util/ArraysSupport" (some 0) with
  accessFlags := 33
  interfaces := #[]
  cf := some (fileOf pool11 21 #[] #[{ accessFlags := 2, nameIndex := 9, descriptorIndex := 19, attributes := #[] }] 33 16 #[] #[{ accessFlags := 24, nameIndex := 28, descriptorIndex := 29, attributes := #[] }, { accessFlags := 26, nameIndex := 38, descriptorIndex := 39, attributes := #[] }, { accessFlags := 25, nameIndex := 121, descriptorIndex := 25, attributes := #[] }, { accessFlags := 25, nameIndex := 131, descriptorIndex := 25, attributes := #[] }, { accessFlags := 25, nameIndex := 137, descriptorIndex := 25, attributes := #[] }, { accessFlags := 25, nameIndex := 143, descriptorIndex := 25, attributes := #[] }, { accessFlags := 25, nameIndex := 53, descriptorIndex := 25, attributes := #[] }, { accessFlags := 25, nameIndex := 24, descriptorIndex := 25, attributes := #[] }, { accessFlags := 25, nameIndex := 162, descriptorIndex := 25, attributes := #[] }, { accessFlags := 25, nameIndex := 187, descriptorIndex := 25, attributes := #[] }, { accessFlags := 26, nameIndex := 48, descriptorIndex := 25, attributes := #[] }, { accessFlags := 25, nameIndex := 277, descriptorIndex := 25, attributes := #[] }, { accessFlags := 25, nameIndex := 280, descriptorIndex := 25, attributes := #[] }, { accessFlags := 25, nameIndex := 282, descriptorIndex := 25, attributes := #[] }, { accessFlags := 25, nameIndex := 284, descriptorIndex := 25, attributes := #[] }, { accessFlags := 25, nameIndex := 286, descriptorIndex := 25, attributes := #[] }, { accessFlags := 25, nameIndex := 288, descriptorIndex := 25, attributes := #[] }, { accessFlags := 25, nameIndex := 290, descriptorIndex := 25, attributes := #[] }, { accessFlags := 25, nameIndex := 292, descriptorIndex := 25, attributes := #[] }, { accessFlags := 26, nameIndex := 108, descriptorIndex := 109, attributes := #[] }, { accessFlags := 25, nameIndex := 294, descriptorIndex := 25, attributes := #[] }])
  fields := #[{ name := "U", type := (.object "jdk/internal/misc/Unsafe"), accessFlags := 24, slot := 0, constantValue := 0 }, { name := "BIG_ENDIAN", type := .boolean, accessFlags := 26, slot := 1, constantValue := 0 }, { name := "LOG2_ARRAY_BOOLEAN_INDEX_SCALE", type := .int, accessFlags := 25, slot := 2, constantValue := 0 }, { name := "LOG2_ARRAY_BYTE_INDEX_SCALE", type := .int, accessFlags := 25, slot := 3, constantValue := 0 }, { name := "LOG2_ARRAY_CHAR_INDEX_SCALE", type := .int, accessFlags := 25, slot := 4, constantValue := 0 }, { name := "LOG2_ARRAY_SHORT_INDEX_SCALE", type := .int, accessFlags := 25, slot := 5, constantValue := 0 }, { name := "LOG2_ARRAY_INT_INDEX_SCALE", type := .int, accessFlags := 25, slot := 6, constantValue := 0 }, { name := "LOG2_ARRAY_LONG_INDEX_SCALE", type := .int, accessFlags := 25, slot := 7, constantValue := 0 }, { name := "LOG2_ARRAY_FLOAT_INDEX_SCALE", type := .int, accessFlags := 25, slot := 8, constantValue := 0 }, { name := "LOG2_ARRAY_DOUBLE_INDEX_SCALE", type := .int, accessFlags := 25, slot := 9, constantValue := 0 }, { name := "LOG2_BYTE_BIT_SIZE", type := .int, accessFlags := 26, slot := 10, constantValue := 0 }, { name := "T_BOOLEAN", type := .int, accessFlags := 25, slot := 11, constantValue := 0 }, { name := "T_CHAR", type := .int, accessFlags := 25, slot := 12, constantValue := 0 }, { name := "T_FLOAT", type := .int, accessFlags := 25, slot := 13, constantValue := 0 }, { name := "T_DOUBLE", type := .int, accessFlags := 25, slot := 14, constantValue := 0 }, { name := "T_BYTE", type := .int, accessFlags := 25, slot := 15, constantValue := 0 }, { name := "T_SHORT", type := .int, accessFlags := 25, slot := 16, constantValue := 0 }, { name := "T_INT", type := .int, accessFlags := 25, slot := 17, constantValue := 0 }, { name := "T_LONG", type := .int, accessFlags := 25, slot := 18, constantValue := 0 }, { name := "JLA", type := (.object "jdk/internal/access/JavaLangAccess"), accessFlags := 26, slot := 19, constantValue := 0 }, { name := "SOFT_MAX_ARRAY_LENGTH", type := .int, accessFlags := 25, slot := 20, constantValue := 0 }]
  methods := #[k11m0]
  instanceTypes := #[]
  staticTypes := #[(.object "jdk/internal/misc/Unsafe"), .boolean, .int, .int, .int, .int, .int, .int, .int, .int, .int, .int, .int, .int, .int, .int, .int, .int, .int, (.object "jdk/internal/access/JavaLangAccess"), .int]
  resolved := Array.replicate 378 none
  statics := none }

def pool12 : Array CpInfo := pool [(1, u "java/lang/Cloneable"), (0, .class_ 1), (0, u "java/lang/Object"), (0, .class_ 3)] 3

/-- java/lang/Cloneable -/
def k12 : Class := { plain "java/lang/Cloneable" (some 0) with
  accessFlags := 1537
  interfaces := #[]
  cf := some (fileOf pool12 2 #[] #[] 1537 4 #[] #[])
  fields := #[]
  methods := #[]
  instanceTypes := #[]
  staticTypes := #[]
  resolved := Array.replicate 8 none
  statics := none }

/-- the primitive byte -/
def k13 : Class := { plain "byte" none with kind := .primitive 'B', accessFlags := 0x411 }
/-- [B -/
def k14 : Class := { plain "[B" (some 0) with kind := .array 13 .byte, interfaces := #[12, 2], accessFlags := 1041 }

/-- the primitive int -/
def k15 : Class := { plain "int" none with kind := .primitive 'I', accessFlags := 0x411 }
/-- [I -/
def k16 : Class := { plain "[I" (some 0) with kind := .array 15 .int, interfaces := #[12, 2], accessFlags := 1041 }

def heap : Heap := #[{ cls := 7, slots := #[.long 0, .int 1, .null, .int 0, .null, .int 0, .int 0], vm := .statics 7 },
  { cls := 10, slots := #[.null, .null, .null], vm := .statics 10 }]
def classes : Array Class := #[k0, k1, k2, k3, k4, k5, k6, k7, k8, k9, k10, k11, k12, k13, k14, k15, k16]
def interned : List (Array UInt16 × Addr) := []
def slotsUsed : Nat := 10
def theMethod : MethodId := ⟨1, 1⟩
def args0 : Array Value := #[.int 5, .int 3, .long 7, .int 9, .int 1]
def aboutOver (below : List Frame) : State where
  vm := { classes := classes, interned := interned.toArray }
  heap := heap
  slotsUsed := slotsUsed
  threads := #[{ frames := .invoking theMethod args0 :: below }]
def below0 : List Frame := [.native { method := ⟨0, 0⟩, args := #[] }]
def about1 : State := aboutOver below0
def p0 : Program := .bare "" "" ""
def e0 : Env := launch0.env 0 0 0
theorem w_frames : about1.frames = Frame.invoking theMethod args0 :: below0 := rfl
set_option maxRecDepth 65536 in
theorem w_args : argsFit about1.vm theMethod args0 = true := by decide +kernel
set_option maxRecDepth 65536 in
theorem w_heap : heapFits about1 = true := by decide +kernel
set_option maxRecDepth 65536 in
theorem w_runnable : about1.curStatus? = some .runnable := by decide +kernel
set_option maxRecDepth 65536 in
theorem w_alone : about1.alone = true := by decide +kernel
set_option maxRecDepth 65536 in
theorem w_named : about1.methodNamed? x = some theMethod := by decide +kernel
set_option maxRecDepth 65536 in
theorem w_hears : about1.hears theMethod below0 = true := by decide +kernel
set_option maxRecDepth 65536 in
theorem w_ripe : about1.ripe theMethod args0 below0 = true := by decide +kernel
theorem w_running : about1.status = .running := rfl
set_option maxRecDepth 65536 in
theorem w_room : about1.hasRoom e0.platform room_1 = true :=
  launch0.hasRoom_least _ room_1 (by decide +kernel) (by decide +kernel) (by decide +kernel) (by decide +kernel) (by decide +kernel) (by decide +kernel)
theorem allAtoms_all (ts : List Jvm.Cond) (a : Array Jvm.Value) (st : Jvm.State) : (allAtoms ts).before a st = ts.all (fun c => c.before a st) := by
  induction ts with
  | nil => rfl
  | cons c t ih =>
    show (Jvm.Cond.and c (allAtoms t)).before a st = _
    rw [Jvm.Cond.before_and, ih, List.all_cons]
def words1 : List Jvm.Cond := Jvm.Cond.code x code maxLocals ret :: tables_1
/-- a 'code' word, met by the world's own term for the bytes: nothing is compared byte by byte -/
theorem code_word {y : MethodName} {bytes : ByteArray} {mx : Nat} {rt : Option FieldType} {a : Array Value} {s : State} {m : MethodId} {meth : Method} {c : Code} (h1 : s.methodNamed? y = some m) (h2 : s.vm.method? m = some meth) (h3 : meth.code = some c) (h4 : c.code = bytes)
    (h5 : (c.maxLocals == mx && c.exceptionTable.isEmpty && decide (c.maxStack ≤ mostOperands) && decide (meth.sig.returnType = rt) && !meth.locks && decide (parseMethodDescriptor y.desc = some meth.sig)) = true) : (Jvm.Cond.code y bytes mx rt).before a s = true := by
  simp only [Bool.and_eq_true, beq_iff_eq, Bool.not_eq_true', decide_eq_true_eq] at h5
  obtain ⟨⟨⟨⟨⟨g1, g2⟩, g3⟩, g4⟩, g5⟩, g6⟩ := h5
  simp [Cond.before, Cond.holds, Cond.value, h1, h2, h3, h4, g1, g2, g3, g4, g5, g6]
def isCode : Jvm.Cond → Bool
  | .code _ _ _ _ => true
  | _ => false
theorem all_split {L : List Jvm.Cond} {P : Jvm.Cond → Bool} (h1 : L.all (fun c => isCode c || P c) = true) (h2 : ∀ c ∈ L.filter isCode, P c = true) : L.all P = true := by
  refine List.all_eq_true.mpr fun c hc => ?_
  have h := List.all_eq_true.mp h1 c hc
  rcases Bool.eq_false_or_eq_true (isCode c) with hi | hi
  · exact h2 c (List.mem_filter.mpr ⟨hc, hi⟩)
  · simpa [hi] using h
set_option maxRecDepth 65536 in
theorem w_c0 : (Jvm.Cond.code x code maxLocals ret).before args0 about1 = true := code_word (m := ⟨1, 1⟩) (meth := k1m1) (c := k1c1) (by decide +kernel) rfl rfl rfl (by decide +kernel)
set_option maxRecDepth 65536 in
theorem w_c1 : (Jvm.Cond.code ({ cls := "java/lang/String", name := "valueOf", desc := "(C)Ljava/lang/String;" } : Jvm.MethodName) jdk_42_method_139_code (1 : Nat) (Option.some (Jvm.ClassFile.FieldType.object "java/lang/String"))).before args0 about1 = true := code_word (m := ⟨7, 1⟩) (meth := k7m1) (c := k7c1) (by decide +kernel) rfl rfl rfl (by decide +kernel)
set_option maxRecDepth 65536 in
theorem w_c2 : (Jvm.Cond.code ({ cls := "java/lang/StringLatin1", name := "canEncode", desc := "(C)Z" } : Jvm.MethodName) jdk_43_method_3_code (1 : Nat) (Option.some Jvm.ClassFile.FieldType.boolean)).before args0 about1 = true := code_word (m := ⟨8, 1⟩) (meth := k8m1) (c := k8c1) (by decide +kernel) rfl rfl rfl (by decide +kernel)
set_option maxRecDepth 65536 in
theorem w_c3 : (Jvm.Cond.code ({ cls := "java/lang/StringLatin1", name := "toBytes", desc := "(C)[B" } : Jvm.MethodName) jdk_43_method_46_code (1 : Nat) (Option.some (Jvm.ClassFile.FieldType.array Jvm.ClassFile.FieldType.byte))).before args0 about1 = true := code_word (m := ⟨8, 2⟩) (meth := k8m2) (c := k8c2) (by decide +kernel) rfl rfl rfl (by decide +kernel)
set_option maxRecDepth 65536 in
theorem w_c4 : (Jvm.Cond.code ({ cls := "java/lang/String", name := "<init>", desc := "([BB)V" } : Jvm.MethodName) jdk_42_method_151_code (3 : Nat) (Option.none : Option Jvm.ClassFile.FieldType)).before args0 about1 = true := code_word (m := ⟨7, 2⟩) (meth := k7m2) (c := k7c2) (by decide +kernel) rfl rfl rfl (by decide +kernel)
set_option maxRecDepth 65536 in
theorem w_c5 : (Jvm.Cond.code ({ cls := "java/lang/Object", name := "<init>", desc := "()V" } : Jvm.MethodName) object_method_1_code (1 : Nat) (Option.none : Option Jvm.ClassFile.FieldType)).before args0 about1 = true := code_word (m := ⟨0, 0⟩) (meth := k0m0) (c := k0c0) (by decide +kernel) rfl rfl rfl (by decide +kernel)
set_option maxRecDepth 65536 in
theorem w_c6 : (Jvm.Cond.code ({ cls := "dev/shiftwise/stats/Statistics", name := "<init>", desc := "()V" } : Jvm.MethodName) prog_46_method_1_code (1 : Nat) (Option.none : Option Jvm.ClassFile.FieldType)).before args0 about1 = true := code_word (m := ⟨9, 0⟩) (meth := k9m0) (c := k9c0) (by decide +kernel) rfl rfl rfl (by decide +kernel)
set_option maxRecDepth 65536 in
theorem w_c7 : (Jvm.Cond.code ({ cls := "dev/shiftwise/stats/Statistics", name := "<init>", desc := "(Ldev/shiftwise/stats/Trace;)V" } : Jvm.MethodName) prog_46_method_2_code (2 : Nat) (Option.none : Option Jvm.ClassFile.FieldType)).before args0 about1 = true := code_word (m := ⟨9, 1⟩) (meth := k9m1) (c := k9c1) (by decide +kernel) rfl rfl rfl (by decide +kernel)
set_option maxRecDepth 65536 in
theorem w_c8 : (Jvm.Cond.code ({ cls := "dev/shiftwise/stats/Statistics", name := "window", desc := "(JI)V" } : Jvm.MethodName) prog_46_method_5_code (4 : Nat) (Option.none : Option Jvm.ClassFile.FieldType)).before args0 about1 = true := code_word (m := ⟨9, 4⟩) (meth := k9m4) (c := k9c4) (by decide +kernel) rfl rfl rfl (by decide +kernel)
set_option maxRecDepth 65536 in
theorem w_c9 : (Jvm.Cond.code ({ cls := "dev/shiftwise/stats/Statistics", name := "windows", desc := "()J" } : Jvm.MethodName) prog_46_method_9_code (1 : Nat) (Option.some Jvm.ClassFile.FieldType.long)).before args0 about1 = true := code_word (m := ⟨9, 7⟩) (meth := k9m7) (c := k9c7) (by decide +kernel) rfl rfl rfl (by decide +kernel)
set_option maxRecDepth 65536 in
theorem w_c10 : (Jvm.Cond.code ({ cls := "dev/shiftwise/stats/Statistics", name := "searchUncountedBy", desc := "(Ljava/lang/String;)V" } : Jvm.MethodName) prog_46_method_7_code (2 : Nat) (Option.none : Option Jvm.ClassFile.FieldType)).before args0 about1 = true := code_word (m := ⟨9, 6⟩) (meth := k9m6) (c := k9c6) (by decide +kernel) rfl rfl rfl (by decide +kernel)
set_option maxRecDepth 65536 in
theorem w_c11 : (Jvm.Cond.code ({ cls := "dev/shiftwise/stats/Statistics", name := "searchBy", desc := "(Ljava/lang/String;)V" } : Jvm.MethodName) prog_46_method_6_code (2 : Nat) (Option.none : Option Jvm.ClassFile.FieldType)).before args0 about1 = true := code_word (m := ⟨9, 5⟩) (meth := k9m5) (c := k9c5) (by decide +kernel) rfl rfl rfl (by decide +kernel)
set_option maxRecDepth 65536 in
theorem w_c12 : (Jvm.Cond.code ({ cls := "dev/shiftwise/stats/Statistics", name := "part", desc := "(JI)V" } : Jvm.MethodName) prog_46_method_4_code (4 : Nat) (Option.none : Option Jvm.ClassFile.FieldType)).before args0 about1 = true := code_word (m := ⟨9, 3⟩) (meth := k9m3) (c := k9c3) (by decide +kernel) rfl rfl rfl (by decide +kernel)
set_option maxRecDepth 65536 in
theorem w_c13 : (Jvm.Cond.code ({ cls := "dev/shiftwise/stats/Statistics", name := "begin", desc := "(Ljava/lang/String;JI)V" } : Jvm.MethodName) prog_46_method_3_code (5 : Nat) (Option.none : Option Jvm.ClassFile.FieldType)).before args0 about1 = true := code_word (m := ⟨9, 2⟩) (meth := k9m2) (c := k9c2) (by decide +kernel) rfl rfl rfl (by decide +kernel)
def codes1 : List Jvm.Cond := [Jvm.Cond.code x code maxLocals ret, Jvm.Cond.code ({ cls := "java/lang/String", name := "valueOf", desc := "(C)Ljava/lang/String;" } : Jvm.MethodName) jdk_42_method_139_code (1 : Nat) (Option.some (Jvm.ClassFile.FieldType.object "java/lang/String")), Jvm.Cond.code ({ cls := "java/lang/StringLatin1", name := "canEncode", desc := "(C)Z" } : Jvm.MethodName) jdk_43_method_3_code (1 : Nat) (Option.some Jvm.ClassFile.FieldType.boolean), Jvm.Cond.code ({ cls := "java/lang/StringLatin1", name := "toBytes", desc := "(C)[B" } : Jvm.MethodName) jdk_43_method_46_code (1 : Nat) (Option.some (Jvm.ClassFile.FieldType.array Jvm.ClassFile.FieldType.byte)), Jvm.Cond.code ({ cls := "java/lang/String", name := "<init>", desc := "([BB)V" } : Jvm.MethodName) jdk_42_method_151_code (3 : Nat) (Option.none : Option Jvm.ClassFile.FieldType), Jvm.Cond.code ({ cls := "java/lang/Object", name := "<init>", desc := "()V" } : Jvm.MethodName) object_method_1_code (1 : Nat) (Option.none : Option Jvm.ClassFile.FieldType), Jvm.Cond.code ({ cls := "dev/shiftwise/stats/Statistics", name := "<init>", desc := "()V" } : Jvm.MethodName) prog_46_method_1_code (1 : Nat) (Option.none : Option Jvm.ClassFile.FieldType), Jvm.Cond.code ({ cls := "dev/shiftwise/stats/Statistics", name := "<init>", desc := "(Ldev/shiftwise/stats/Trace;)V" } : Jvm.MethodName) prog_46_method_2_code (2 : Nat) (Option.none : Option Jvm.ClassFile.FieldType), Jvm.Cond.code ({ cls := "dev/shiftwise/stats/Statistics", name := "window", desc := "(JI)V" } : Jvm.MethodName) prog_46_method_5_code (4 : Nat) (Option.none : Option Jvm.ClassFile.FieldType), Jvm.Cond.code ({ cls := "dev/shiftwise/stats/Statistics", name := "windows", desc := "()J" } : Jvm.MethodName) prog_46_method_9_code (1 : Nat) (Option.some Jvm.ClassFile.FieldType.long), Jvm.Cond.code ({ cls := "dev/shiftwise/stats/Statistics", name := "searchUncountedBy", desc := "(Ljava/lang/String;)V" } : Jvm.MethodName) prog_46_method_7_code (2 : Nat) (Option.none : Option Jvm.ClassFile.FieldType), Jvm.Cond.code ({ cls := "dev/shiftwise/stats/Statistics", name := "searchBy", desc := "(Ljava/lang/String;)V" } : Jvm.MethodName) prog_46_method_6_code (2 : Nat) (Option.none : Option Jvm.ClassFile.FieldType), Jvm.Cond.code ({ cls := "dev/shiftwise/stats/Statistics", name := "part", desc := "(JI)V" } : Jvm.MethodName) prog_46_method_4_code (4 : Nat) (Option.none : Option Jvm.ClassFile.FieldType), Jvm.Cond.code ({ cls := "dev/shiftwise/stats/Statistics", name := "begin", desc := "(Ljava/lang/String;JI)V" } : Jvm.MethodName) prog_46_method_3_code (5 : Nat) (Option.none : Option Jvm.ClassFile.FieldType)]
set_option maxRecDepth 65536 in
theorem codes_eq : words1.filter isCode = codes1 := rfl
theorem w_codes : ∀ c ∈ words1.filter isCode, c.before args0 about1 = true := by
  rw [codes_eq]
  intro c hc
  simp only [codes1, List.mem_cons, List.not_mem_nil, or_false] at hc
  rcases hc with rfl | rfl | rfl | rfl | rfl | rfl | rfl | rfl | rfl | rfl | rfl | rfl | rfl | rfl
  · exact w_c0
  · exact w_c1
  · exact w_c2
  · exact w_c3
  · exact w_c4
  · exact w_c5
  · exact w_c6
  · exact w_c7
  · exact w_c8
  · exact w_c9
  · exact w_c10
  · exact w_c11
  · exact w_c12
  · exact w_c13
set_option maxRecDepth 65536 in
theorem w_t1 : (words1.take 24).all (fun c => isCode c || c.before args0 about1) = true := by decide +kernel
set_option maxRecDepth 65536 in
theorem w_t2 : ((words1.drop 24).take 24).all (fun c => isCode c || c.before args0 about1) = true := by decide +kernel
set_option maxRecDepth 65536 in
theorem w_t3 : (((words1.drop 24).drop 24).take 24).all (fun c => isCode c || c.before args0 about1) = true := by decide +kernel
set_option maxRecDepth 65536 in
theorem w_t4 : (((words1.drop 24).drop 24).drop 24).all (fun c => isCode c || c.before args0 about1) = true := by decide +kernel
theorem w_tables : (allAtoms (Jvm.Cond.code x code maxLocals ret :: tables_1)).before args0 about1 = true := by
  rw [allAtoms_all]
  show words1.all (fun c => c.before args0 about1) = true
  refine all_split ?_ w_codes
  rw [← List.take_append_drop 24 words1, List.all_append, w_t1, ← List.take_append_drop 24 (words1.drop 24), List.all_append, w_t2, ← List.take_append_drop 24 ((words1.drop 24).drop 24), List.all_append, w_t3, w_t4]
  rfl
set_option maxRecDepth 65536 in
theorem w_rest : rest_1_c.before args0 about1 = true := by decide +kernel
set_option maxRecDepth 65536 in
theorem w_case : (Jvm.Cond.and given_1 narrow_1).before args0 about1 = true := by decide +kernel
theorem w_applies : (headSpec (Jvm.Cond.code x code maxLocals ret :: tables_1) room_1).applies x e0.platform about1 = true :=
  (Spec.applies_iff w_frames).mpr ⟨w_running, w_runnable, w_alone, w_named, w_hears, w_ripe, w_room, w_tables⟩
theorem atStart : AtStart classFile x code maxLocals ret World_1 tables_1 room_1 Calls_1 rest_1 Pre_1 launch0 p0 e0 about1 theMethod args0 below0 :=
  ⟨lists_1, trivial, launch0.admits_env _ _ _, launch0.least_env, fairChoices_fair.cas, fairChoices_fair.clock, w_frames, w_args, w_heap, w_applies, trivial, w_rest, w_case⟩
end start1
theorem witness_1 : WitnessClaimed_1 := ⟨start1.p0, start1.e0, start1.about1, start1.theMethod, start1.args0, start1.below0, start1.atStart⟩
end Jvm.Pilot.@@N@@
