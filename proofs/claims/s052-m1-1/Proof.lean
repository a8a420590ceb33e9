import JvmDerived
import JvmDerived.Pilot.@@N@@Statement
import JvmDerived.Pilot.@@N@@Code
set_option linter.unusedVariables false
set_option linter.unusedSimpArgs false

namespace Jvm.RoadKit
open Sem ClassFile Op Lib Jvm.Stand Jvm.Free Jvm.LawKit
section New
variable {p : Program} {l : Launch} {e : Env} {R : Room} {s : State} {m : MethodId} {args : Array Value} {below : List Frame} {meth : Method} {c : Code} {T : State} {locs : List Loc} {cells slots : Nat}
theorem retI (X : Stand p l e R s m args below meth c T locs cells slots) (hx : p.tables.exec = Jvm.exec) {pc : Nat} {Ls : Array Slot} {z : Int32} {rest : List Value} (hret : meth.sig.returnType = some .int) (hd : decode c.code pc = .ok (.ireturn, 1)) {fs : List Frame}
    (hl : ∀ (f : JFrame) (acts : List Action), f.method = m → f.locked = none → f.entered = [] → (doReturn e (T.setTop f) acts (some (.int z))).1 = T.setFrames fs) : Steps p.tables e below (T.setTop (mkF m pc Ls (.int z :: rest))) (T.setFrames fs) := by
  have hm' : T.vm.method? m = some meth := X.method'
  have hn : narrow .int (.int z) = .int z := rfl
  show Steps p.tables e below (T.setTop { method := m, pc := pc, locals := Ls, stack := _ :: rest, locked := none }) _
  jvm_step X.here [X.here.top, hx, hd, hm', hret, hn]
  first | (intro acts; rw [hl _ acts rfl rfl rfl]) | rw [hl _ _ rfl rfl rfl]
  exact Steps.refl _
end New
end Jvm.RoadKit

namespace Jvm.Pilot.@@N@@
open Jvm Jvm.ClassFile Sem Op Lib Jvm.Free Jvm.Stand Jvm.LawKit Jvm.RoadKit Bundle Jvm.Pilot.@@N@@.Jvm.D

def cnt (m : Int) : Int32 := if m < 10 then 1 else if m < 100 then 2 else if m < 1000 then 3 else if m < 10000 then 4 else if m < 100000 then 5 else if m < 1000000 then 6 else if m < 10000000 then 7 else if m < 100000000 then 8 else if m < 1000000000 then 9 else if m < 10000000000 then 10 else if m < 100000000000 then 11 else if m < 1000000000000 then 12 else if m < 10000000000000 then 13 else if m < 100000000000000 then 14 else if m < 1000000000000000 then 15 else if m < 10000000000000000 then 16 else if m < 100000000000000000 then 17 else if m < 1000000000000000000 then 18 else 19
theorem cnt_1 {m : Int} (h2 : m < 10) : cnt m = 1 := by
  unfold cnt; rw [if_pos (by omega)]
theorem cnt_2 {m : Int} (h1 : 10 ≤ m) (h2 : m < 100) : cnt m = 2 := by
  unfold cnt; rw [if_neg (by omega), if_pos (by omega)]
theorem cnt_3 {m : Int} (h1 : 100 ≤ m) (h2 : m < 1000) : cnt m = 3 := by
  unfold cnt; rw [if_neg (by omega), if_neg (by omega), if_pos (by omega)]
theorem cnt_4 {m : Int} (h1 : 1000 ≤ m) (h2 : m < 10000) : cnt m = 4 := by
  unfold cnt; rw [if_neg (by omega), if_neg (by omega), if_neg (by omega), if_pos (by omega)]
theorem cnt_5 {m : Int} (h1 : 10000 ≤ m) (h2 : m < 100000) : cnt m = 5 := by
  unfold cnt; rw [if_neg (by omega), if_neg (by omega), if_neg (by omega), if_neg (by omega), if_pos (by omega)]
theorem cnt_6 {m : Int} (h1 : 100000 ≤ m) (h2 : m < 1000000) : cnt m = 6 := by
  unfold cnt; rw [if_neg (by omega), if_neg (by omega), if_neg (by omega), if_neg (by omega), if_neg (by omega), if_pos (by omega)]
theorem cnt_7 {m : Int} (h1 : 1000000 ≤ m) (h2 : m < 10000000) : cnt m = 7 := by
  unfold cnt; rw [if_neg (by omega), if_neg (by omega), if_neg (by omega), if_neg (by omega), if_neg (by omega), if_neg (by omega), if_pos (by omega)]
theorem cnt_8 {m : Int} (h1 : 10000000 ≤ m) (h2 : m < 100000000) : cnt m = 8 := by
  unfold cnt; rw [if_neg (by omega), if_neg (by omega), if_neg (by omega), if_neg (by omega), if_neg (by omega), if_neg (by omega), if_neg (by omega), if_pos (by omega)]
theorem cnt_9 {m : Int} (h1 : 100000000 ≤ m) (h2 : m < 1000000000) : cnt m = 9 := by
  unfold cnt; rw [if_neg (by omega), if_neg (by omega), if_neg (by omega), if_neg (by omega), if_neg (by omega), if_neg (by omega), if_neg (by omega), if_neg (by omega), if_pos (by omega)]
theorem cnt_10 {m : Int} (h1 : 1000000000 ≤ m) (h2 : m < 10000000000) : cnt m = 10 := by
  unfold cnt; rw [if_neg (by omega), if_neg (by omega), if_neg (by omega), if_neg (by omega), if_neg (by omega), if_neg (by omega), if_neg (by omega), if_neg (by omega), if_neg (by omega), if_pos (by omega)]
theorem cnt_11 {m : Int} (h1 : 10000000000 ≤ m) (h2 : m < 100000000000) : cnt m = 11 := by
  unfold cnt; rw [if_neg (by omega), if_neg (by omega), if_neg (by omega), if_neg (by omega), if_neg (by omega), if_neg (by omega), if_neg (by omega), if_neg (by omega), if_neg (by omega), if_neg (by omega), if_pos (by omega)]
theorem cnt_12 {m : Int} (h1 : 100000000000 ≤ m) (h2 : m < 1000000000000) : cnt m = 12 := by
  unfold cnt; rw [if_neg (by omega), if_neg (by omega), if_neg (by omega), if_neg (by omega), if_neg (by omega), if_neg (by omega), if_neg (by omega), if_neg (by omega), if_neg (by omega), if_neg (by omega), if_neg (by omega), if_pos (by omega)]
theorem cnt_13 {m : Int} (h1 : 1000000000000 ≤ m) (h2 : m < 10000000000000) : cnt m = 13 := by
  unfold cnt; rw [if_neg (by omega), if_neg (by omega), if_neg (by omega), if_neg (by omega), if_neg (by omega), if_neg (by omega), if_neg (by omega), if_neg (by omega), if_neg (by omega), if_neg (by omega), if_neg (by omega), if_neg (by omega), if_pos (by omega)]
theorem cnt_14 {m : Int} (h1 : 10000000000000 ≤ m) (h2 : m < 100000000000000) : cnt m = 14 := by
  unfold cnt; rw [if_neg (by omega), if_neg (by omega), if_neg (by omega), if_neg (by omega), if_neg (by omega), if_neg (by omega), if_neg (by omega), if_neg (by omega), if_neg (by omega), if_neg (by omega), if_neg (by omega), if_neg (by omega), if_neg (by omega), if_pos (by omega)]
theorem cnt_15 {m : Int} (h1 : 100000000000000 ≤ m) (h2 : m < 1000000000000000) : cnt m = 15 := by
  unfold cnt; rw [if_neg (by omega), if_neg (by omega), if_neg (by omega), if_neg (by omega), if_neg (by omega), if_neg (by omega), if_neg (by omega), if_neg (by omega), if_neg (by omega), if_neg (by omega), if_neg (by omega), if_neg (by omega), if_neg (by omega), if_neg (by omega), if_pos (by omega)]
theorem cnt_16 {m : Int} (h1 : 1000000000000000 ≤ m) (h2 : m < 10000000000000000) : cnt m = 16 := by
  unfold cnt; rw [if_neg (by omega), if_neg (by omega), if_neg (by omega), if_neg (by omega), if_neg (by omega), if_neg (by omega), if_neg (by omega), if_neg (by omega), if_neg (by omega), if_neg (by omega), if_neg (by omega), if_neg (by omega), if_neg (by omega), if_neg (by omega), if_neg (by omega), if_pos (by omega)]
theorem cnt_17 {m : Int} (h1 : 10000000000000000 ≤ m) (h2 : m < 100000000000000000) : cnt m = 17 := by
  unfold cnt; rw [if_neg (by omega), if_neg (by omega), if_neg (by omega), if_neg (by omega), if_neg (by omega), if_neg (by omega), if_neg (by omega), if_neg (by omega), if_neg (by omega), if_neg (by omega), if_neg (by omega), if_neg (by omega), if_neg (by omega), if_neg (by omega), if_neg (by omega), if_neg (by omega), if_pos (by omega)]
theorem cnt_18 {m : Int} (h1 : 100000000000000000 ≤ m) (h2 : m < 1000000000000000000) : cnt m = 18 := by
  unfold cnt; rw [if_neg (by omega), if_neg (by omega), if_neg (by omega), if_neg (by omega), if_neg (by omega), if_neg (by omega), if_neg (by omega), if_neg (by omega), if_neg (by omega), if_neg (by omega), if_neg (by omega), if_neg (by omega), if_neg (by omega), if_neg (by omega), if_neg (by omega), if_neg (by omega), if_neg (by omega), if_pos (by omega)]
theorem cnt_19 {m : Int} (h1 : 1000000000000000000 ≤ m) : cnt m = 19 := by
  unfold cnt; rw [if_neg (by omega), if_neg (by omega), if_neg (by omega), if_neg (by omega), if_neg (by omega), if_neg (by omega), if_neg (by omega), if_neg (by omega), if_neg (by omega), if_neg (by omega), if_neg (by omega), if_neg (by omega), if_neg (by omega), if_neg (by omega), if_neg (by omega), if_neg (by omega), if_neg (by omega), if_neg (by omega)]
theorem cnt_div {m : Int} (h : 10 ≤ m) (hm : m ≤ 9223372036854775808) : cnt m = 1 + cnt (m / 10) := by
  by_cases h2 : m < 100
  · rw [cnt_2 (by omega) h2, cnt_1 (by omega)]; rfl
  by_cases h3 : m < 1000
  · rw [cnt_3 (by omega) h3, cnt_2 (by omega) (by omega)]; rfl
  by_cases h4 : m < 10000
  · rw [cnt_4 (by omega) h4, cnt_3 (by omega) (by omega)]; rfl
  by_cases h5 : m < 100000
  · rw [cnt_5 (by omega) h5, cnt_4 (by omega) (by omega)]; rfl
  by_cases h6 : m < 1000000
  · rw [cnt_6 (by omega) h6, cnt_5 (by omega) (by omega)]; rfl
  by_cases h7 : m < 10000000
  · rw [cnt_7 (by omega) h7, cnt_6 (by omega) (by omega)]; rfl
  by_cases h8 : m < 100000000
  · rw [cnt_8 (by omega) h8, cnt_7 (by omega) (by omega)]; rfl
  by_cases h9 : m < 1000000000
  · rw [cnt_9 (by omega) h9, cnt_8 (by omega) (by omega)]; rfl
  by_cases h10 : m < 10000000000
  · rw [cnt_10 (by omega) h10, cnt_9 (by omega) (by omega)]; rfl
  by_cases h11 : m < 100000000000
  · rw [cnt_11 (by omega) h11, cnt_10 (by omega) (by omega)]; rfl
  by_cases h12 : m < 1000000000000
  · rw [cnt_12 (by omega) h12, cnt_11 (by omega) (by omega)]; rfl
  by_cases h13 : m < 10000000000000
  · rw [cnt_13 (by omega) h13, cnt_12 (by omega) (by omega)]; rfl
  by_cases h14 : m < 100000000000000
  · rw [cnt_14 (by omega) h14, cnt_13 (by omega) (by omega)]; rfl
  by_cases h15 : m < 1000000000000000
  · rw [cnt_15 (by omega) h15, cnt_14 (by omega) (by omega)]; rfl
  by_cases h16 : m < 10000000000000000
  · rw [cnt_16 (by omega) h16, cnt_15 (by omega) (by omega)]; rfl
  by_cases h17 : m < 100000000000000000
  · rw [cnt_17 (by omega) h17, cnt_16 (by omega) (by omega)]; rfl
  by_cases h18 : m < 1000000000000000000
  · rw [cnt_18 (by omega) h18, cnt_17 (by omega) (by omega)]; rfl
  rw [cnt_19 (by omega), cnt_18 (by omega) (by omega)]; rfl
def Q1 (Z : State) (r : Value) (h0 : Heap) (n0 : Nat) (v : Option Value) (h : Heap) (L : List Loc) : Prop := v = some r ∧ Fr n0 L ∧ h = h0
def ElJ (cl : Cell) (j : Int32) (a : Int64) : Prop := ¬ (j < 0 ∨ cl.slots.size ≤ j.toNatClampNeg) ∧ cl.slots[j.toNatClampNeg]? = some (.long a)
theorem own_lt {v k : Int64} {n : Int} (h : v < k) (e : k.toInt = n) : v.toInt < n := e ▸ Int64.lt_iff_toInt_lt.mp h
theorem own_ge {v k : Int64} {n : Int} (h : ¬ v < k) (e : k.toInt = n) : n ≤ v.toInt := by rw [← e]; exact Int.not_lt.mp fun q => h (Int64.lt_iff_toInt_lt.mpr q)
theorem own_ltn {v k : Int64} {n : Int} (h : k < v) (e : k.toInt = -n) : -v.toInt < n := by have := Int64.lt_iff_toInt_lt.mp h; omega
theorem own_gen {v k : Int64} {n : Int} (h : ¬ k < v) (e : k.toInt = -n) : n ≤ -v.toInt := by have := Int.not_lt.mp fun q => h (Int64.lt_iff_toInt_lt.mpr q); omega
def bef (v : Int64) : Int64 := -(v / 10)
theorem own_bef {v : Int64} (h : v < 0) : (bef v).toInt = (-v.toInt) / 10 := by
  have h0 : v.toInt < 0 := Int64.lt_iff_toInt_lt.mp h
  have h1 := (c_ldiv v 10 10 rfl (by decide)).2 h0
  have h2 := v.le_toInt
  unfold bef
  rw [Int64.toInt_neg, h1]
  exact (Int.bmod_eq_of_le (by omega) (by omega)).trans (by omega)
def cntF (v : Int64) : Int32 := if v < 0 then (if bef v = 0 then 2 else 2 + cnt (bef v).toInt) else cnt v.toInt
def expF (v : Int64) : Int32 := if v < 0 then 1 + cnt (-v.toInt) else 0 + cnt (-(-v).toInt)
theorem law_eq (v : Int64) : cntF v = expF v := by
  unfold cntF expF
  have hv := v.le_toInt
  have hv2 := v.toInt_lt
  by_cases h : v < 0
  · rw [if_pos h, if_pos h]
    have h0 : v.toInt < 0 := Int64.lt_iff_toInt_lt.mp h
    have hb := own_bef h
    by_cases hz : bef v = 0
    · rw [if_pos hz]
      rw [hz] at hb
      have hb' : (0 : Int) = (-v.toInt) / 10 := hb
      rw [cnt_1 (m := -v.toInt) (by omega)]; rfl
    · rw [if_neg hz]
      have hnz : (bef v).toInt ≠ 0 := fun q => hz (Int64.toInt_inj.mp q)
      rw [hb] at hnz ⊢
      rw [cnt_div (m := -v.toInt) (by omega) (by omega), ← Int32.add_assoc]; rfl
  · rw [if_neg h, if_neg h]
    have h0 : 0 ≤ v.toInt := Int.not_lt.mp fun q => h (Int64.lt_iff_toInt_lt.mpr q)
    have e : -(-v).toInt = v.toInt := by
      rw [Int64.toInt_neg, Int.bmod_eq_of_le (by omega) (by omega)]; omega
    rw [e, Int32.zero_add]
theorem d1_0 : decode method_4_code 0 = .ok (.lload_n 0, 1) := by decide +kernel
theorem d1_1 : decode method_4_code 1 = .ok (.ldc2_w 64, 3) := by decide +kernel
theorem d1_4 : decode method_4_code 4 = .ok (.lcmp, 1) := by decide +kernel
theorem d1_5 : decode method_4_code 5 = .ok (.ifCond .le 5, 3) := by decide +kernel
theorem d1_8 : decode method_4_code 8 = .ok (.iconst 1, 1) := by decide +kernel
theorem d1_9 : decode method_4_code 9 = .ok (.ireturn, 1) := by decide +kernel
theorem d1_10 : decode method_4_code 10 = .ok (.lload_n 0, 1) := by decide +kernel
theorem d1_11 : decode method_4_code 11 = .ok (.ldc2_w 66, 3) := by decide +kernel
theorem d1_14 : decode method_4_code 14 = .ok (.lcmp, 1) := by decide +kernel
theorem d1_15 : decode method_4_code 15 = .ok (.ifCond .le 5, 3) := by decide +kernel
theorem d1_18 : decode method_4_code 18 = .ok (.iconst 2, 1) := by decide +kernel
theorem d1_19 : decode method_4_code 19 = .ok (.ireturn, 1) := by decide +kernel
theorem d1_20 : decode method_4_code 20 = .ok (.lload_n 0, 1) := by decide +kernel
theorem d1_21 : decode method_4_code 21 = .ok (.ldc2_w 68, 3) := by decide +kernel
theorem d1_24 : decode method_4_code 24 = .ok (.lcmp, 1) := by decide +kernel
theorem d1_25 : decode method_4_code 25 = .ok (.ifCond .le 5, 3) := by decide +kernel
theorem d1_28 : decode method_4_code 28 = .ok (.iconst 3, 1) := by decide +kernel
theorem d1_29 : decode method_4_code 29 = .ok (.ireturn, 1) := by decide +kernel
theorem d1_30 : decode method_4_code 30 = .ok (.lload_n 0, 1) := by decide +kernel
theorem d1_31 : decode method_4_code 31 = .ok (.ldc2_w 70, 3) := by decide +kernel
theorem d1_34 : decode method_4_code 34 = .ok (.lcmp, 1) := by decide +kernel
theorem d1_35 : decode method_4_code 35 = .ok (.ifCond .le 5, 3) := by decide +kernel
theorem d1_38 : decode method_4_code 38 = .ok (.iconst 4, 1) := by decide +kernel
theorem d1_39 : decode method_4_code 39 = .ok (.ireturn, 1) := by decide +kernel
theorem d1_40 : decode method_4_code 40 = .ok (.lload_n 0, 1) := by decide +kernel
theorem d1_41 : decode method_4_code 41 = .ok (.ldc2_w 72, 3) := by decide +kernel
theorem d1_44 : decode method_4_code 44 = .ok (.lcmp, 1) := by decide +kernel
theorem d1_45 : decode method_4_code 45 = .ok (.ifCond .le 5, 3) := by decide +kernel
theorem d1_48 : decode method_4_code 48 = .ok (.iconst 5, 1) := by decide +kernel
theorem d1_49 : decode method_4_code 49 = .ok (.ireturn, 1) := by decide +kernel
theorem d1_50 : decode method_4_code 50 = .ok (.lload_n 0, 1) := by decide +kernel
theorem d1_51 : decode method_4_code 51 = .ok (.ldc2_w 74, 3) := by decide +kernel
theorem d1_54 : decode method_4_code 54 = .ok (.lcmp, 1) := by decide +kernel
theorem d1_55 : decode method_4_code 55 = .ok (.ifCond .le 6, 3) := by decide +kernel
theorem d1_58 : decode method_4_code 58 = .ok (.bipush 6, 2) := by decide +kernel
theorem d1_60 : decode method_4_code 60 = .ok (.ireturn, 1) := by decide +kernel
theorem d1_61 : decode method_4_code 61 = .ok (.lload_n 0, 1) := by decide +kernel
theorem d1_62 : decode method_4_code 62 = .ok (.ldc2_w 76, 3) := by decide +kernel
theorem d1_65 : decode method_4_code 65 = .ok (.lcmp, 1) := by decide +kernel
theorem d1_66 : decode method_4_code 66 = .ok (.ifCond .le 6, 3) := by decide +kernel
theorem d1_69 : decode method_4_code 69 = .ok (.bipush 7, 2) := by decide +kernel
theorem d1_71 : decode method_4_code 71 = .ok (.ireturn, 1) := by decide +kernel
theorem d1_72 : decode method_4_code 72 = .ok (.lload_n 0, 1) := by decide +kernel
theorem d1_73 : decode method_4_code 73 = .ok (.ldc2_w 78, 3) := by decide +kernel
theorem d1_76 : decode method_4_code 76 = .ok (.lcmp, 1) := by decide +kernel
theorem d1_77 : decode method_4_code 77 = .ok (.ifCond .le 6, 3) := by decide +kernel
theorem d1_80 : decode method_4_code 80 = .ok (.bipush 8, 2) := by decide +kernel
theorem d1_82 : decode method_4_code 82 = .ok (.ireturn, 1) := by decide +kernel
theorem d1_83 : decode method_4_code 83 = .ok (.lload_n 0, 1) := by decide +kernel
theorem d1_84 : decode method_4_code 84 = .ok (.ldc2_w 80, 3) := by decide +kernel
theorem d1_87 : decode method_4_code 87 = .ok (.lcmp, 1) := by decide +kernel
theorem d1_88 : decode method_4_code 88 = .ok (.ifCond .le 6, 3) := by decide +kernel
theorem d1_91 : decode method_4_code 91 = .ok (.bipush 9, 2) := by decide +kernel
theorem d1_93 : decode method_4_code 93 = .ok (.ireturn, 1) := by decide +kernel
theorem d1_94 : decode method_4_code 94 = .ok (.lload_n 0, 1) := by decide +kernel
theorem d1_95 : decode method_4_code 95 = .ok (.ldc2_w 82, 3) := by decide +kernel
theorem d1_98 : decode method_4_code 98 = .ok (.lcmp, 1) := by decide +kernel
theorem d1_99 : decode method_4_code 99 = .ok (.ifCond .le 6, 3) := by decide +kernel
theorem d1_102 : decode method_4_code 102 = .ok (.bipush 10, 2) := by decide +kernel
theorem d1_104 : decode method_4_code 104 = .ok (.ireturn, 1) := by decide +kernel
theorem d1_105 : decode method_4_code 105 = .ok (.lload_n 0, 1) := by decide +kernel
theorem d1_106 : decode method_4_code 106 = .ok (.ldc2_w 84, 3) := by decide +kernel
theorem d1_109 : decode method_4_code 109 = .ok (.lcmp, 1) := by decide +kernel
theorem d1_110 : decode method_4_code 110 = .ok (.ifCond .le 6, 3) := by decide +kernel
theorem d1_113 : decode method_4_code 113 = .ok (.bipush 11, 2) := by decide +kernel
theorem d1_115 : decode method_4_code 115 = .ok (.ireturn, 1) := by decide +kernel
theorem d1_116 : decode method_4_code 116 = .ok (.lload_n 0, 1) := by decide +kernel
theorem d1_117 : decode method_4_code 117 = .ok (.ldc2_w 86, 3) := by decide +kernel
theorem d1_120 : decode method_4_code 120 = .ok (.lcmp, 1) := by decide +kernel
theorem d1_121 : decode method_4_code 121 = .ok (.ifCond .le 6, 3) := by decide +kernel
theorem d1_124 : decode method_4_code 124 = .ok (.bipush 12, 2) := by decide +kernel
theorem d1_126 : decode method_4_code 126 = .ok (.ireturn, 1) := by decide +kernel
theorem d1_127 : decode method_4_code 127 = .ok (.lload_n 0, 1) := by decide +kernel
theorem d1_128 : decode method_4_code 128 = .ok (.ldc2_w 88, 3) := by decide +kernel
theorem d1_131 : decode method_4_code 131 = .ok (.lcmp, 1) := by decide +kernel
theorem d1_132 : decode method_4_code 132 = .ok (.ifCond .le 6, 3) := by decide +kernel
theorem d1_135 : decode method_4_code 135 = .ok (.bipush 13, 2) := by decide +kernel
theorem d1_137 : decode method_4_code 137 = .ok (.ireturn, 1) := by decide +kernel
theorem d1_138 : decode method_4_code 138 = .ok (.lload_n 0, 1) := by decide +kernel
theorem d1_139 : decode method_4_code 139 = .ok (.ldc2_w 90, 3) := by decide +kernel
theorem d1_142 : decode method_4_code 142 = .ok (.lcmp, 1) := by decide +kernel
theorem d1_143 : decode method_4_code 143 = .ok (.ifCond .le 6, 3) := by decide +kernel
theorem d1_146 : decode method_4_code 146 = .ok (.bipush 14, 2) := by decide +kernel
theorem d1_148 : decode method_4_code 148 = .ok (.ireturn, 1) := by decide +kernel
theorem d1_149 : decode method_4_code 149 = .ok (.lload_n 0, 1) := by decide +kernel
theorem d1_150 : decode method_4_code 150 = .ok (.ldc2_w 92, 3) := by decide +kernel
theorem d1_153 : decode method_4_code 153 = .ok (.lcmp, 1) := by decide +kernel
theorem d1_154 : decode method_4_code 154 = .ok (.ifCond .le 6, 3) := by decide +kernel
theorem d1_157 : decode method_4_code 157 = .ok (.bipush 15, 2) := by decide +kernel
theorem d1_159 : decode method_4_code 159 = .ok (.ireturn, 1) := by decide +kernel
theorem d1_160 : decode method_4_code 160 = .ok (.lload_n 0, 1) := by decide +kernel
theorem d1_161 : decode method_4_code 161 = .ok (.ldc2_w 94, 3) := by decide +kernel
theorem d1_164 : decode method_4_code 164 = .ok (.lcmp, 1) := by decide +kernel
theorem d1_165 : decode method_4_code 165 = .ok (.ifCond .le 6, 3) := by decide +kernel
theorem d1_168 : decode method_4_code 168 = .ok (.bipush 16, 2) := by decide +kernel
theorem d1_170 : decode method_4_code 170 = .ok (.ireturn, 1) := by decide +kernel
theorem d1_171 : decode method_4_code 171 = .ok (.lload_n 0, 1) := by decide +kernel
theorem d1_172 : decode method_4_code 172 = .ok (.ldc2_w 96, 3) := by decide +kernel
theorem d1_175 : decode method_4_code 175 = .ok (.lcmp, 1) := by decide +kernel
theorem d1_176 : decode method_4_code 176 = .ok (.ifCond .le 6, 3) := by decide +kernel
theorem d1_179 : decode method_4_code 179 = .ok (.bipush 17, 2) := by decide +kernel
theorem d1_181 : decode method_4_code 181 = .ok (.ireturn, 1) := by decide +kernel
theorem d1_182 : decode method_4_code 182 = .ok (.lload_n 0, 1) := by decide +kernel
theorem d1_183 : decode method_4_code 183 = .ok (.ldc2_w 98, 3) := by decide +kernel
theorem d1_186 : decode method_4_code 186 = .ok (.lcmp, 1) := by decide +kernel
theorem d1_187 : decode method_4_code 187 = .ok (.ifCond .le 6, 3) := by decide +kernel
theorem d1_190 : decode method_4_code 190 = .ok (.bipush 18, 2) := by decide +kernel
theorem d1_192 : decode method_4_code 192 = .ok (.ireturn, 1) := by decide +kernel
theorem d1_193 : decode method_4_code 193 = .ok (.bipush 19, 2) := by decide +kernel
theorem d1_195 : decode method_4_code 195 = .ok (.ireturn, 1) := by decide +kernel
theorem pn1 : plainName "crestline/WholeDigitsCountPinLaw" = true := by first | (simp [plainName, overriddenIn]; done) | decide +kernel
theorem ef1 (m : MethodId) (x0 : Int64) : entryFrame m #[(.long x0)] 2 = mkF m 0 #[.val (.long x0), .second] [] := by first | (simp [entryFrame, mkF, argsToLocals, Value.category]; done) | rfl
set_option maxRecDepth 65536 in
set_option maxHeartbeats 40000000 in
theorem rm1 (l : Launch) (Z : State) (a0 : Array Value) (hw : ∀ d ∈ tables_1, d.before a0 Z = true) (ws : List Jvm.Cond) (n : Int64) (h0 : Heap) (n0 : Nat) (Z0 : n0 ≤ h0.size) :
    MetFree l (⟨"crestline/WholeDigitsCountPinLaw", "digits", "(J)I"⟩ : MethodName) (head1 (Jvm.Cond.code (⟨"crestline/WholeDigitsCountPinLaw", "digits", "(J)I"⟩ : MethodName) method_4_code 2 (some .int) :: ws) ({ frames := 0, cells := 0, slots := 0, locals := 0 } : Room)) (fun aa_ U => aa_ = #[(.long n)] ∧ Z.Warmed39 U.vm ∧ U.heap = h0) (fun _ _ _ _ _ => True) (fun _ U o U' => ∃ vv_ LL_, o = .returned vv_ ∧ Q1 Z (.int (cnt (-n.toInt))) h0 n0 vv_ U'.heap LL_ ∧ FrameEnd U o U' LL_ ({ frames := 0, cells := 0, slots := 0, locals := 0 } : Room).cells ({ frames := 0, cells := 0, slots := 0, locals := 0 } : Room).slots) := by
  refine MetFree.of_bodySF (plainFor_of_name pn1) hisR ?_
  intro p e s m args below meth c s₁ Bd hml0 hP hK
  obtain ⟨rfl, hZ, hh⟩ := hP
  have hx := Bd.exec
  have hby := Bd.bytes
  have hml : c.maxLocals = 2 := hml0
  have hown : s.vm.findClass "crestline/WholeDigitsCountPinLaw" = some m.cls := findClass_of_methodNamed Bd.named
  have hnm := (name_of_methodNamed Bd.named Bd.method).1
  have X0 : Stand p l e ({ frames := 0, cells := 0, slots := 0, locals := 0 } : Room) s m #[(.long n)] below meth c s₁ [] 0 0 := Stand.of_body Bd
  have e0 : s₁.heap = h0 := by rw [← hh, Bd.state]; rfl
  have N0 := Fr.nil n0
  have pre0 : ∀ t, Steps p.tables e below (s₁.setTop (mkF m 0 #[.val (.long n), .second] [])) t → Steps p.tables e below (s₁.setTop (entryFrame m #[(.long n)] 2)) t := fun t kt => castTop (ef1 m n) kt
  have pre1 : ∀ t, Steps p.tables e below (s₁.setTop (mkF m 5 #[.val (.long n), .second] [(.int (XT.cmpL n (-10 : Int64)))])) t → Steps p.tables e below (s₁.setTop (entryFrame m #[(.long n)] 2)) t := by
    intro t kt
    refine pre0 _ ?_
    show Steps p.tables e below (s₁.setTop (mkF m 0 #[.val (.long n), .second] [])) _
    refine XS.lloadN X0.here hx rfl (hb hby d1_0) rfl ?_
    show Steps p.tables e below (s₁.setTop (mkF m 1 #[.val (.long n), .second] [(.long n)])) _
    refine X0.ldc2J hx hown (mvT hZ (hw _ (List.mem_of_getElem? (i := 13) rfl))) (g := (mkF m 1 #[.val (.long n), .second] [(.long n)])) rfl (hb hby d1_1) ?_
    show Steps p.tables e below (s₁.setTop (mkF m 4 #[.val (.long n), .second] [(.long (-10 : Int64)), (.long n)])) _
    refine XT.lcmp X0.here hx rfl (hb hby d1_4) rfl ?_
    exact kt
  by_cases hc5_2 : (-10 : Int64) < n
  · have pre3 : ∀ t, Steps p.tables e below (s₁.setTop (mkF m 9 #[.val (.long n), .second] [(.int (1 : Int32))])) t → Steps p.tables e below (s₁.setTop (entryFrame m #[(.long n)] 2)) t := by
      intro t kt
      refine pre1 _ ?_
      show Steps p.tables e below (s₁.setTop (mkF m 5 #[.val (.long n), .second] [(.int (XT.cmpL n (-10 : Int64)))])) _
      refine XS.ifNo X0.here hx rfl (hb hby d1_5) rfl (XT.ll_le_f hc5_2) ?_
      show Steps p.tables e below (s₁.setTop (mkF m 8 #[.val (.long n), .second] [])) _
      refine XS.iconst X0.here hx rfl (hb hby d1_8) ?_
      exact kt
    obtain ⟨fs, hr, hrun, hended, hW, hsame⟩ := X0.leave (v := some (.int (1 : Int32))) (fun h => by rw [Bd.returns] at h; cases h)
    refine ⟨_, _, pre3 _ ?_, hrun, hended, _, _, rfl, ?_, ⟨_, rfl⟩, hW, hsame.mono (by decide) (by decide)⟩
    · show Steps p.tables e below (s₁.setTop (mkF m 9 #[.val (.long n), .second] [(.int (1 : Int32))])) _
      exact retI X0 hx Bd.returns (hb hby d1_9) hr
    · show Q1 Z (.int (cnt (-n.toInt))) h0 n0 _ s₁.heap _
      rw [e0]
      exact ⟨by rw [cnt_1 (own_ltn hc5_2 rfl)], N0, rfl⟩
  · have pre4 : ∀ t, Steps p.tables e below (s₁.setTop (mkF m 15 #[.val (.long n), .second] [(.int (XT.cmpL n (-100 : Int64)))])) t → Steps p.tables e below (s₁.setTop (entryFrame m #[(.long n)] 2)) t := by
      intro t kt
      refine pre1 _ ?_
      show Steps p.tables e below (s₁.setTop (mkF m 5 #[.val (.long n), .second] [(.int (XT.cmpL n (-10 : Int64)))])) _
      refine XS.ifYes X0.here hx rfl (pc0 := 5) (pc' := 10) rfl (hb hby d1_5) rfl (XT.ll_le_t hc5_2) (by decide) (by decide) ?_
      show Steps p.tables e below (s₁.setTop (mkF m 10 #[.val (.long n), .second] [])) _
      refine XS.lloadN X0.here hx rfl (hb hby d1_10) rfl ?_
      show Steps p.tables e below (s₁.setTop (mkF m 11 #[.val (.long n), .second] [(.long n)])) _
      refine X0.ldc2J hx hown (mvT hZ (hw _ (List.mem_of_getElem? (i := 16) rfl))) (g := (mkF m 11 #[.val (.long n), .second] [(.long n)])) rfl (hb hby d1_11) ?_
      show Steps p.tables e below (s₁.setTop (mkF m 14 #[.val (.long n), .second] [(.long (-100 : Int64)), (.long n)])) _
      refine XT.lcmp X0.here hx rfl (hb hby d1_14) rfl ?_
      exact kt
    by_cases hc15_5 : (-100 : Int64) < n
    · have pre6 : ∀ t, Steps p.tables e below (s₁.setTop (mkF m 19 #[.val (.long n), .second] [(.int (2 : Int32))])) t → Steps p.tables e below (s₁.setTop (entryFrame m #[(.long n)] 2)) t := by
        intro t kt
        refine pre4 _ ?_
        show Steps p.tables e below (s₁.setTop (mkF m 15 #[.val (.long n), .second] [(.int (XT.cmpL n (-100 : Int64)))])) _
        refine XS.ifNo X0.here hx rfl (hb hby d1_15) rfl (XT.ll_le_f hc15_5) ?_
        show Steps p.tables e below (s₁.setTop (mkF m 18 #[.val (.long n), .second] [])) _
        refine XS.iconst X0.here hx rfl (hb hby d1_18) ?_
        exact kt
      obtain ⟨fs, hr, hrun, hended, hW, hsame⟩ := X0.leave (v := some (.int (2 : Int32))) (fun h => by rw [Bd.returns] at h; cases h)
      refine ⟨_, _, pre6 _ ?_, hrun, hended, _, _, rfl, ?_, ⟨_, rfl⟩, hW, hsame.mono (by decide) (by decide)⟩
      · show Steps p.tables e below (s₁.setTop (mkF m 19 #[.val (.long n), .second] [(.int (2 : Int32))])) _
        exact retI X0 hx Bd.returns (hb hby d1_19) hr
      · show Q1 Z (.int (cnt (-n.toInt))) h0 n0 _ s₁.heap _
        rw [e0]
        exact ⟨by rw [cnt_2 (own_gen hc5_2 rfl) (own_ltn hc15_5 rfl)], N0, rfl⟩
    · have pre7 : ∀ t, Steps p.tables e below (s₁.setTop (mkF m 25 #[.val (.long n), .second] [(.int (XT.cmpL n (-1000 : Int64)))])) t → Steps p.tables e below (s₁.setTop (entryFrame m #[(.long n)] 2)) t := by
        intro t kt
        refine pre4 _ ?_
        show Steps p.tables e below (s₁.setTop (mkF m 15 #[.val (.long n), .second] [(.int (XT.cmpL n (-100 : Int64)))])) _
        refine XS.ifYes X0.here hx rfl (pc0 := 15) (pc' := 20) rfl (hb hby d1_15) rfl (XT.ll_le_t hc15_5) (by decide) (by decide) ?_
        show Steps p.tables e below (s₁.setTop (mkF m 20 #[.val (.long n), .second] [])) _
        refine XS.lloadN X0.here hx rfl (hb hby d1_20) rfl ?_
        show Steps p.tables e below (s₁.setTop (mkF m 21 #[.val (.long n), .second] [(.long n)])) _
        refine X0.ldc2J hx hown (mvT hZ (hw _ (List.mem_of_getElem? (i := 17) rfl))) (g := (mkF m 21 #[.val (.long n), .second] [(.long n)])) rfl (hb hby d1_21) ?_
        show Steps p.tables e below (s₁.setTop (mkF m 24 #[.val (.long n), .second] [(.long (-1000 : Int64)), (.long n)])) _
        refine XT.lcmp X0.here hx rfl (hb hby d1_24) rfl ?_
        exact kt
      by_cases hc25_8 : (-1000 : Int64) < n
      · have pre9 : ∀ t, Steps p.tables e below (s₁.setTop (mkF m 29 #[.val (.long n), .second] [(.int (3 : Int32))])) t → Steps p.tables e below (s₁.setTop (entryFrame m #[(.long n)] 2)) t := by
          intro t kt
          refine pre7 _ ?_
          show Steps p.tables e below (s₁.setTop (mkF m 25 #[.val (.long n), .second] [(.int (XT.cmpL n (-1000 : Int64)))])) _
          refine XS.ifNo X0.here hx rfl (hb hby d1_25) rfl (XT.ll_le_f hc25_8) ?_
          show Steps p.tables e below (s₁.setTop (mkF m 28 #[.val (.long n), .second] [])) _
          refine XS.iconst X0.here hx rfl (hb hby d1_28) ?_
          exact kt
        obtain ⟨fs, hr, hrun, hended, hW, hsame⟩ := X0.leave (v := some (.int (3 : Int32))) (fun h => by rw [Bd.returns] at h; cases h)
        refine ⟨_, _, pre9 _ ?_, hrun, hended, _, _, rfl, ?_, ⟨_, rfl⟩, hW, hsame.mono (by decide) (by decide)⟩
        · show Steps p.tables e below (s₁.setTop (mkF m 29 #[.val (.long n), .second] [(.int (3 : Int32))])) _
          exact retI X0 hx Bd.returns (hb hby d1_29) hr
        · show Q1 Z (.int (cnt (-n.toInt))) h0 n0 _ s₁.heap _
          rw [e0]
          exact ⟨by rw [cnt_3 (own_gen hc15_5 rfl) (own_ltn hc25_8 rfl)], N0, rfl⟩
      · have pre10 : ∀ t, Steps p.tables e below (s₁.setTop (mkF m 35 #[.val (.long n), .second] [(.int (XT.cmpL n (-10000 : Int64)))])) t → Steps p.tables e below (s₁.setTop (entryFrame m #[(.long n)] 2)) t := by
          intro t kt
          refine pre7 _ ?_
          show Steps p.tables e below (s₁.setTop (mkF m 25 #[.val (.long n), .second] [(.int (XT.cmpL n (-1000 : Int64)))])) _
          refine XS.ifYes X0.here hx rfl (pc0 := 25) (pc' := 30) rfl (hb hby d1_25) rfl (XT.ll_le_t hc25_8) (by decide) (by decide) ?_
          show Steps p.tables e below (s₁.setTop (mkF m 30 #[.val (.long n), .second] [])) _
          refine XS.lloadN X0.here hx rfl (hb hby d1_30) rfl ?_
          show Steps p.tables e below (s₁.setTop (mkF m 31 #[.val (.long n), .second] [(.long n)])) _
          refine X0.ldc2J hx hown (mvT hZ (hw _ (List.mem_of_getElem? (i := 18) rfl))) (g := (mkF m 31 #[.val (.long n), .second] [(.long n)])) rfl (hb hby d1_31) ?_
          show Steps p.tables e below (s₁.setTop (mkF m 34 #[.val (.long n), .second] [(.long (-10000 : Int64)), (.long n)])) _
          refine XT.lcmp X0.here hx rfl (hb hby d1_34) rfl ?_
          exact kt
        by_cases hc35_11 : (-10000 : Int64) < n
        · have pre12 : ∀ t, Steps p.tables e below (s₁.setTop (mkF m 39 #[.val (.long n), .second] [(.int (4 : Int32))])) t → Steps p.tables e below (s₁.setTop (entryFrame m #[(.long n)] 2)) t := by
            intro t kt
            refine pre10 _ ?_
            show Steps p.tables e below (s₁.setTop (mkF m 35 #[.val (.long n), .second] [(.int (XT.cmpL n (-10000 : Int64)))])) _
            refine XS.ifNo X0.here hx rfl (hb hby d1_35) rfl (XT.ll_le_f hc35_11) ?_
            show Steps p.tables e below (s₁.setTop (mkF m 38 #[.val (.long n), .second] [])) _
            refine XS.iconst X0.here hx rfl (hb hby d1_38) ?_
            exact kt
          obtain ⟨fs, hr, hrun, hended, hW, hsame⟩ := X0.leave (v := some (.int (4 : Int32))) (fun h => by rw [Bd.returns] at h; cases h)
          refine ⟨_, _, pre12 _ ?_, hrun, hended, _, _, rfl, ?_, ⟨_, rfl⟩, hW, hsame.mono (by decide) (by decide)⟩
          · show Steps p.tables e below (s₁.setTop (mkF m 39 #[.val (.long n), .second] [(.int (4 : Int32))])) _
            exact retI X0 hx Bd.returns (hb hby d1_39) hr
          · show Q1 Z (.int (cnt (-n.toInt))) h0 n0 _ s₁.heap _
            rw [e0]
            exact ⟨by rw [cnt_4 (own_gen hc25_8 rfl) (own_ltn hc35_11 rfl)], N0, rfl⟩
        · have pre13 : ∀ t, Steps p.tables e below (s₁.setTop (mkF m 45 #[.val (.long n), .second] [(.int (XT.cmpL n (-100000 : Int64)))])) t → Steps p.tables e below (s₁.setTop (entryFrame m #[(.long n)] 2)) t := by
            intro t kt
            refine pre10 _ ?_
            show Steps p.tables e below (s₁.setTop (mkF m 35 #[.val (.long n), .second] [(.int (XT.cmpL n (-10000 : Int64)))])) _
            refine XS.ifYes X0.here hx rfl (pc0 := 35) (pc' := 40) rfl (hb hby d1_35) rfl (XT.ll_le_t hc35_11) (by decide) (by decide) ?_
            show Steps p.tables e below (s₁.setTop (mkF m 40 #[.val (.long n), .second] [])) _
            refine XS.lloadN X0.here hx rfl (hb hby d1_40) rfl ?_
            show Steps p.tables e below (s₁.setTop (mkF m 41 #[.val (.long n), .second] [(.long n)])) _
            refine X0.ldc2J hx hown (mvT hZ (hw _ (List.mem_of_getElem? (i := 19) rfl))) (g := (mkF m 41 #[.val (.long n), .second] [(.long n)])) rfl (hb hby d1_41) ?_
            show Steps p.tables e below (s₁.setTop (mkF m 44 #[.val (.long n), .second] [(.long (-100000 : Int64)), (.long n)])) _
            refine XT.lcmp X0.here hx rfl (hb hby d1_44) rfl ?_
            exact kt
          by_cases hc45_14 : (-100000 : Int64) < n
          · have pre15 : ∀ t, Steps p.tables e below (s₁.setTop (mkF m 49 #[.val (.long n), .second] [(.int (5 : Int32))])) t → Steps p.tables e below (s₁.setTop (entryFrame m #[(.long n)] 2)) t := by
              intro t kt
              refine pre13 _ ?_
              show Steps p.tables e below (s₁.setTop (mkF m 45 #[.val (.long n), .second] [(.int (XT.cmpL n (-100000 : Int64)))])) _
              refine XS.ifNo X0.here hx rfl (hb hby d1_45) rfl (XT.ll_le_f hc45_14) ?_
              show Steps p.tables e below (s₁.setTop (mkF m 48 #[.val (.long n), .second] [])) _
              refine XS.iconst X0.here hx rfl (hb hby d1_48) ?_
              exact kt
            obtain ⟨fs, hr, hrun, hended, hW, hsame⟩ := X0.leave (v := some (.int (5 : Int32))) (fun h => by rw [Bd.returns] at h; cases h)
            refine ⟨_, _, pre15 _ ?_, hrun, hended, _, _, rfl, ?_, ⟨_, rfl⟩, hW, hsame.mono (by decide) (by decide)⟩
            · show Steps p.tables e below (s₁.setTop (mkF m 49 #[.val (.long n), .second] [(.int (5 : Int32))])) _
              exact retI X0 hx Bd.returns (hb hby d1_49) hr
            · show Q1 Z (.int (cnt (-n.toInt))) h0 n0 _ s₁.heap _
              rw [e0]
              exact ⟨by rw [cnt_5 (own_gen hc35_11 rfl) (own_ltn hc45_14 rfl)], N0, rfl⟩
          · have pre16 : ∀ t, Steps p.tables e below (s₁.setTop (mkF m 55 #[.val (.long n), .second] [(.int (XT.cmpL n (-1000000 : Int64)))])) t → Steps p.tables e below (s₁.setTop (entryFrame m #[(.long n)] 2)) t := by
              intro t kt
              refine pre13 _ ?_
              show Steps p.tables e below (s₁.setTop (mkF m 45 #[.val (.long n), .second] [(.int (XT.cmpL n (-100000 : Int64)))])) _
              refine XS.ifYes X0.here hx rfl (pc0 := 45) (pc' := 50) rfl (hb hby d1_45) rfl (XT.ll_le_t hc45_14) (by decide) (by decide) ?_
              show Steps p.tables e below (s₁.setTop (mkF m 50 #[.val (.long n), .second] [])) _
              refine XS.lloadN X0.here hx rfl (hb hby d1_50) rfl ?_
              show Steps p.tables e below (s₁.setTop (mkF m 51 #[.val (.long n), .second] [(.long n)])) _
              refine X0.ldc2J hx hown (mvT hZ (hw _ (List.mem_of_getElem? (i := 20) rfl))) (g := (mkF m 51 #[.val (.long n), .second] [(.long n)])) rfl (hb hby d1_51) ?_
              show Steps p.tables e below (s₁.setTop (mkF m 54 #[.val (.long n), .second] [(.long (-1000000 : Int64)), (.long n)])) _
              refine XT.lcmp X0.here hx rfl (hb hby d1_54) rfl ?_
              exact kt
            by_cases hc55_17 : (-1000000 : Int64) < n
            · have pre18 : ∀ t, Steps p.tables e below (s₁.setTop (mkF m 60 #[.val (.long n), .second] [(.int (6 : Int32))])) t → Steps p.tables e below (s₁.setTop (entryFrame m #[(.long n)] 2)) t := by
                intro t kt
                refine pre16 _ ?_
                show Steps p.tables e below (s₁.setTop (mkF m 55 #[.val (.long n), .second] [(.int (XT.cmpL n (-1000000 : Int64)))])) _
                refine XS.ifNo X0.here hx rfl (hb hby d1_55) rfl (XT.ll_le_f hc55_17) ?_
                show Steps p.tables e below (s₁.setTop (mkF m 58 #[.val (.long n), .second] [])) _
                refine XS.bipush X0.here hx rfl (hb hby d1_58) ?_
                exact kt
              obtain ⟨fs, hr, hrun, hended, hW, hsame⟩ := X0.leave (v := some (.int (6 : Int32))) (fun h => by rw [Bd.returns] at h; cases h)
              refine ⟨_, _, pre18 _ ?_, hrun, hended, _, _, rfl, ?_, ⟨_, rfl⟩, hW, hsame.mono (by decide) (by decide)⟩
              · show Steps p.tables e below (s₁.setTop (mkF m 60 #[.val (.long n), .second] [(.int (6 : Int32))])) _
                exact retI X0 hx Bd.returns (hb hby d1_60) hr
              · show Q1 Z (.int (cnt (-n.toInt))) h0 n0 _ s₁.heap _
                rw [e0]
                exact ⟨by rw [cnt_6 (own_gen hc45_14 rfl) (own_ltn hc55_17 rfl)], N0, rfl⟩
            · have pre19 : ∀ t, Steps p.tables e below (s₁.setTop (mkF m 66 #[.val (.long n), .second] [(.int (XT.cmpL n (-10000000 : Int64)))])) t → Steps p.tables e below (s₁.setTop (entryFrame m #[(.long n)] 2)) t := by
                intro t kt
                refine pre16 _ ?_
                show Steps p.tables e below (s₁.setTop (mkF m 55 #[.val (.long n), .second] [(.int (XT.cmpL n (-1000000 : Int64)))])) _
                refine XS.ifYes X0.here hx rfl (pc0 := 55) (pc' := 61) rfl (hb hby d1_55) rfl (XT.ll_le_t hc55_17) (by decide) (by decide) ?_
                show Steps p.tables e below (s₁.setTop (mkF m 61 #[.val (.long n), .second] [])) _
                refine XS.lloadN X0.here hx rfl (hb hby d1_61) rfl ?_
                show Steps p.tables e below (s₁.setTop (mkF m 62 #[.val (.long n), .second] [(.long n)])) _
                refine X0.ldc2J hx hown (mvT hZ (hw _ (List.mem_of_getElem? (i := 21) rfl))) (g := (mkF m 62 #[.val (.long n), .second] [(.long n)])) rfl (hb hby d1_62) ?_
                show Steps p.tables e below (s₁.setTop (mkF m 65 #[.val (.long n), .second] [(.long (-10000000 : Int64)), (.long n)])) _
                refine XT.lcmp X0.here hx rfl (hb hby d1_65) rfl ?_
                exact kt
              by_cases hc66_20 : (-10000000 : Int64) < n
              · have pre21 : ∀ t, Steps p.tables e below (s₁.setTop (mkF m 71 #[.val (.long n), .second] [(.int (7 : Int32))])) t → Steps p.tables e below (s₁.setTop (entryFrame m #[(.long n)] 2)) t := by
                  intro t kt
                  refine pre19 _ ?_
                  show Steps p.tables e below (s₁.setTop (mkF m 66 #[.val (.long n), .second] [(.int (XT.cmpL n (-10000000 : Int64)))])) _
                  refine XS.ifNo X0.here hx rfl (hb hby d1_66) rfl (XT.ll_le_f hc66_20) ?_
                  show Steps p.tables e below (s₁.setTop (mkF m 69 #[.val (.long n), .second] [])) _
                  refine XS.bipush X0.here hx rfl (hb hby d1_69) ?_
                  exact kt
                obtain ⟨fs, hr, hrun, hended, hW, hsame⟩ := X0.leave (v := some (.int (7 : Int32))) (fun h => by rw [Bd.returns] at h; cases h)
                refine ⟨_, _, pre21 _ ?_, hrun, hended, _, _, rfl, ?_, ⟨_, rfl⟩, hW, hsame.mono (by decide) (by decide)⟩
                · show Steps p.tables e below (s₁.setTop (mkF m 71 #[.val (.long n), .second] [(.int (7 : Int32))])) _
                  exact retI X0 hx Bd.returns (hb hby d1_71) hr
                · show Q1 Z (.int (cnt (-n.toInt))) h0 n0 _ s₁.heap _
                  rw [e0]
                  exact ⟨by rw [cnt_7 (own_gen hc55_17 rfl) (own_ltn hc66_20 rfl)], N0, rfl⟩
              · have pre22 : ∀ t, Steps p.tables e below (s₁.setTop (mkF m 77 #[.val (.long n), .second] [(.int (XT.cmpL n (-100000000 : Int64)))])) t → Steps p.tables e below (s₁.setTop (entryFrame m #[(.long n)] 2)) t := by
                  intro t kt
                  refine pre19 _ ?_
                  show Steps p.tables e below (s₁.setTop (mkF m 66 #[.val (.long n), .second] [(.int (XT.cmpL n (-10000000 : Int64)))])) _
                  refine XS.ifYes X0.here hx rfl (pc0 := 66) (pc' := 72) rfl (hb hby d1_66) rfl (XT.ll_le_t hc66_20) (by decide) (by decide) ?_
                  show Steps p.tables e below (s₁.setTop (mkF m 72 #[.val (.long n), .second] [])) _
                  refine XS.lloadN X0.here hx rfl (hb hby d1_72) rfl ?_
                  show Steps p.tables e below (s₁.setTop (mkF m 73 #[.val (.long n), .second] [(.long n)])) _
                  refine X0.ldc2J hx hown (mvT hZ (hw _ (List.mem_of_getElem? (i := 22) rfl))) (g := (mkF m 73 #[.val (.long n), .second] [(.long n)])) rfl (hb hby d1_73) ?_
                  show Steps p.tables e below (s₁.setTop (mkF m 76 #[.val (.long n), .second] [(.long (-100000000 : Int64)), (.long n)])) _
                  refine XT.lcmp X0.here hx rfl (hb hby d1_76) rfl ?_
                  exact kt
                by_cases hc77_23 : (-100000000 : Int64) < n
                · have pre24 : ∀ t, Steps p.tables e below (s₁.setTop (mkF m 82 #[.val (.long n), .second] [(.int (8 : Int32))])) t → Steps p.tables e below (s₁.setTop (entryFrame m #[(.long n)] 2)) t := by
                    intro t kt
                    refine pre22 _ ?_
                    show Steps p.tables e below (s₁.setTop (mkF m 77 #[.val (.long n), .second] [(.int (XT.cmpL n (-100000000 : Int64)))])) _
                    refine XS.ifNo X0.here hx rfl (hb hby d1_77) rfl (XT.ll_le_f hc77_23) ?_
                    show Steps p.tables e below (s₁.setTop (mkF m 80 #[.val (.long n), .second] [])) _
                    refine XS.bipush X0.here hx rfl (hb hby d1_80) ?_
                    exact kt
                  obtain ⟨fs, hr, hrun, hended, hW, hsame⟩ := X0.leave (v := some (.int (8 : Int32))) (fun h => by rw [Bd.returns] at h; cases h)
                  refine ⟨_, _, pre24 _ ?_, hrun, hended, _, _, rfl, ?_, ⟨_, rfl⟩, hW, hsame.mono (by decide) (by decide)⟩
                  · show Steps p.tables e below (s₁.setTop (mkF m 82 #[.val (.long n), .second] [(.int (8 : Int32))])) _
                    exact retI X0 hx Bd.returns (hb hby d1_82) hr
                  · show Q1 Z (.int (cnt (-n.toInt))) h0 n0 _ s₁.heap _
                    rw [e0]
                    exact ⟨by rw [cnt_8 (own_gen hc66_20 rfl) (own_ltn hc77_23 rfl)], N0, rfl⟩
                · have pre25 : ∀ t, Steps p.tables e below (s₁.setTop (mkF m 88 #[.val (.long n), .second] [(.int (XT.cmpL n (-1000000000 : Int64)))])) t → Steps p.tables e below (s₁.setTop (entryFrame m #[(.long n)] 2)) t := by
                    intro t kt
                    refine pre22 _ ?_
                    show Steps p.tables e below (s₁.setTop (mkF m 77 #[.val (.long n), .second] [(.int (XT.cmpL n (-100000000 : Int64)))])) _
                    refine XS.ifYes X0.here hx rfl (pc0 := 77) (pc' := 83) rfl (hb hby d1_77) rfl (XT.ll_le_t hc77_23) (by decide) (by decide) ?_
                    show Steps p.tables e below (s₁.setTop (mkF m 83 #[.val (.long n), .second] [])) _
                    refine XS.lloadN X0.here hx rfl (hb hby d1_83) rfl ?_
                    show Steps p.tables e below (s₁.setTop (mkF m 84 #[.val (.long n), .second] [(.long n)])) _
                    refine X0.ldc2J hx hown (mvT hZ (hw _ (List.mem_of_getElem? (i := 23) rfl))) (g := (mkF m 84 #[.val (.long n), .second] [(.long n)])) rfl (hb hby d1_84) ?_
                    show Steps p.tables e below (s₁.setTop (mkF m 87 #[.val (.long n), .second] [(.long (-1000000000 : Int64)), (.long n)])) _
                    refine XT.lcmp X0.here hx rfl (hb hby d1_87) rfl ?_
                    exact kt
                  by_cases hc88_26 : (-1000000000 : Int64) < n
                  · have pre27 : ∀ t, Steps p.tables e below (s₁.setTop (mkF m 93 #[.val (.long n), .second] [(.int (9 : Int32))])) t → Steps p.tables e below (s₁.setTop (entryFrame m #[(.long n)] 2)) t := by
                      intro t kt
                      refine pre25 _ ?_
                      show Steps p.tables e below (s₁.setTop (mkF m 88 #[.val (.long n), .second] [(.int (XT.cmpL n (-1000000000 : Int64)))])) _
                      refine XS.ifNo X0.here hx rfl (hb hby d1_88) rfl (XT.ll_le_f hc88_26) ?_
                      show Steps p.tables e below (s₁.setTop (mkF m 91 #[.val (.long n), .second] [])) _
                      refine XS.bipush X0.here hx rfl (hb hby d1_91) ?_
                      exact kt
                    obtain ⟨fs, hr, hrun, hended, hW, hsame⟩ := X0.leave (v := some (.int (9 : Int32))) (fun h => by rw [Bd.returns] at h; cases h)
                    refine ⟨_, _, pre27 _ ?_, hrun, hended, _, _, rfl, ?_, ⟨_, rfl⟩, hW, hsame.mono (by decide) (by decide)⟩
                    · show Steps p.tables e below (s₁.setTop (mkF m 93 #[.val (.long n), .second] [(.int (9 : Int32))])) _
                      exact retI X0 hx Bd.returns (hb hby d1_93) hr
                    · show Q1 Z (.int (cnt (-n.toInt))) h0 n0 _ s₁.heap _
                      rw [e0]
                      exact ⟨by rw [cnt_9 (own_gen hc77_23 rfl) (own_ltn hc88_26 rfl)], N0, rfl⟩
                  · have pre28 : ∀ t, Steps p.tables e below (s₁.setTop (mkF m 99 #[.val (.long n), .second] [(.int (XT.cmpL n (-10000000000 : Int64)))])) t → Steps p.tables e below (s₁.setTop (entryFrame m #[(.long n)] 2)) t := by
                      intro t kt
                      refine pre25 _ ?_
                      show Steps p.tables e below (s₁.setTop (mkF m 88 #[.val (.long n), .second] [(.int (XT.cmpL n (-1000000000 : Int64)))])) _
                      refine XS.ifYes X0.here hx rfl (pc0 := 88) (pc' := 94) rfl (hb hby d1_88) rfl (XT.ll_le_t hc88_26) (by decide) (by decide) ?_
                      show Steps p.tables e below (s₁.setTop (mkF m 94 #[.val (.long n), .second] [])) _
                      refine XS.lloadN X0.here hx rfl (hb hby d1_94) rfl ?_
                      show Steps p.tables e below (s₁.setTop (mkF m 95 #[.val (.long n), .second] [(.long n)])) _
                      refine X0.ldc2J hx hown (mvT hZ (hw _ (List.mem_of_getElem? (i := 24) rfl))) (g := (mkF m 95 #[.val (.long n), .second] [(.long n)])) rfl (hb hby d1_95) ?_
                      show Steps p.tables e below (s₁.setTop (mkF m 98 #[.val (.long n), .second] [(.long (-10000000000 : Int64)), (.long n)])) _
                      refine XT.lcmp X0.here hx rfl (hb hby d1_98) rfl ?_
                      exact kt
                    by_cases hc99_29 : (-10000000000 : Int64) < n
                    · have pre30 : ∀ t, Steps p.tables e below (s₁.setTop (mkF m 104 #[.val (.long n), .second] [(.int (10 : Int32))])) t → Steps p.tables e below (s₁.setTop (entryFrame m #[(.long n)] 2)) t := by
                        intro t kt
                        refine pre28 _ ?_
                        show Steps p.tables e below (s₁.setTop (mkF m 99 #[.val (.long n), .second] [(.int (XT.cmpL n (-10000000000 : Int64)))])) _
                        refine XS.ifNo X0.here hx rfl (hb hby d1_99) rfl (XT.ll_le_f hc99_29) ?_
                        show Steps p.tables e below (s₁.setTop (mkF m 102 #[.val (.long n), .second] [])) _
                        refine XS.bipush X0.here hx rfl (hb hby d1_102) ?_
                        exact kt
                      obtain ⟨fs, hr, hrun, hended, hW, hsame⟩ := X0.leave (v := some (.int (10 : Int32))) (fun h => by rw [Bd.returns] at h; cases h)
                      refine ⟨_, _, pre30 _ ?_, hrun, hended, _, _, rfl, ?_, ⟨_, rfl⟩, hW, hsame.mono (by decide) (by decide)⟩
                      · show Steps p.tables e below (s₁.setTop (mkF m 104 #[.val (.long n), .second] [(.int (10 : Int32))])) _
                        exact retI X0 hx Bd.returns (hb hby d1_104) hr
                      · show Q1 Z (.int (cnt (-n.toInt))) h0 n0 _ s₁.heap _
                        rw [e0]
                        exact ⟨by rw [cnt_10 (own_gen hc88_26 rfl) (own_ltn hc99_29 rfl)], N0, rfl⟩
                    · have pre31 : ∀ t, Steps p.tables e below (s₁.setTop (mkF m 110 #[.val (.long n), .second] [(.int (XT.cmpL n (-100000000000 : Int64)))])) t → Steps p.tables e below (s₁.setTop (entryFrame m #[(.long n)] 2)) t := by
                        intro t kt
                        refine pre28 _ ?_
                        show Steps p.tables e below (s₁.setTop (mkF m 99 #[.val (.long n), .second] [(.int (XT.cmpL n (-10000000000 : Int64)))])) _
                        refine XS.ifYes X0.here hx rfl (pc0 := 99) (pc' := 105) rfl (hb hby d1_99) rfl (XT.ll_le_t hc99_29) (by decide) (by decide) ?_
                        show Steps p.tables e below (s₁.setTop (mkF m 105 #[.val (.long n), .second] [])) _
                        refine XS.lloadN X0.here hx rfl (hb hby d1_105) rfl ?_
                        show Steps p.tables e below (s₁.setTop (mkF m 106 #[.val (.long n), .second] [(.long n)])) _
                        refine X0.ldc2J hx hown (mvT hZ (hw _ (List.mem_of_getElem? (i := 25) rfl))) (g := (mkF m 106 #[.val (.long n), .second] [(.long n)])) rfl (hb hby d1_106) ?_
                        show Steps p.tables e below (s₁.setTop (mkF m 109 #[.val (.long n), .second] [(.long (-100000000000 : Int64)), (.long n)])) _
                        refine XT.lcmp X0.here hx rfl (hb hby d1_109) rfl ?_
                        exact kt
                      by_cases hc110_32 : (-100000000000 : Int64) < n
                      · have pre33 : ∀ t, Steps p.tables e below (s₁.setTop (mkF m 115 #[.val (.long n), .second] [(.int (11 : Int32))])) t → Steps p.tables e below (s₁.setTop (entryFrame m #[(.long n)] 2)) t := by
                          intro t kt
                          refine pre31 _ ?_
                          show Steps p.tables e below (s₁.setTop (mkF m 110 #[.val (.long n), .second] [(.int (XT.cmpL n (-100000000000 : Int64)))])) _
                          refine XS.ifNo X0.here hx rfl (hb hby d1_110) rfl (XT.ll_le_f hc110_32) ?_
                          show Steps p.tables e below (s₁.setTop (mkF m 113 #[.val (.long n), .second] [])) _
                          refine XS.bipush X0.here hx rfl (hb hby d1_113) ?_
                          exact kt
                        obtain ⟨fs, hr, hrun, hended, hW, hsame⟩ := X0.leave (v := some (.int (11 : Int32))) (fun h => by rw [Bd.returns] at h; cases h)
                        refine ⟨_, _, pre33 _ ?_, hrun, hended, _, _, rfl, ?_, ⟨_, rfl⟩, hW, hsame.mono (by decide) (by decide)⟩
                        · show Steps p.tables e below (s₁.setTop (mkF m 115 #[.val (.long n), .second] [(.int (11 : Int32))])) _
                          exact retI X0 hx Bd.returns (hb hby d1_115) hr
                        · show Q1 Z (.int (cnt (-n.toInt))) h0 n0 _ s₁.heap _
                          rw [e0]
                          exact ⟨by rw [cnt_11 (own_gen hc99_29 rfl) (own_ltn hc110_32 rfl)], N0, rfl⟩
                      · have pre34 : ∀ t, Steps p.tables e below (s₁.setTop (mkF m 121 #[.val (.long n), .second] [(.int (XT.cmpL n (-1000000000000 : Int64)))])) t → Steps p.tables e below (s₁.setTop (entryFrame m #[(.long n)] 2)) t := by
                          intro t kt
                          refine pre31 _ ?_
                          show Steps p.tables e below (s₁.setTop (mkF m 110 #[.val (.long n), .second] [(.int (XT.cmpL n (-100000000000 : Int64)))])) _
                          refine XS.ifYes X0.here hx rfl (pc0 := 110) (pc' := 116) rfl (hb hby d1_110) rfl (XT.ll_le_t hc110_32) (by decide) (by decide) ?_
                          show Steps p.tables e below (s₁.setTop (mkF m 116 #[.val (.long n), .second] [])) _
                          refine XS.lloadN X0.here hx rfl (hb hby d1_116) rfl ?_
                          show Steps p.tables e below (s₁.setTop (mkF m 117 #[.val (.long n), .second] [(.long n)])) _
                          refine X0.ldc2J hx hown (mvT hZ (hw _ (List.mem_of_getElem? (i := 26) rfl))) (g := (mkF m 117 #[.val (.long n), .second] [(.long n)])) rfl (hb hby d1_117) ?_
                          show Steps p.tables e below (s₁.setTop (mkF m 120 #[.val (.long n), .second] [(.long (-1000000000000 : Int64)), (.long n)])) _
                          refine XT.lcmp X0.here hx rfl (hb hby d1_120) rfl ?_
                          exact kt
                        by_cases hc121_35 : (-1000000000000 : Int64) < n
                        · have pre36 : ∀ t, Steps p.tables e below (s₁.setTop (mkF m 126 #[.val (.long n), .second] [(.int (12 : Int32))])) t → Steps p.tables e below (s₁.setTop (entryFrame m #[(.long n)] 2)) t := by
                            intro t kt
                            refine pre34 _ ?_
                            show Steps p.tables e below (s₁.setTop (mkF m 121 #[.val (.long n), .second] [(.int (XT.cmpL n (-1000000000000 : Int64)))])) _
                            refine XS.ifNo X0.here hx rfl (hb hby d1_121) rfl (XT.ll_le_f hc121_35) ?_
                            show Steps p.tables e below (s₁.setTop (mkF m 124 #[.val (.long n), .second] [])) _
                            refine XS.bipush X0.here hx rfl (hb hby d1_124) ?_
                            exact kt
                          obtain ⟨fs, hr, hrun, hended, hW, hsame⟩ := X0.leave (v := some (.int (12 : Int32))) (fun h => by rw [Bd.returns] at h; cases h)
                          refine ⟨_, _, pre36 _ ?_, hrun, hended, _, _, rfl, ?_, ⟨_, rfl⟩, hW, hsame.mono (by decide) (by decide)⟩
                          · show Steps p.tables e below (s₁.setTop (mkF m 126 #[.val (.long n), .second] [(.int (12 : Int32))])) _
                            exact retI X0 hx Bd.returns (hb hby d1_126) hr
                          · show Q1 Z (.int (cnt (-n.toInt))) h0 n0 _ s₁.heap _
                            rw [e0]
                            exact ⟨by rw [cnt_12 (own_gen hc110_32 rfl) (own_ltn hc121_35 rfl)], N0, rfl⟩
                        · have pre37 : ∀ t, Steps p.tables e below (s₁.setTop (mkF m 132 #[.val (.long n), .second] [(.int (XT.cmpL n (-10000000000000 : Int64)))])) t → Steps p.tables e below (s₁.setTop (entryFrame m #[(.long n)] 2)) t := by
                            intro t kt
                            refine pre34 _ ?_
                            show Steps p.tables e below (s₁.setTop (mkF m 121 #[.val (.long n), .second] [(.int (XT.cmpL n (-1000000000000 : Int64)))])) _
                            refine XS.ifYes X0.here hx rfl (pc0 := 121) (pc' := 127) rfl (hb hby d1_121) rfl (XT.ll_le_t hc121_35) (by decide) (by decide) ?_
                            show Steps p.tables e below (s₁.setTop (mkF m 127 #[.val (.long n), .second] [])) _
                            refine XS.lloadN X0.here hx rfl (hb hby d1_127) rfl ?_
                            show Steps p.tables e below (s₁.setTop (mkF m 128 #[.val (.long n), .second] [(.long n)])) _
                            refine X0.ldc2J hx hown (mvT hZ (hw _ (List.mem_of_getElem? (i := 27) rfl))) (g := (mkF m 128 #[.val (.long n), .second] [(.long n)])) rfl (hb hby d1_128) ?_
                            show Steps p.tables e below (s₁.setTop (mkF m 131 #[.val (.long n), .second] [(.long (-10000000000000 : Int64)), (.long n)])) _
                            refine XT.lcmp X0.here hx rfl (hb hby d1_131) rfl ?_
                            exact kt
                          by_cases hc132_38 : (-10000000000000 : Int64) < n
                          · have pre39 : ∀ t, Steps p.tables e below (s₁.setTop (mkF m 137 #[.val (.long n), .second] [(.int (13 : Int32))])) t → Steps p.tables e below (s₁.setTop (entryFrame m #[(.long n)] 2)) t := by
                              intro t kt
                              refine pre37 _ ?_
                              show Steps p.tables e below (s₁.setTop (mkF m 132 #[.val (.long n), .second] [(.int (XT.cmpL n (-10000000000000 : Int64)))])) _
                              refine XS.ifNo X0.here hx rfl (hb hby d1_132) rfl (XT.ll_le_f hc132_38) ?_
                              show Steps p.tables e below (s₁.setTop (mkF m 135 #[.val (.long n), .second] [])) _
                              refine XS.bipush X0.here hx rfl (hb hby d1_135) ?_
                              exact kt
                            obtain ⟨fs, hr, hrun, hended, hW, hsame⟩ := X0.leave (v := some (.int (13 : Int32))) (fun h => by rw [Bd.returns] at h; cases h)
                            refine ⟨_, _, pre39 _ ?_, hrun, hended, _, _, rfl, ?_, ⟨_, rfl⟩, hW, hsame.mono (by decide) (by decide)⟩
                            · show Steps p.tables e below (s₁.setTop (mkF m 137 #[.val (.long n), .second] [(.int (13 : Int32))])) _
                              exact retI X0 hx Bd.returns (hb hby d1_137) hr
                            · show Q1 Z (.int (cnt (-n.toInt))) h0 n0 _ s₁.heap _
                              rw [e0]
                              exact ⟨by rw [cnt_13 (own_gen hc121_35 rfl) (own_ltn hc132_38 rfl)], N0, rfl⟩
                          · have pre40 : ∀ t, Steps p.tables e below (s₁.setTop (mkF m 143 #[.val (.long n), .second] [(.int (XT.cmpL n (-100000000000000 : Int64)))])) t → Steps p.tables e below (s₁.setTop (entryFrame m #[(.long n)] 2)) t := by
                              intro t kt
                              refine pre37 _ ?_
                              show Steps p.tables e below (s₁.setTop (mkF m 132 #[.val (.long n), .second] [(.int (XT.cmpL n (-10000000000000 : Int64)))])) _
                              refine XS.ifYes X0.here hx rfl (pc0 := 132) (pc' := 138) rfl (hb hby d1_132) rfl (XT.ll_le_t hc132_38) (by decide) (by decide) ?_
                              show Steps p.tables e below (s₁.setTop (mkF m 138 #[.val (.long n), .second] [])) _
                              refine XS.lloadN X0.here hx rfl (hb hby d1_138) rfl ?_
                              show Steps p.tables e below (s₁.setTop (mkF m 139 #[.val (.long n), .second] [(.long n)])) _
                              refine X0.ldc2J hx hown (mvT hZ (hw _ (List.mem_of_getElem? (i := 28) rfl))) (g := (mkF m 139 #[.val (.long n), .second] [(.long n)])) rfl (hb hby d1_139) ?_
                              show Steps p.tables e below (s₁.setTop (mkF m 142 #[.val (.long n), .second] [(.long (-100000000000000 : Int64)), (.long n)])) _
                              refine XT.lcmp X0.here hx rfl (hb hby d1_142) rfl ?_
                              exact kt
                            by_cases hc143_41 : (-100000000000000 : Int64) < n
                            · have pre42 : ∀ t, Steps p.tables e below (s₁.setTop (mkF m 148 #[.val (.long n), .second] [(.int (14 : Int32))])) t → Steps p.tables e below (s₁.setTop (entryFrame m #[(.long n)] 2)) t := by
                                intro t kt
                                refine pre40 _ ?_
                                show Steps p.tables e below (s₁.setTop (mkF m 143 #[.val (.long n), .second] [(.int (XT.cmpL n (-100000000000000 : Int64)))])) _
                                refine XS.ifNo X0.here hx rfl (hb hby d1_143) rfl (XT.ll_le_f hc143_41) ?_
                                show Steps p.tables e below (s₁.setTop (mkF m 146 #[.val (.long n), .second] [])) _
                                refine XS.bipush X0.here hx rfl (hb hby d1_146) ?_
                                exact kt
                              obtain ⟨fs, hr, hrun, hended, hW, hsame⟩ := X0.leave (v := some (.int (14 : Int32))) (fun h => by rw [Bd.returns] at h; cases h)
                              refine ⟨_, _, pre42 _ ?_, hrun, hended, _, _, rfl, ?_, ⟨_, rfl⟩, hW, hsame.mono (by decide) (by decide)⟩
                              · show Steps p.tables e below (s₁.setTop (mkF m 148 #[.val (.long n), .second] [(.int (14 : Int32))])) _
                                exact retI X0 hx Bd.returns (hb hby d1_148) hr
                              · show Q1 Z (.int (cnt (-n.toInt))) h0 n0 _ s₁.heap _
                                rw [e0]
                                exact ⟨by rw [cnt_14 (own_gen hc132_38 rfl) (own_ltn hc143_41 rfl)], N0, rfl⟩
                            · have pre43 : ∀ t, Steps p.tables e below (s₁.setTop (mkF m 154 #[.val (.long n), .second] [(.int (XT.cmpL n (-1000000000000000 : Int64)))])) t → Steps p.tables e below (s₁.setTop (entryFrame m #[(.long n)] 2)) t := by
                                intro t kt
                                refine pre40 _ ?_
                                show Steps p.tables e below (s₁.setTop (mkF m 143 #[.val (.long n), .second] [(.int (XT.cmpL n (-100000000000000 : Int64)))])) _
                                refine XS.ifYes X0.here hx rfl (pc0 := 143) (pc' := 149) rfl (hb hby d1_143) rfl (XT.ll_le_t hc143_41) (by decide) (by decide) ?_
                                show Steps p.tables e below (s₁.setTop (mkF m 149 #[.val (.long n), .second] [])) _
                                refine XS.lloadN X0.here hx rfl (hb hby d1_149) rfl ?_
                                show Steps p.tables e below (s₁.setTop (mkF m 150 #[.val (.long n), .second] [(.long n)])) _
                                refine X0.ldc2J hx hown (mvT hZ (hw _ (List.mem_of_getElem? (i := 29) rfl))) (g := (mkF m 150 #[.val (.long n), .second] [(.long n)])) rfl (hb hby d1_150) ?_
                                show Steps p.tables e below (s₁.setTop (mkF m 153 #[.val (.long n), .second] [(.long (-1000000000000000 : Int64)), (.long n)])) _
                                refine XT.lcmp X0.here hx rfl (hb hby d1_153) rfl ?_
                                exact kt
                              by_cases hc154_44 : (-1000000000000000 : Int64) < n
                              · have pre45 : ∀ t, Steps p.tables e below (s₁.setTop (mkF m 159 #[.val (.long n), .second] [(.int (15 : Int32))])) t → Steps p.tables e below (s₁.setTop (entryFrame m #[(.long n)] 2)) t := by
                                  intro t kt
                                  refine pre43 _ ?_
                                  show Steps p.tables e below (s₁.setTop (mkF m 154 #[.val (.long n), .second] [(.int (XT.cmpL n (-1000000000000000 : Int64)))])) _
                                  refine XS.ifNo X0.here hx rfl (hb hby d1_154) rfl (XT.ll_le_f hc154_44) ?_
                                  show Steps p.tables e below (s₁.setTop (mkF m 157 #[.val (.long n), .second] [])) _
                                  refine XS.bipush X0.here hx rfl (hb hby d1_157) ?_
                                  exact kt
                                obtain ⟨fs, hr, hrun, hended, hW, hsame⟩ := X0.leave (v := some (.int (15 : Int32))) (fun h => by rw [Bd.returns] at h; cases h)
                                refine ⟨_, _, pre45 _ ?_, hrun, hended, _, _, rfl, ?_, ⟨_, rfl⟩, hW, hsame.mono (by decide) (by decide)⟩
                                · show Steps p.tables e below (s₁.setTop (mkF m 159 #[.val (.long n), .second] [(.int (15 : Int32))])) _
                                  exact retI X0 hx Bd.returns (hb hby d1_159) hr
                                · show Q1 Z (.int (cnt (-n.toInt))) h0 n0 _ s₁.heap _
                                  rw [e0]
                                  exact ⟨by rw [cnt_15 (own_gen hc143_41 rfl) (own_ltn hc154_44 rfl)], N0, rfl⟩
                              · have pre46 : ∀ t, Steps p.tables e below (s₁.setTop (mkF m 165 #[.val (.long n), .second] [(.int (XT.cmpL n (-10000000000000000 : Int64)))])) t → Steps p.tables e below (s₁.setTop (entryFrame m #[(.long n)] 2)) t := by
                                  intro t kt
                                  refine pre43 _ ?_
                                  show Steps p.tables e below (s₁.setTop (mkF m 154 #[.val (.long n), .second] [(.int (XT.cmpL n (-1000000000000000 : Int64)))])) _
                                  refine XS.ifYes X0.here hx rfl (pc0 := 154) (pc' := 160) rfl (hb hby d1_154) rfl (XT.ll_le_t hc154_44) (by decide) (by decide) ?_
                                  show Steps p.tables e below (s₁.setTop (mkF m 160 #[.val (.long n), .second] [])) _
                                  refine XS.lloadN X0.here hx rfl (hb hby d1_160) rfl ?_
                                  show Steps p.tables e below (s₁.setTop (mkF m 161 #[.val (.long n), .second] [(.long n)])) _
                                  refine X0.ldc2J hx hown (mvT hZ (hw _ (List.mem_of_getElem? (i := 30) rfl))) (g := (mkF m 161 #[.val (.long n), .second] [(.long n)])) rfl (hb hby d1_161) ?_
                                  show Steps p.tables e below (s₁.setTop (mkF m 164 #[.val (.long n), .second] [(.long (-10000000000000000 : Int64)), (.long n)])) _
                                  refine XT.lcmp X0.here hx rfl (hb hby d1_164) rfl ?_
                                  exact kt
                                by_cases hc165_47 : (-10000000000000000 : Int64) < n
                                · have pre48 : ∀ t, Steps p.tables e below (s₁.setTop (mkF m 170 #[.val (.long n), .second] [(.int (16 : Int32))])) t → Steps p.tables e below (s₁.setTop (entryFrame m #[(.long n)] 2)) t := by
                                    intro t kt
                                    refine pre46 _ ?_
                                    show Steps p.tables e below (s₁.setTop (mkF m 165 #[.val (.long n), .second] [(.int (XT.cmpL n (-10000000000000000 : Int64)))])) _
                                    refine XS.ifNo X0.here hx rfl (hb hby d1_165) rfl (XT.ll_le_f hc165_47) ?_
                                    show Steps p.tables e below (s₁.setTop (mkF m 168 #[.val (.long n), .second] [])) _
                                    refine XS.bipush X0.here hx rfl (hb hby d1_168) ?_
                                    exact kt
                                  obtain ⟨fs, hr, hrun, hended, hW, hsame⟩ := X0.leave (v := some (.int (16 : Int32))) (fun h => by rw [Bd.returns] at h; cases h)
                                  refine ⟨_, _, pre48 _ ?_, hrun, hended, _, _, rfl, ?_, ⟨_, rfl⟩, hW, hsame.mono (by decide) (by decide)⟩
                                  · show Steps p.tables e below (s₁.setTop (mkF m 170 #[.val (.long n), .second] [(.int (16 : Int32))])) _
                                    exact retI X0 hx Bd.returns (hb hby d1_170) hr
                                  · show Q1 Z (.int (cnt (-n.toInt))) h0 n0 _ s₁.heap _
                                    rw [e0]
                                    exact ⟨by rw [cnt_16 (own_gen hc154_44 rfl) (own_ltn hc165_47 rfl)], N0, rfl⟩
                                · have pre49 : ∀ t, Steps p.tables e below (s₁.setTop (mkF m 176 #[.val (.long n), .second] [(.int (XT.cmpL n (-100000000000000000 : Int64)))])) t → Steps p.tables e below (s₁.setTop (entryFrame m #[(.long n)] 2)) t := by
                                    intro t kt
                                    refine pre46 _ ?_
                                    show Steps p.tables e below (s₁.setTop (mkF m 165 #[.val (.long n), .second] [(.int (XT.cmpL n (-10000000000000000 : Int64)))])) _
                                    refine XS.ifYes X0.here hx rfl (pc0 := 165) (pc' := 171) rfl (hb hby d1_165) rfl (XT.ll_le_t hc165_47) (by decide) (by decide) ?_
                                    show Steps p.tables e below (s₁.setTop (mkF m 171 #[.val (.long n), .second] [])) _
                                    refine XS.lloadN X0.here hx rfl (hb hby d1_171) rfl ?_
                                    show Steps p.tables e below (s₁.setTop (mkF m 172 #[.val (.long n), .second] [(.long n)])) _
                                    refine X0.ldc2J hx hown (mvT hZ (hw _ (List.mem_of_getElem? (i := 31) rfl))) (g := (mkF m 172 #[.val (.long n), .second] [(.long n)])) rfl (hb hby d1_172) ?_
                                    show Steps p.tables e below (s₁.setTop (mkF m 175 #[.val (.long n), .second] [(.long (-100000000000000000 : Int64)), (.long n)])) _
                                    refine XT.lcmp X0.here hx rfl (hb hby d1_175) rfl ?_
                                    exact kt
                                  by_cases hc176_50 : (-100000000000000000 : Int64) < n
                                  · have pre51 : ∀ t, Steps p.tables e below (s₁.setTop (mkF m 181 #[.val (.long n), .second] [(.int (17 : Int32))])) t → Steps p.tables e below (s₁.setTop (entryFrame m #[(.long n)] 2)) t := by
                                      intro t kt
                                      refine pre49 _ ?_
                                      show Steps p.tables e below (s₁.setTop (mkF m 176 #[.val (.long n), .second] [(.int (XT.cmpL n (-100000000000000000 : Int64)))])) _
                                      refine XS.ifNo X0.here hx rfl (hb hby d1_176) rfl (XT.ll_le_f hc176_50) ?_
                                      show Steps p.tables e below (s₁.setTop (mkF m 179 #[.val (.long n), .second] [])) _
                                      refine XS.bipush X0.here hx rfl (hb hby d1_179) ?_
                                      exact kt
                                    obtain ⟨fs, hr, hrun, hended, hW, hsame⟩ := X0.leave (v := some (.int (17 : Int32))) (fun h => by rw [Bd.returns] at h; cases h)
                                    refine ⟨_, _, pre51 _ ?_, hrun, hended, _, _, rfl, ?_, ⟨_, rfl⟩, hW, hsame.mono (by decide) (by decide)⟩
                                    · show Steps p.tables e below (s₁.setTop (mkF m 181 #[.val (.long n), .second] [(.int (17 : Int32))])) _
                                      exact retI X0 hx Bd.returns (hb hby d1_181) hr
                                    · show Q1 Z (.int (cnt (-n.toInt))) h0 n0 _ s₁.heap _
                                      rw [e0]
                                      exact ⟨by rw [cnt_17 (own_gen hc165_47 rfl) (own_ltn hc176_50 rfl)], N0, rfl⟩
                                  · have pre52 : ∀ t, Steps p.tables e below (s₁.setTop (mkF m 187 #[.val (.long n), .second] [(.int (XT.cmpL n (-1000000000000000000 : Int64)))])) t → Steps p.tables e below (s₁.setTop (entryFrame m #[(.long n)] 2)) t := by
                                      intro t kt
                                      refine pre49 _ ?_
                                      show Steps p.tables e below (s₁.setTop (mkF m 176 #[.val (.long n), .second] [(.int (XT.cmpL n (-100000000000000000 : Int64)))])) _
                                      refine XS.ifYes X0.here hx rfl (pc0 := 176) (pc' := 182) rfl (hb hby d1_176) rfl (XT.ll_le_t hc176_50) (by decide) (by decide) ?_
                                      show Steps p.tables e below (s₁.setTop (mkF m 182 #[.val (.long n), .second] [])) _
                                      refine XS.lloadN X0.here hx rfl (hb hby d1_182) rfl ?_
                                      show Steps p.tables e below (s₁.setTop (mkF m 183 #[.val (.long n), .second] [(.long n)])) _
                                      refine X0.ldc2J hx hown (mvT hZ (hw _ (List.mem_of_getElem? (i := 32) rfl))) (g := (mkF m 183 #[.val (.long n), .second] [(.long n)])) rfl (hb hby d1_183) ?_
                                      show Steps p.tables e below (s₁.setTop (mkF m 186 #[.val (.long n), .second] [(.long (-1000000000000000000 : Int64)), (.long n)])) _
                                      refine XT.lcmp X0.here hx rfl (hb hby d1_186) rfl ?_
                                      exact kt
                                    by_cases hc187_53 : (-1000000000000000000 : Int64) < n
                                    · have pre54 : ∀ t, Steps p.tables e below (s₁.setTop (mkF m 192 #[.val (.long n), .second] [(.int (18 : Int32))])) t → Steps p.tables e below (s₁.setTop (entryFrame m #[(.long n)] 2)) t := by
                                        intro t kt
                                        refine pre52 _ ?_
                                        show Steps p.tables e below (s₁.setTop (mkF m 187 #[.val (.long n), .second] [(.int (XT.cmpL n (-1000000000000000000 : Int64)))])) _
                                        refine XS.ifNo X0.here hx rfl (hb hby d1_187) rfl (XT.ll_le_f hc187_53) ?_
                                        show Steps p.tables e below (s₁.setTop (mkF m 190 #[.val (.long n), .second] [])) _
                                        refine XS.bipush X0.here hx rfl (hb hby d1_190) ?_
                                        exact kt
                                      obtain ⟨fs, hr, hrun, hended, hW, hsame⟩ := X0.leave (v := some (.int (18 : Int32))) (fun h => by rw [Bd.returns] at h; cases h)
                                      refine ⟨_, _, pre54 _ ?_, hrun, hended, _, _, rfl, ?_, ⟨_, rfl⟩, hW, hsame.mono (by decide) (by decide)⟩
                                      · show Steps p.tables e below (s₁.setTop (mkF m 192 #[.val (.long n), .second] [(.int (18 : Int32))])) _
                                        exact retI X0 hx Bd.returns (hb hby d1_192) hr
                                      · show Q1 Z (.int (cnt (-n.toInt))) h0 n0 _ s₁.heap _
                                        rw [e0]
                                        exact ⟨by rw [cnt_18 (own_gen hc176_50 rfl) (own_ltn hc187_53 rfl)], N0, rfl⟩
                                    · have pre55 : ∀ t, Steps p.tables e below (s₁.setTop (mkF m 195 #[.val (.long n), .second] [(.int (19 : Int32))])) t → Steps p.tables e below (s₁.setTop (entryFrame m #[(.long n)] 2)) t := by
                                        intro t kt
                                        refine pre52 _ ?_
                                        show Steps p.tables e below (s₁.setTop (mkF m 187 #[.val (.long n), .second] [(.int (XT.cmpL n (-1000000000000000000 : Int64)))])) _
                                        refine XS.ifYes X0.here hx rfl (pc0 := 187) (pc' := 193) rfl (hb hby d1_187) rfl (XT.ll_le_t hc187_53) (by decide) (by decide) ?_
                                        show Steps p.tables e below (s₁.setTop (mkF m 193 #[.val (.long n), .second] [])) _
                                        refine XS.bipush X0.here hx rfl (hb hby d1_193) ?_
                                        exact kt
                                      obtain ⟨fs, hr, hrun, hended, hW, hsame⟩ := X0.leave (v := some (.int (19 : Int32))) (fun h => by rw [Bd.returns] at h; cases h)
                                      refine ⟨_, _, pre55 _ ?_, hrun, hended, _, _, rfl, ?_, ⟨_, rfl⟩, hW, hsame.mono (by decide) (by decide)⟩
                                      · show Steps p.tables e below (s₁.setTop (mkF m 195 #[.val (.long n), .second] [(.int (19 : Int32))])) _
                                        exact retI X0 hx Bd.returns (hb hby d1_195) hr
                                      · show Q1 Z (.int (cnt (-n.toInt))) h0 n0 _ s₁.heap _
                                        rw [e0]
                                        exact ⟨by rw [cnt_19 (own_gen hc187_53 rfl)], N0, rfl⟩
theorem d2_0 : decode method_3_code 0 = .ok (.lload_n 0, 1) := by decide +kernel
theorem d2_1 : decode method_3_code 1 = .ok (.lconst 0, 1) := by decide +kernel
theorem d2_2 : decode method_3_code 2 = .ok (.lcmp, 1) := by decide +kernel
theorem d2_3 : decode method_3_code 3 = .ok (.ifCond .ge 7, 3) := by decide +kernel
theorem d2_6 : decode method_3_code 6 = .ok (.lload_n 0, 1) := by decide +kernel
theorem d2_7 : decode method_3_code 7 = .ok (.goto 5, 3) := by decide +kernel
theorem d2_10 : decode method_3_code 10 = .ok (.lload_n 0, 1) := by decide +kernel
theorem d2_11 : decode method_3_code 11 = .ok (.lneg, 1) := by decide +kernel
theorem d2_12 : decode method_3_code 12 = .ok (.lstore_n 2, 1) := by decide +kernel
theorem d2_13 : decode method_3_code 13 = .ok (.lload_n 0, 1) := by decide +kernel
theorem d2_14 : decode method_3_code 14 = .ok (.lconst 0, 1) := by decide +kernel
theorem d2_15 : decode method_3_code 15 = .ok (.lcmp, 1) := by decide +kernel
theorem d2_16 : decode method_3_code 16 = .ok (.ifCond .ge 7, 3) := by decide +kernel
theorem d2_19 : decode method_3_code 19 = .ok (.iconst 1, 1) := by decide +kernel
theorem d2_20 : decode method_3_code 20 = .ok (.goto 4, 3) := by decide +kernel
theorem d2_23 : decode method_3_code 23 = .ok (.iconst 0, 1) := by decide +kernel
theorem d2_24 : decode method_3_code 24 = .ok (.istore 4, 2) := by decide +kernel
theorem d2_26 : decode method_3_code 26 = .ok (.iload 4, 2) := by decide +kernel
theorem d2_28 : decode method_3_code 28 = .ok (.lload_n 2, 1) := by decide +kernel
theorem d2_29 : decode method_3_code 29 = .ok (.invokestatic 61, 3) := by decide +kernel
theorem d2_32 : decode method_3_code 32 = .ok (.iadd, 1) := by decide +kernel
theorem d2_33 : decode method_3_code 33 = .ok (.ireturn, 1) := by decide +kernel
theorem pn2 : plainName "crestline/WholeDigitsCountPinLaw" = true := by first | (simp [plainName, overriddenIn]; done) | decide +kernel
theorem pd2_0 : parseMethodDescriptor "(J)I" = some ⟨[.long], some .int⟩ := by decide +kernel
theorem ef2 (m : MethodId) (x0 : Int64) : entryFrame m #[(.long x0)] 5 = mkF m 0 #[.val (.long x0), .second, .unset, .unset, .unset] [] := by first | (simp [entryFrame, mkF, argsToLocals, Value.category]; done) | rfl
set_option maxRecDepth 65536 in
set_option maxHeartbeats 40000000 in
theorem rm2 (l : Launch) (Z : State) (a0 : Array Value) (hw : ∀ d ∈ tables_1, d.before a0 Z = true) (ws : List Jvm.Cond) (v : Int64) (h0 : Heap) (n0 : Nat) (Z0 : n0 ≤ h0.size) :
    MetFree l (⟨"crestline/WholeDigitsCountPinLaw", "expected", "(J)I"⟩ : MethodName) (head1 (Jvm.Cond.code (⟨"crestline/WholeDigitsCountPinLaw", "expected", "(J)I"⟩ : MethodName) method_3_code 5 (some .int) :: ws) ({ frames := 1, cells := 0, slots := 0, locals := 14 } : Room)) (fun aa_ U => aa_ = #[(.long v)] ∧ Z.Warmed39 U.vm ∧ U.heap = h0) (fun _ _ _ _ _ => True) (fun _ U o U' => ∃ vv_ LL_, o = .returned vv_ ∧ Q1 Z (.int (expF v)) h0 n0 vv_ U'.heap LL_ ∧ FrameEnd U o U' LL_ ({ frames := 1, cells := 0, slots := 0, locals := 14 } : Room).cells ({ frames := 1, cells := 0, slots := 0, locals := 14 } : Room).slots) := by
  refine MetFree.of_bodySF (plainFor_of_name pn2) hisR ?_
  intro p e s m args below meth c s₁ Bd hml0 hP hK
  obtain ⟨rfl, hZ, hh⟩ := hP
  have hx := Bd.exec
  have hby := Bd.bytes
  have hml : c.maxLocals = 5 := hml0
  have hown : s.vm.findClass "crestline/WholeDigitsCountPinLaw" = some m.cls := findClass_of_methodNamed Bd.named
  have hnm := (name_of_methodNamed Bd.named Bd.method).1
  have X0 : Stand p l e ({ frames := 1, cells := 0, slots := 0, locals := 14 } : Room) s m #[(.long v)] below meth c s₁ [] 0 0 := Stand.of_body Bd
  have e0 : s₁.heap = h0 := by rw [← hh, Bd.state]; rfl
  have N0 := Fr.nil n0
  have pre0 : ∀ t, Steps p.tables e below (s₁.setTop (mkF m 0 #[.val (.long v), .second, .unset, .unset, .unset] [])) t → Steps p.tables e below (s₁.setTop (entryFrame m #[(.long v)] 5)) t := fun t kt => castTop (ef2 m v) kt
  have pre1 : ∀ t, Steps p.tables e below (s₁.setTop (mkF m 3 #[.val (.long v), .second, .unset, .unset, .unset] [(.int (XT.cmpL v (0 : Int64)))])) t → Steps p.tables e below (s₁.setTop (entryFrame m #[(.long v)] 5)) t := by
    intro t kt
    refine pre0 _ ?_
    show Steps p.tables e below (s₁.setTop (mkF m 0 #[.val (.long v), .second, .unset, .unset, .unset] [])) _
    refine XS.lloadN X0.here hx rfl (hb hby d2_0) rfl ?_
    show Steps p.tables e below (s₁.setTop (mkF m 1 #[.val (.long v), .second, .unset, .unset, .unset] [(.long v)])) _
    refine XS.lconst X0.here hx rfl (hb hby d2_1) ?_
    show Steps p.tables e below (s₁.setTop (mkF m 2 #[.val (.long v), .second, .unset, .unset, .unset] [(.long (0 : Int64)), (.long v)])) _
    refine XT.lcmp X0.here hx rfl (hb hby d2_2) rfl ?_
    exact kt
  by_cases hc3_2 : v < (0 : Int64)
  · obtain ⟨_, _, ⟨T3, L3, k3, n3⟩, -, X3, ⟨Lc3, hQ3, l3, y3, z3⟩, st3⟩ := Jvm.LawKit.callS X0 hx (y := (⟨"crestline/WholeDigitsCountPinLaw", "digits", "(J)I"⟩ : MethodName)) hown (mvT hZ (hw _ (List.mem_of_getElem? (i := 10) rfl))) (mvT hZ (hw _ (List.mem_of_getElem? (i := 11) rfl))) (mvT hZ (hw _ (List.mem_of_getElem? (i := 8) rfl))) (mvT hZ (hw _ (List.mem_of_getElem? (i := 12) rfl))) (by decide) (backOf (W := 1) (rm1 l Z a0 hw [] v h0 n0 Z0) hZ (hw _ (List.mem_of_getElem? (i := 12) rfl)) (hw _ (List.mem_of_getElem? (i := 8) rfl)) (by decide) (by decide)) (g := (mkF m 29 #[.val (.long v), .second, .val (.long v), .second, .val (.int (1 : Int32))] [(.long v), (.int (1 : Int32))])) rfl (by rw [hml]; rfl) (argsL := [(.long v)]) (rest := [(.int (1 : Int32))]) (lenOf pd2_0 rfl) rfl (by show 2 * 0 + _ ≤ _; exact Nat.le_of_eq rfl) (hb hby d2_29) (fun _ _ => ⟨rfl, e0, (by decide : 0 + 0 ≤ _), (by decide : 0 + 0 ≤ _)⟩)
    dsimp only [Pt.U, Pt.locs, Pt.cells, Pt.slots] at X3 l3 y3 z3 st3 hQ3
    subst l3 y3 z3
    obtain ⟨rfl, N3q, e3⟩ := hQ3
    have N3 := Fr.app N0 N3q
    have pre4 : ∀ t, Steps p.tables e below (T3.setTop (mkF m 33 #[.val (.long v), .second, .val (.long v), .second, .val (.int (1 : Int32))] [(.int ((1 : Int32) + (cnt (-v.toInt))))])) t → Steps p.tables e below (s₁.setTop (entryFrame m #[(.long v)] 5)) t := by
      intro t kt
      refine pre1 _ ?_
      show Steps p.tables e below (s₁.setTop (mkF m 3 #[.val (.long v), .second, .unset, .unset, .unset] [(.int (XT.cmpL v (0 : Int64)))])) _
      refine XS.ifNo X0.here hx rfl (hb hby d2_3) rfl (XT.ll_ge_f hc3_2) ?_
      show Steps p.tables e below (s₁.setTop (mkF m 6 #[.val (.long v), .second, .unset, .unset, .unset] [])) _
      refine XS.lloadN X0.here hx rfl (hb hby d2_6) rfl ?_
      show Steps p.tables e below (s₁.setTop (mkF m 7 #[.val (.long v), .second, .unset, .unset, .unset] [(.long v)])) _
      refine XS.goto X0.here hx rfl (pc0 := 7) (pc' := 12) rfl (hb hby d2_7) (by decide) (by decide) ?_
      show Steps p.tables e below (s₁.setTop (mkF m 12 #[.val (.long v), .second, .unset, .unset, .unset] [(.long v)])) _
      refine XS.lstoreN X0.here hx rfl (hb hby d2_12) rfl (l' := #[.val (.long v), .second, .val (.long v), .second, .unset]) rfl ?_
      show Steps p.tables e below (s₁.setTop (mkF m 13 #[.val (.long v), .second, .val (.long v), .second, .unset] [])) _
      refine XS.lloadN X0.here hx rfl (hb hby d2_13) rfl ?_
      show Steps p.tables e below (s₁.setTop (mkF m 14 #[.val (.long v), .second, .val (.long v), .second, .unset] [(.long v)])) _
      refine XS.lconst X0.here hx rfl (hb hby d2_14) ?_
      show Steps p.tables e below (s₁.setTop (mkF m 15 #[.val (.long v), .second, .val (.long v), .second, .unset] [(.long (0 : Int64)), (.long v)])) _
      refine XT.lcmp X0.here hx rfl (hb hby d2_15) rfl ?_
      show Steps p.tables e below (s₁.setTop (mkF m 16 #[.val (.long v), .second, .val (.long v), .second, .unset] [(.int (XT.cmpL v (0 : Int64)))])) _
      refine XS.ifNo X0.here hx rfl (hb hby d2_16) rfl (XT.ll_ge_f hc3_2) ?_
      show Steps p.tables e below (s₁.setTop (mkF m 19 #[.val (.long v), .second, .val (.long v), .second, .unset] [])) _
      refine XS.iconst X0.here hx rfl (hb hby d2_19) ?_
      show Steps p.tables e below (s₁.setTop (mkF m 20 #[.val (.long v), .second, .val (.long v), .second, .unset] [(.int (1 : Int32))])) _
      refine XS.goto X0.here hx rfl (pc0 := 20) (pc' := 24) rfl (hb hby d2_20) (by decide) (by decide) ?_
      show Steps p.tables e below (s₁.setTop (mkF m 24 #[.val (.long v), .second, .val (.long v), .second, .unset] [(.int (1 : Int32))])) _
      refine XS.istore X0.here hx rfl (hb hby d2_24) rfl (l' := #[.val (.long v), .second, .val (.long v), .second, .val (.int (1 : Int32))]) rfl ?_
      show Steps p.tables e below (s₁.setTop (mkF m 26 #[.val (.long v), .second, .val (.long v), .second, .val (.int (1 : Int32))] [])) _
      refine XS.iload X0.here hx rfl (hb hby d2_26) rfl ?_
      show Steps p.tables e below (s₁.setTop (mkF m 28 #[.val (.long v), .second, .val (.long v), .second, .val (.int (1 : Int32))] [(.int (1 : Int32))])) _
      refine XS.lloadN X0.here hx rfl (hb hby d2_28) rfl ?_
      show Steps p.tables e below (s₁.setTop (mkF m 29 #[.val (.long v), .second, .val (.long v), .second, .val (.int (1 : Int32))] [(.long v), (.int (1 : Int32))])) _
      refine st3 _ ?_
      show Steps p.tables e below (T3.setTop (mkF m 32 #[.val (.long v), .second, .val (.long v), .second, .val (.int (1 : Int32))] [(.int (cnt (-v.toInt))), (.int (1 : Int32))])) _
      refine XS.iadd X3.here hx rfl (hb hby d2_32) rfl ?_
      exact kt
    obtain ⟨fs, hr, hrun, hended, hW, hsame⟩ := X3.leave (v := some (.int ((1 : Int32) + (cnt (-v.toInt))))) (fun h => by rw [Bd.returns] at h; cases h)
    refine ⟨_, _, pre4 _ ?_, hrun, hended, _, _, rfl, ?_, ⟨_, rfl⟩, hW, hsame.mono (by decide) (by decide)⟩
    · show Steps p.tables e below (T3.setTop (mkF m 33 #[.val (.long v), .second, .val (.long v), .second, .val (.int (1 : Int32))] [(.int ((1 : Int32) + (cnt (-v.toInt))))])) _
      exact retI X3 hx Bd.returns (hb hby d2_33) hr
    · show Q1 Z (.int (expF v)) h0 n0 _ T3.heap _
      rw [e3]
      exact ⟨by simp only [expF, hc3_2, if_true, if_false], N3, rfl⟩
  · obtain ⟨_, _, ⟨T5, L5, k5, n5⟩, -, X5, ⟨Lc5, hQ5, l5, y5, z5⟩, st5⟩ := Jvm.LawKit.callS X0 hx (y := (⟨"crestline/WholeDigitsCountPinLaw", "digits", "(J)I"⟩ : MethodName)) hown (mvT hZ (hw _ (List.mem_of_getElem? (i := 10) rfl))) (mvT hZ (hw _ (List.mem_of_getElem? (i := 11) rfl))) (mvT hZ (hw _ (List.mem_of_getElem? (i := 8) rfl))) (mvT hZ (hw _ (List.mem_of_getElem? (i := 12) rfl))) (by decide) (backOf (W := 1) (rm1 l Z a0 hw [] (-v) h0 n0 Z0) hZ (hw _ (List.mem_of_getElem? (i := 12) rfl)) (hw _ (List.mem_of_getElem? (i := 8) rfl)) (by decide) (by decide)) (g := (mkF m 29 #[.val (.long v), .second, .val (.long (-v)), .second, .val (.int (0 : Int32))] [(.long (-v)), (.int (0 : Int32))])) rfl (by rw [hml]; rfl) (argsL := [(.long (-v))]) (rest := [(.int (0 : Int32))]) (lenOf pd2_0 rfl) rfl (by show 2 * 0 + _ ≤ _; exact Nat.le_of_eq rfl) (hb hby d2_29) (fun _ _ => ⟨rfl, e0, (by decide : 0 + 0 ≤ _), (by decide : 0 + 0 ≤ _)⟩)
    dsimp only [Pt.U, Pt.locs, Pt.cells, Pt.slots] at X5 l5 y5 z5 st5 hQ5
    subst l5 y5 z5
    obtain ⟨rfl, N5q, e5⟩ := hQ5
    have N5 := Fr.app N0 N5q
    have pre6 : ∀ t, Steps p.tables e below (T5.setTop (mkF m 33 #[.val (.long v), .second, .val (.long (-v)), .second, .val (.int (0 : Int32))] [(.int ((0 : Int32) + (cnt (-(-v).toInt))))])) t → Steps p.tables e below (s₁.setTop (entryFrame m #[(.long v)] 5)) t := by
      intro t kt
      refine pre1 _ ?_
      show Steps p.tables e below (s₁.setTop (mkF m 3 #[.val (.long v), .second, .unset, .unset, .unset] [(.int (XT.cmpL v (0 : Int64)))])) _
      refine XS.ifYes X0.here hx rfl (pc0 := 3) (pc' := 10) rfl (hb hby d2_3) rfl (XT.ll_ge_t hc3_2) (by decide) (by decide) ?_
      show Steps p.tables e below (s₁.setTop (mkF m 10 #[.val (.long v), .second, .unset, .unset, .unset] [])) _
      refine XS.lloadN X0.here hx rfl (hb hby d2_10) rfl ?_
      show Steps p.tables e below (s₁.setTop (mkF m 11 #[.val (.long v), .second, .unset, .unset, .unset] [(.long v)])) _
      refine XS.lneg X0.here hx rfl (hb hby d2_11) rfl ?_
      show Steps p.tables e below (s₁.setTop (mkF m 12 #[.val (.long v), .second, .unset, .unset, .unset] [(.long (-v))])) _
      refine XS.lstoreN X0.here hx rfl (hb hby d2_12) rfl (l' := #[.val (.long v), .second, .val (.long (-v)), .second, .unset]) rfl ?_
      show Steps p.tables e below (s₁.setTop (mkF m 13 #[.val (.long v), .second, .val (.long (-v)), .second, .unset] [])) _
      refine XS.lloadN X0.here hx rfl (hb hby d2_13) rfl ?_
      show Steps p.tables e below (s₁.setTop (mkF m 14 #[.val (.long v), .second, .val (.long (-v)), .second, .unset] [(.long v)])) _
      refine XS.lconst X0.here hx rfl (hb hby d2_14) ?_
      show Steps p.tables e below (s₁.setTop (mkF m 15 #[.val (.long v), .second, .val (.long (-v)), .second, .unset] [(.long (0 : Int64)), (.long v)])) _
      refine XT.lcmp X0.here hx rfl (hb hby d2_15) rfl ?_
      show Steps p.tables e below (s₁.setTop (mkF m 16 #[.val (.long v), .second, .val (.long (-v)), .second, .unset] [(.int (XT.cmpL v (0 : Int64)))])) _
      refine XS.ifYes X0.here hx rfl (pc0 := 16) (pc' := 23) rfl (hb hby d2_16) rfl (XT.ll_ge_t hc3_2) (by decide) (by decide) ?_
      show Steps p.tables e below (s₁.setTop (mkF m 23 #[.val (.long v), .second, .val (.long (-v)), .second, .unset] [])) _
      refine XS.iconst X0.here hx rfl (hb hby d2_23) ?_
      show Steps p.tables e below (s₁.setTop (mkF m 24 #[.val (.long v), .second, .val (.long (-v)), .second, .unset] [(.int (0 : Int32))])) _
      refine XS.istore X0.here hx rfl (hb hby d2_24) rfl (l' := #[.val (.long v), .second, .val (.long (-v)), .second, .val (.int (0 : Int32))]) rfl ?_
      show Steps p.tables e below (s₁.setTop (mkF m 26 #[.val (.long v), .second, .val (.long (-v)), .second, .val (.int (0 : Int32))] [])) _
      refine XS.iload X0.here hx rfl (hb hby d2_26) rfl ?_
      show Steps p.tables e below (s₁.setTop (mkF m 28 #[.val (.long v), .second, .val (.long (-v)), .second, .val (.int (0 : Int32))] [(.int (0 : Int32))])) _
      refine XS.lloadN X0.here hx rfl (hb hby d2_28) rfl ?_
      show Steps p.tables e below (s₁.setTop (mkF m 29 #[.val (.long v), .second, .val (.long (-v)), .second, .val (.int (0 : Int32))] [(.long (-v)), (.int (0 : Int32))])) _
      refine st5 _ ?_
      show Steps p.tables e below (T5.setTop (mkF m 32 #[.val (.long v), .second, .val (.long (-v)), .second, .val (.int (0 : Int32))] [(.int (cnt (-(-v).toInt))), (.int (0 : Int32))])) _
      refine XS.iadd X5.here hx rfl (hb hby d2_32) rfl ?_
      exact kt
    obtain ⟨fs, hr, hrun, hended, hW, hsame⟩ := X5.leave (v := some (.int ((0 : Int32) + (cnt (-(-v).toInt))))) (fun h => by rw [Bd.returns] at h; cases h)
    refine ⟨_, _, pre6 _ ?_, hrun, hended, _, _, rfl, ?_, ⟨_, rfl⟩, hW, hsame.mono (by decide) (by decide)⟩
    · show Steps p.tables e below (T5.setTop (mkF m 33 #[.val (.long v), .second, .val (.long (-v)), .second, .val (.int (0 : Int32))] [(.int ((0 : Int32) + (cnt (-(-v).toInt))))])) _
      exact retI X5 hx Bd.returns (hb hby d2_33) hr
    · show Q1 Z (.int (expF v)) h0 n0 _ T5.heap _
      rw [e5]
      exact ⟨by simp only [expF, hc3_2, if_true, if_false], N5, rfl⟩
theorem d3_0 : decode prog_75_method_2_code 0 = .ok (.lload_n 0, 1) := by decide +kernel
theorem d3_1 : decode prog_75_method_2_code 1 = .ok (.lconst 0, 1) := by decide +kernel
theorem d3_2 : decode prog_75_method_2_code 2 = .ok (.lcmp, 1) := by decide +kernel
theorem d3_3 : decode prog_75_method_2_code 3 = .ok (.ifCond .ge 27, 3) := by decide +kernel
theorem d3_30 : decode prog_75_method_2_code 30 = .ok (.iconst 1, 1) := by decide +kernel
theorem d3_31 : decode prog_75_method_2_code 31 = .ok (.istore_n 2, 1) := by decide +kernel
theorem d3_32 : decode prog_75_method_2_code 32 = .ok (.getstatic 15, 3) := by decide +kernel
theorem d3_35 : decode prog_75_method_2_code 35 = .ok (.arraylength, 1) := by decide +kernel
theorem d3_36 : decode prog_75_method_2_code 36 = .ok (.istore_n 3, 1) := by decide +kernel
theorem d3_37 : decode prog_75_method_2_code 37 = .ok (.iload_n 2, 1) := by decide +kernel
theorem d3_38 : decode prog_75_method_2_code 38 = .ok (.iload_n 3, 1) := by decide +kernel
theorem d3_39 : decode prog_75_method_2_code 39 = .ok (.if_icmp .ge 35, 3) := by decide +kernel
theorem d3_42 : decode prog_75_method_2_code 42 = .ok (.iload_n 2, 1) := by decide +kernel
theorem d3_43 : decode prog_75_method_2_code 43 = .ok (.iload_n 3, 1) := by decide +kernel
theorem d3_44 : decode prog_75_method_2_code 44 = .ok (.iadd, 1) := by decide +kernel
theorem d3_45 : decode prog_75_method_2_code 45 = .ok (.iconst 1, 1) := by decide +kernel
theorem d3_46 : decode prog_75_method_2_code 46 = .ok (.iushr, 1) := by decide +kernel
theorem d3_47 : decode prog_75_method_2_code 47 = .ok (.istore 4, 2) := by decide +kernel
theorem d3_49 : decode prog_75_method_2_code 49 = .ok (.lload_n 0, 1) := by decide +kernel
theorem d3_50 : decode prog_75_method_2_code 50 = .ok (.getstatic 15, 3) := by decide +kernel
theorem d3_53 : decode prog_75_method_2_code 53 = .ok (.iload 4, 2) := by decide +kernel
theorem d3_55 : decode prog_75_method_2_code 55 = .ok (.laload, 1) := by decide +kernel
theorem d3_56 : decode prog_75_method_2_code 56 = .ok (.lcmp, 1) := by decide +kernel
theorem d3_57 : decode prog_75_method_2_code 57 = .ok (.ifCond .lt 11, 3) := by decide +kernel
theorem d3_60 : decode prog_75_method_2_code 60 = .ok (.iload 4, 2) := by decide +kernel
theorem d3_62 : decode prog_75_method_2_code 62 = .ok (.iconst 1, 1) := by decide +kernel
theorem d3_63 : decode prog_75_method_2_code 63 = .ok (.iadd, 1) := by decide +kernel
theorem d3_64 : decode prog_75_method_2_code 64 = .ok (.istore_n 2, 1) := by decide +kernel
theorem d3_65 : decode prog_75_method_2_code 65 = .ok (.goto 6, 3) := by decide +kernel
theorem d3_68 : decode prog_75_method_2_code 68 = .ok (.iload 4, 2) := by decide +kernel
theorem d3_70 : decode prog_75_method_2_code 70 = .ok (.istore_n 3, 1) := by decide +kernel
theorem d3_71 : decode prog_75_method_2_code 71 = .ok (.goto (-34), 3) := by decide +kernel
theorem d3_74 : decode prog_75_method_2_code 74 = .ok (.iload_n 2, 1) := by decide +kernel
theorem d3_75 : decode prog_75_method_2_code 75 = .ok (.ireturn, 1) := by decide +kernel
theorem pn3 : plainName "crestline/WholeDigits" = true := by first | (simp [plainName, overriddenIn]; done) | decide +kernel
theorem ef3 (m : MethodId) (x0 : Int64) : entryFrame m #[(.long x0)] 5 = mkF m 0 #[.val (.long x0), .second, .unset, .unset, .unset] [] := by first | (simp [entryFrame, mkF, argsToLocals, Value.category]; done) | rfl
set_option maxRecDepth 65536 in
set_option maxHeartbeats 40000000 in
theorem rm3 (l : Launch) (Z : State) (a0 : Array Value) (hw : ∀ d ∈ tables_1, d.before a0 Z = true) (ws : List Jvm.Cond) (v : Int64) (pa : Addr) (cl : Cell) (h0 : Heap) (n0 : Nat) (Z0 : n0 ≤ h0.size) (S_P : Sta Z h0 "crestline/WholeDigits" "POWERS_OF_TEN" "[J" (.ref pa)) (Ar : Arr Z h0 pa cl .long) (hlen : cl.slots.size.toInt32 = 19) (El1 : ElJ cl 1 10) (El2 : ElJ cl 2 100) (El3 : ElJ cl 3 1000) (El4 : ElJ cl 4 10000) (El5 : ElJ cl 5 100000) (El6 : ElJ cl 6 1000000) (El7 : ElJ cl 7 10000000) (El8 : ElJ cl 8 100000000) (El9 : ElJ cl 9 1000000000) (El10 : ElJ cl 10 10000000000) (El11 : ElJ cl 11 100000000000) (El12 : ElJ cl 12 1000000000000) (El13 : ElJ cl 13 10000000000000) (El14 : ElJ cl 14 100000000000000) (El15 : ElJ cl 15 1000000000000000) (El16 : ElJ cl 16 10000000000000000) (El17 : ElJ cl 17 100000000000000000) (El18 : ElJ cl 18 1000000000000000000) (hpos : ¬ v < (0 : Int64)) :
    MetFree l (⟨"crestline/WholeDigits", "count", "(J)I"⟩ : MethodName) (head1 (Jvm.Cond.code (⟨"crestline/WholeDigits", "count", "(J)I"⟩ : MethodName) prog_75_method_2_code 5 (some .int) :: ws) ({ frames := 0, cells := 0, slots := 0, locals := 0 } : Room)) (fun aa_ U => aa_ = #[(.long v)] ∧ Z.Warmed39 U.vm ∧ U.heap = h0) (fun _ _ _ _ _ => True) (fun _ U o U' => ∃ vv_ LL_, o = .returned vv_ ∧ Q1 Z (.int (cnt v.toInt)) h0 n0 vv_ U'.heap LL_ ∧ FrameEnd U o U' LL_ ({ frames := 0, cells := 0, slots := 0, locals := 0 } : Room).cells ({ frames := 0, cells := 0, slots := 0, locals := 0 } : Room).slots) := by
  refine MetFree.of_bodySF (plainFor_of_name pn3) hisR ?_
  intro p e s m args below meth c s₁ Bd hml0 hP hK
  obtain ⟨rfl, hZ, hh⟩ := hP
  have hx := Bd.exec
  have hby := Bd.bytes
  have hml : c.maxLocals = 5 := hml0
  have hown : s.vm.findClass "crestline/WholeDigits" = some m.cls := findClass_of_methodNamed Bd.named
  have hnm := (name_of_methodNamed Bd.named Bd.method).1
  have X0 : Stand p l e ({ frames := 0, cells := 0, slots := 0, locals := 0 } : Room) s m #[(.long v)] below meth c s₁ [] 0 0 := Stand.of_body Bd
  have e0 : s₁.heap = h0 := by rw [← hh, Bd.state]; rfl
  have N0 := Fr.nil n0
  have pre0 : ∀ t, Steps p.tables e below (s₁.setTop (mkF m 0 #[.val (.long v), .second, .unset, .unset, .unset] [])) t → Steps p.tables e below (s₁.setTop (entryFrame m #[(.long v)] 5)) t := fun t kt => castTop (ef3 m v) kt
  obtain ⟨T1, X1, e1, st1⟩ := getS2 X0 hx hZ hown (host := "") (Or.inl (hw _ (List.mem_of_getElem? (i := 4) rfl))) Via.refl e0 S_P (g := (mkF m 32 #[.val (.long v), .second, .val (.int (1 : Int32)), .unset, .unset] [])) rfl (hb hby d3_32)
  obtain ⟨T2, X2, e2, st2⟩ := getS2 X1 hx hZ hown (host := "") (Or.inl (hw _ (List.mem_of_getElem? (i := 4) rfl))) Via.refl e1 S_P (g := (mkF m 50 #[.val (.long v), .second, .val (.int (1 : Int32)), .val (.int (19 : Int32)), .val (.int (10 : Int32))] [(.long v)])) rfl (hb hby d3_50)
  have pre3 : ∀ t, Steps p.tables e below (T2.setTop (mkF m 57 #[.val (.long v), .second, .val (.int (1 : Int32)), .val (.int (19 : Int32)), .val (.int (10 : Int32))] [(.int (XT.cmpL v (10000000000 : Int64)))])) t → Steps p.tables e below (s₁.setTop (entryFrame m #[(.long v)] 5)) t := by
    intro t kt
    refine pre0 _ ?_
    show Steps p.tables e below (s₁.setTop (mkF m 0 #[.val (.long v), .second, .unset, .unset, .unset] [])) _
    refine XS.lloadN X0.here hx rfl (hb hby d3_0) rfl ?_
    show Steps p.tables e below (s₁.setTop (mkF m 1 #[.val (.long v), .second, .unset, .unset, .unset] [(.long v)])) _
    refine XS.lconst X0.here hx rfl (hb hby d3_1) ?_
    show Steps p.tables e below (s₁.setTop (mkF m 2 #[.val (.long v), .second, .unset, .unset, .unset] [(.long (0 : Int64)), (.long v)])) _
    refine XT.lcmp X0.here hx rfl (hb hby d3_2) rfl ?_
    show Steps p.tables e below (s₁.setTop (mkF m 3 #[.val (.long v), .second, .unset, .unset, .unset] [(.int (XT.cmpL v (0 : Int64)))])) _
    refine XS.ifYes X0.here hx rfl (pc0 := 3) (pc' := 30) rfl (hb hby d3_3) rfl (XT.ll_ge_t hpos) (by decide) (by decide) ?_
    show Steps p.tables e below (s₁.setTop (mkF m 30 #[.val (.long v), .second, .unset, .unset, .unset] [])) _
    refine XS.iconst X0.here hx rfl (hb hby d3_30) ?_
    show Steps p.tables e below (s₁.setTop (mkF m 31 #[.val (.long v), .second, .unset, .unset, .unset] [(.int (1 : Int32))])) _
    refine XS.istoreN X0.here hx rfl (hb hby d3_31) rfl (l' := #[.val (.long v), .second, .val (.int (1 : Int32)), .unset, .unset]) rfl ?_
    show Steps p.tables e below (s₁.setTop (mkF m 32 #[.val (.long v), .second, .val (.int (1 : Int32)), .unset, .unset] [])) _
    refine st1 _ ?_
    show Steps p.tables e below (T1.setTop (mkF m 35 #[.val (.long v), .second, .val (.int (1 : Int32)), .unset, .unset] [(.ref pa)])) _
    refine X1.arraylength hx (by rw [e1]; exact Ar.1) (State.isArrayOf_alike hZ.alike Ar.2.1) (g := (mkF m 35 #[.val (.long v), .second, .val (.int (1 : Int32)), .unset, .unset] [(.ref pa)])) rfl rfl (hb hby d3_35) _ ?_
    rw [hlen]
    show Steps p.tables e below (T1.setTop (mkF m 36 #[.val (.long v), .second, .val (.int (1 : Int32)), .unset, .unset] [(.int (19 : Int32))])) _
    refine XS.istoreN X1.here hx rfl (hb hby d3_36) rfl (l' := #[.val (.long v), .second, .val (.int (1 : Int32)), .val (.int (19 : Int32)), .unset]) rfl ?_
    show Steps p.tables e below (T1.setTop (mkF m 37 #[.val (.long v), .second, .val (.int (1 : Int32)), .val (.int (19 : Int32)), .unset] [])) _
    refine XS.iloadN X1.here hx rfl (hb hby d3_37) rfl ?_
    show Steps p.tables e below (T1.setTop (mkF m 38 #[.val (.long v), .second, .val (.int (1 : Int32)), .val (.int (19 : Int32)), .unset] [(.int (1 : Int32))])) _
    refine XS.iloadN X1.here hx rfl (hb hby d3_38) rfl ?_
    show Steps p.tables e below (T1.setTop (mkF m 39 #[.val (.long v), .second, .val (.int (1 : Int32)), .val (.int (19 : Int32)), .unset] [(.int (19 : Int32)), (.int (1 : Int32))])) _
    refine XS.icmpNo X1.here hx rfl (hb hby d3_39) rfl (XT.ii_ge_f (by decide)) ?_
    show Steps p.tables e below (T1.setTop (mkF m 42 #[.val (.long v), .second, .val (.int (1 : Int32)), .val (.int (19 : Int32)), .unset] [])) _
    refine XS.iloadN X1.here hx rfl (hb hby d3_42) rfl ?_
    show Steps p.tables e below (T1.setTop (mkF m 43 #[.val (.long v), .second, .val (.int (1 : Int32)), .val (.int (19 : Int32)), .unset] [(.int (1 : Int32))])) _
    refine XS.iloadN X1.here hx rfl (hb hby d3_43) rfl ?_
    show Steps p.tables e below (T1.setTop (mkF m 44 #[.val (.long v), .second, .val (.int (1 : Int32)), .val (.int (19 : Int32)), .unset] [(.int (19 : Int32)), (.int (1 : Int32))])) _
    refine XS.iadd X1.here hx rfl (hb hby d3_44) rfl ?_
    rw [show ((1 : Int32) + (19 : Int32)) = (20 : Int32) from rfl]
    show Steps p.tables e below (T1.setTop (mkF m 45 #[.val (.long v), .second, .val (.int (1 : Int32)), .val (.int (19 : Int32)), .unset] [(.int (20 : Int32))])) _
    refine XS.iconst X1.here hx rfl (hb hby d3_45) ?_
    show Steps p.tables e below (T1.setTop (mkF m 46 #[.val (.long v), .second, .val (.int (1 : Int32)), .val (.int (19 : Int32)), .unset] [(.int (1 : Int32)), (.int (20 : Int32))])) _
    refine XT.iushr X1.here hx rfl (hb hby d3_46) rfl ?_
    rw [show XT.ushr (20 : Int32) (1 : Int32) = (10 : Int32) from by decide]
    show Steps p.tables e below (T1.setTop (mkF m 47 #[.val (.long v), .second, .val (.int (1 : Int32)), .val (.int (19 : Int32)), .unset] [(.int (10 : Int32))])) _
    refine XS.istore X1.here hx rfl (hb hby d3_47) rfl (l' := #[.val (.long v), .second, .val (.int (1 : Int32)), .val (.int (19 : Int32)), .val (.int (10 : Int32))]) rfl ?_
    show Steps p.tables e below (T1.setTop (mkF m 49 #[.val (.long v), .second, .val (.int (1 : Int32)), .val (.int (19 : Int32)), .val (.int (10 : Int32))] [])) _
    refine XS.lloadN X1.here hx rfl (hb hby d3_49) rfl ?_
    show Steps p.tables e below (T1.setTop (mkF m 50 #[.val (.long v), .second, .val (.int (1 : Int32)), .val (.int (19 : Int32)), .val (.int (10 : Int32))] [(.long v)])) _
    refine st2 _ ?_
    show Steps p.tables e below (T2.setTop (mkF m 53 #[.val (.long v), .second, .val (.int (1 : Int32)), .val (.int (19 : Int32)), .val (.int (10 : Int32))] [(.ref pa), (.long v)])) _
    refine XS.iload X2.here hx rfl (hb hby d3_53) rfl ?_
    show Steps p.tables e below (T2.setTop (mkF m 55 #[.val (.long v), .second, .val (.int (1 : Int32)), .val (.int (19 : Int32)), .val (.int (10 : Int32))] [(.int (10 : Int32)), (.ref pa), (.long v)])) _
    refine X2.laload hx (j := (10 : Int32)) (v := (.long (10000000000 : Int64))) (by rw [e2]; exact Ar.1) (State.isArrayOf_alike hZ.alike Ar.2.1) Ar.2.2 El10.1 El10.2 (g := (mkF m 55 #[.val (.long v), .second, .val (.int (1 : Int32)), .val (.int (19 : Int32)), .val (.int (10 : Int32))] [(.int (10 : Int32)), (.ref pa), (.long v)])) rfl rfl (hb hby d3_55) _ ?_
    show Steps p.tables e below (T2.setTop (mkF m 56 #[.val (.long v), .second, .val (.int (1 : Int32)), .val (.int (19 : Int32)), .val (.int (10 : Int32))] [(.long (10000000000 : Int64)), (.long v)])) _
    refine XT.lcmp X2.here hx rfl (hb hby d3_56) rfl ?_
    exact kt
  by_cases hc57_4 : v < (10000000000 : Int64)
  · obtain ⟨T5, X5, e5, st5⟩ := getS2 X2 hx hZ hown (host := "") (Or.inl (hw _ (List.mem_of_getElem? (i := 4) rfl))) Via.refl e2 S_P (g := (mkF m 50 #[.val (.long v), .second, .val (.int (1 : Int32)), .val (.int (10 : Int32)), .val (.int (5 : Int32))] [(.long v)])) rfl (hb hby d3_50)
    have pre6 : ∀ t, Steps p.tables e below (T5.setTop (mkF m 57 #[.val (.long v), .second, .val (.int (1 : Int32)), .val (.int (10 : Int32)), .val (.int (5 : Int32))] [(.int (XT.cmpL v (100000 : Int64)))])) t → Steps p.tables e below (s₁.setTop (entryFrame m #[(.long v)] 5)) t := by
      intro t kt
      refine pre3 _ ?_
      show Steps p.tables e below (T2.setTop (mkF m 57 #[.val (.long v), .second, .val (.int (1 : Int32)), .val (.int (19 : Int32)), .val (.int (10 : Int32))] [(.int (XT.cmpL v (10000000000 : Int64)))])) _
      refine XS.ifYes X2.here hx rfl (pc0 := 57) (pc' := 68) rfl (hb hby d3_57) rfl (XT.ll_lt_t hc57_4) (by decide) (by decide) ?_
      show Steps p.tables e below (T2.setTop (mkF m 68 #[.val (.long v), .second, .val (.int (1 : Int32)), .val (.int (19 : Int32)), .val (.int (10 : Int32))] [])) _
      refine XS.iload X2.here hx rfl (hb hby d3_68) rfl ?_
      show Steps p.tables e below (T2.setTop (mkF m 70 #[.val (.long v), .second, .val (.int (1 : Int32)), .val (.int (19 : Int32)), .val (.int (10 : Int32))] [(.int (10 : Int32))])) _
      refine XS.istoreN X2.here hx rfl (hb hby d3_70) rfl (l' := #[.val (.long v), .second, .val (.int (1 : Int32)), .val (.int (10 : Int32)), .val (.int (10 : Int32))]) rfl ?_
      show Steps p.tables e below (T2.setTop (mkF m 71 #[.val (.long v), .second, .val (.int (1 : Int32)), .val (.int (10 : Int32)), .val (.int (10 : Int32))] [])) _
      refine XS.goto X2.here hx rfl (pc0 := 71) (pc' := 37) rfl (hb hby d3_71) (by decide) (by decide) ?_
      show Steps p.tables e below (T2.setTop (mkF m 37 #[.val (.long v), .second, .val (.int (1 : Int32)), .val (.int (10 : Int32)), .val (.int (10 : Int32))] [])) _
      refine XS.iloadN X2.here hx rfl (hb hby d3_37) rfl ?_
      show Steps p.tables e below (T2.setTop (mkF m 38 #[.val (.long v), .second, .val (.int (1 : Int32)), .val (.int (10 : Int32)), .val (.int (10 : Int32))] [(.int (1 : Int32))])) _
      refine XS.iloadN X2.here hx rfl (hb hby d3_38) rfl ?_
      show Steps p.tables e below (T2.setTop (mkF m 39 #[.val (.long v), .second, .val (.int (1 : Int32)), .val (.int (10 : Int32)), .val (.int (10 : Int32))] [(.int (10 : Int32)), (.int (1 : Int32))])) _
      refine XS.icmpNo X2.here hx rfl (hb hby d3_39) rfl (XT.ii_ge_f (by decide)) ?_
      show Steps p.tables e below (T2.setTop (mkF m 42 #[.val (.long v), .second, .val (.int (1 : Int32)), .val (.int (10 : Int32)), .val (.int (10 : Int32))] [])) _
      refine XS.iloadN X2.here hx rfl (hb hby d3_42) rfl ?_
      show Steps p.tables e below (T2.setTop (mkF m 43 #[.val (.long v), .second, .val (.int (1 : Int32)), .val (.int (10 : Int32)), .val (.int (10 : Int32))] [(.int (1 : Int32))])) _
      refine XS.iloadN X2.here hx rfl (hb hby d3_43) rfl ?_
      show Steps p.tables e below (T2.setTop (mkF m 44 #[.val (.long v), .second, .val (.int (1 : Int32)), .val (.int (10 : Int32)), .val (.int (10 : Int32))] [(.int (10 : Int32)), (.int (1 : Int32))])) _
      refine XS.iadd X2.here hx rfl (hb hby d3_44) rfl ?_
      rw [show ((1 : Int32) + (10 : Int32)) = (11 : Int32) from rfl]
      show Steps p.tables e below (T2.setTop (mkF m 45 #[.val (.long v), .second, .val (.int (1 : Int32)), .val (.int (10 : Int32)), .val (.int (10 : Int32))] [(.int (11 : Int32))])) _
      refine XS.iconst X2.here hx rfl (hb hby d3_45) ?_
      show Steps p.tables e below (T2.setTop (mkF m 46 #[.val (.long v), .second, .val (.int (1 : Int32)), .val (.int (10 : Int32)), .val (.int (10 : Int32))] [(.int (1 : Int32)), (.int (11 : Int32))])) _
      refine XT.iushr X2.here hx rfl (hb hby d3_46) rfl ?_
      rw [show XT.ushr (11 : Int32) (1 : Int32) = (5 : Int32) from by decide]
      show Steps p.tables e below (T2.setTop (mkF m 47 #[.val (.long v), .second, .val (.int (1 : Int32)), .val (.int (10 : Int32)), .val (.int (10 : Int32))] [(.int (5 : Int32))])) _
      refine XS.istore X2.here hx rfl (hb hby d3_47) rfl (l' := #[.val (.long v), .second, .val (.int (1 : Int32)), .val (.int (10 : Int32)), .val (.int (5 : Int32))]) rfl ?_
      show Steps p.tables e below (T2.setTop (mkF m 49 #[.val (.long v), .second, .val (.int (1 : Int32)), .val (.int (10 : Int32)), .val (.int (5 : Int32))] [])) _
      refine XS.lloadN X2.here hx rfl (hb hby d3_49) rfl ?_
      show Steps p.tables e below (T2.setTop (mkF m 50 #[.val (.long v), .second, .val (.int (1 : Int32)), .val (.int (10 : Int32)), .val (.int (5 : Int32))] [(.long v)])) _
      refine st5 _ ?_
      show Steps p.tables e below (T5.setTop (mkF m 53 #[.val (.long v), .second, .val (.int (1 : Int32)), .val (.int (10 : Int32)), .val (.int (5 : Int32))] [(.ref pa), (.long v)])) _
      refine XS.iload X5.here hx rfl (hb hby d3_53) rfl ?_
      show Steps p.tables e below (T5.setTop (mkF m 55 #[.val (.long v), .second, .val (.int (1 : Int32)), .val (.int (10 : Int32)), .val (.int (5 : Int32))] [(.int (5 : Int32)), (.ref pa), (.long v)])) _
      refine X5.laload hx (j := (5 : Int32)) (v := (.long (100000 : Int64))) (by rw [e5]; exact Ar.1) (State.isArrayOf_alike hZ.alike Ar.2.1) Ar.2.2 El5.1 El5.2 (g := (mkF m 55 #[.val (.long v), .second, .val (.int (1 : Int32)), .val (.int (10 : Int32)), .val (.int (5 : Int32))] [(.int (5 : Int32)), (.ref pa), (.long v)])) rfl rfl (hb hby d3_55) _ ?_
      show Steps p.tables e below (T5.setTop (mkF m 56 #[.val (.long v), .second, .val (.int (1 : Int32)), .val (.int (10 : Int32)), .val (.int (5 : Int32))] [(.long (100000 : Int64)), (.long v)])) _
      refine XT.lcmp X5.here hx rfl (hb hby d3_56) rfl ?_
      exact kt
    by_cases hc57_7 : v < (100000 : Int64)
    · obtain ⟨T8, X8, e8, st8⟩ := getS2 X5 hx hZ hown (host := "") (Or.inl (hw _ (List.mem_of_getElem? (i := 4) rfl))) Via.refl e5 S_P (g := (mkF m 50 #[.val (.long v), .second, .val (.int (1 : Int32)), .val (.int (5 : Int32)), .val (.int (3 : Int32))] [(.long v)])) rfl (hb hby d3_50)
      have pre9 : ∀ t, Steps p.tables e below (T8.setTop (mkF m 57 #[.val (.long v), .second, .val (.int (1 : Int32)), .val (.int (5 : Int32)), .val (.int (3 : Int32))] [(.int (XT.cmpL v (1000 : Int64)))])) t → Steps p.tables e below (s₁.setTop (entryFrame m #[(.long v)] 5)) t := by
        intro t kt
        refine pre6 _ ?_
        show Steps p.tables e below (T5.setTop (mkF m 57 #[.val (.long v), .second, .val (.int (1 : Int32)), .val (.int (10 : Int32)), .val (.int (5 : Int32))] [(.int (XT.cmpL v (100000 : Int64)))])) _
        refine XS.ifYes X5.here hx rfl (pc0 := 57) (pc' := 68) rfl (hb hby d3_57) rfl (XT.ll_lt_t hc57_7) (by decide) (by decide) ?_
        show Steps p.tables e below (T5.setTop (mkF m 68 #[.val (.long v), .second, .val (.int (1 : Int32)), .val (.int (10 : Int32)), .val (.int (5 : Int32))] [])) _
        refine XS.iload X5.here hx rfl (hb hby d3_68) rfl ?_
        show Steps p.tables e below (T5.setTop (mkF m 70 #[.val (.long v), .second, .val (.int (1 : Int32)), .val (.int (10 : Int32)), .val (.int (5 : Int32))] [(.int (5 : Int32))])) _
        refine XS.istoreN X5.here hx rfl (hb hby d3_70) rfl (l' := #[.val (.long v), .second, .val (.int (1 : Int32)), .val (.int (5 : Int32)), .val (.int (5 : Int32))]) rfl ?_
        show Steps p.tables e below (T5.setTop (mkF m 71 #[.val (.long v), .second, .val (.int (1 : Int32)), .val (.int (5 : Int32)), .val (.int (5 : Int32))] [])) _
        refine XS.goto X5.here hx rfl (pc0 := 71) (pc' := 37) rfl (hb hby d3_71) (by decide) (by decide) ?_
        show Steps p.tables e below (T5.setTop (mkF m 37 #[.val (.long v), .second, .val (.int (1 : Int32)), .val (.int (5 : Int32)), .val (.int (5 : Int32))] [])) _
        refine XS.iloadN X5.here hx rfl (hb hby d3_37) rfl ?_
        show Steps p.tables e below (T5.setTop (mkF m 38 #[.val (.long v), .second, .val (.int (1 : Int32)), .val (.int (5 : Int32)), .val (.int (5 : Int32))] [(.int (1 : Int32))])) _
        refine XS.iloadN X5.here hx rfl (hb hby d3_38) rfl ?_
        show Steps p.tables e below (T5.setTop (mkF m 39 #[.val (.long v), .second, .val (.int (1 : Int32)), .val (.int (5 : Int32)), .val (.int (5 : Int32))] [(.int (5 : Int32)), (.int (1 : Int32))])) _
        refine XS.icmpNo X5.here hx rfl (hb hby d3_39) rfl (XT.ii_ge_f (by decide)) ?_
        show Steps p.tables e below (T5.setTop (mkF m 42 #[.val (.long v), .second, .val (.int (1 : Int32)), .val (.int (5 : Int32)), .val (.int (5 : Int32))] [])) _
        refine XS.iloadN X5.here hx rfl (hb hby d3_42) rfl ?_
        show Steps p.tables e below (T5.setTop (mkF m 43 #[.val (.long v), .second, .val (.int (1 : Int32)), .val (.int (5 : Int32)), .val (.int (5 : Int32))] [(.int (1 : Int32))])) _
        refine XS.iloadN X5.here hx rfl (hb hby d3_43) rfl ?_
        show Steps p.tables e below (T5.setTop (mkF m 44 #[.val (.long v), .second, .val (.int (1 : Int32)), .val (.int (5 : Int32)), .val (.int (5 : Int32))] [(.int (5 : Int32)), (.int (1 : Int32))])) _
        refine XS.iadd X5.here hx rfl (hb hby d3_44) rfl ?_
        rw [show ((1 : Int32) + (5 : Int32)) = (6 : Int32) from rfl]
        show Steps p.tables e below (T5.setTop (mkF m 45 #[.val (.long v), .second, .val (.int (1 : Int32)), .val (.int (5 : Int32)), .val (.int (5 : Int32))] [(.int (6 : Int32))])) _
        refine XS.iconst X5.here hx rfl (hb hby d3_45) ?_
        show Steps p.tables e below (T5.setTop (mkF m 46 #[.val (.long v), .second, .val (.int (1 : Int32)), .val (.int (5 : Int32)), .val (.int (5 : Int32))] [(.int (1 : Int32)), (.int (6 : Int32))])) _
        refine XT.iushr X5.here hx rfl (hb hby d3_46) rfl ?_
        rw [show XT.ushr (6 : Int32) (1 : Int32) = (3 : Int32) from by decide]
        show Steps p.tables e below (T5.setTop (mkF m 47 #[.val (.long v), .second, .val (.int (1 : Int32)), .val (.int (5 : Int32)), .val (.int (5 : Int32))] [(.int (3 : Int32))])) _
        refine XS.istore X5.here hx rfl (hb hby d3_47) rfl (l' := #[.val (.long v), .second, .val (.int (1 : Int32)), .val (.int (5 : Int32)), .val (.int (3 : Int32))]) rfl ?_
        show Steps p.tables e below (T5.setTop (mkF m 49 #[.val (.long v), .second, .val (.int (1 : Int32)), .val (.int (5 : Int32)), .val (.int (3 : Int32))] [])) _
        refine XS.lloadN X5.here hx rfl (hb hby d3_49) rfl ?_
        show Steps p.tables e below (T5.setTop (mkF m 50 #[.val (.long v), .second, .val (.int (1 : Int32)), .val (.int (5 : Int32)), .val (.int (3 : Int32))] [(.long v)])) _
        refine st8 _ ?_
        show Steps p.tables e below (T8.setTop (mkF m 53 #[.val (.long v), .second, .val (.int (1 : Int32)), .val (.int (5 : Int32)), .val (.int (3 : Int32))] [(.ref pa), (.long v)])) _
        refine XS.iload X8.here hx rfl (hb hby d3_53) rfl ?_
        show Steps p.tables e below (T8.setTop (mkF m 55 #[.val (.long v), .second, .val (.int (1 : Int32)), .val (.int (5 : Int32)), .val (.int (3 : Int32))] [(.int (3 : Int32)), (.ref pa), (.long v)])) _
        refine X8.laload hx (j := (3 : Int32)) (v := (.long (1000 : Int64))) (by rw [e8]; exact Ar.1) (State.isArrayOf_alike hZ.alike Ar.2.1) Ar.2.2 El3.1 El3.2 (g := (mkF m 55 #[.val (.long v), .second, .val (.int (1 : Int32)), .val (.int (5 : Int32)), .val (.int (3 : Int32))] [(.int (3 : Int32)), (.ref pa), (.long v)])) rfl rfl (hb hby d3_55) _ ?_
        show Steps p.tables e below (T8.setTop (mkF m 56 #[.val (.long v), .second, .val (.int (1 : Int32)), .val (.int (5 : Int32)), .val (.int (3 : Int32))] [(.long (1000 : Int64)), (.long v)])) _
        refine XT.lcmp X8.here hx rfl (hb hby d3_56) rfl ?_
        exact kt
      by_cases hc57_10 : v < (1000 : Int64)
      · obtain ⟨T11, X11, e11, st11⟩ := getS2 X8 hx hZ hown (host := "") (Or.inl (hw _ (List.mem_of_getElem? (i := 4) rfl))) Via.refl e8 S_P (g := (mkF m 50 #[.val (.long v), .second, .val (.int (1 : Int32)), .val (.int (3 : Int32)), .val (.int (2 : Int32))] [(.long v)])) rfl (hb hby d3_50)
        have pre12 : ∀ t, Steps p.tables e below (T11.setTop (mkF m 57 #[.val (.long v), .second, .val (.int (1 : Int32)), .val (.int (3 : Int32)), .val (.int (2 : Int32))] [(.int (XT.cmpL v (100 : Int64)))])) t → Steps p.tables e below (s₁.setTop (entryFrame m #[(.long v)] 5)) t := by
          intro t kt
          refine pre9 _ ?_
          show Steps p.tables e below (T8.setTop (mkF m 57 #[.val (.long v), .second, .val (.int (1 : Int32)), .val (.int (5 : Int32)), .val (.int (3 : Int32))] [(.int (XT.cmpL v (1000 : Int64)))])) _
          refine XS.ifYes X8.here hx rfl (pc0 := 57) (pc' := 68) rfl (hb hby d3_57) rfl (XT.ll_lt_t hc57_10) (by decide) (by decide) ?_
          show Steps p.tables e below (T8.setTop (mkF m 68 #[.val (.long v), .second, .val (.int (1 : Int32)), .val (.int (5 : Int32)), .val (.int (3 : Int32))] [])) _
          refine XS.iload X8.here hx rfl (hb hby d3_68) rfl ?_
          show Steps p.tables e below (T8.setTop (mkF m 70 #[.val (.long v), .second, .val (.int (1 : Int32)), .val (.int (5 : Int32)), .val (.int (3 : Int32))] [(.int (3 : Int32))])) _
          refine XS.istoreN X8.here hx rfl (hb hby d3_70) rfl (l' := #[.val (.long v), .second, .val (.int (1 : Int32)), .val (.int (3 : Int32)), .val (.int (3 : Int32))]) rfl ?_
          show Steps p.tables e below (T8.setTop (mkF m 71 #[.val (.long v), .second, .val (.int (1 : Int32)), .val (.int (3 : Int32)), .val (.int (3 : Int32))] [])) _
          refine XS.goto X8.here hx rfl (pc0 := 71) (pc' := 37) rfl (hb hby d3_71) (by decide) (by decide) ?_
          show Steps p.tables e below (T8.setTop (mkF m 37 #[.val (.long v), .second, .val (.int (1 : Int32)), .val (.int (3 : Int32)), .val (.int (3 : Int32))] [])) _
          refine XS.iloadN X8.here hx rfl (hb hby d3_37) rfl ?_
          show Steps p.tables e below (T8.setTop (mkF m 38 #[.val (.long v), .second, .val (.int (1 : Int32)), .val (.int (3 : Int32)), .val (.int (3 : Int32))] [(.int (1 : Int32))])) _
          refine XS.iloadN X8.here hx rfl (hb hby d3_38) rfl ?_
          show Steps p.tables e below (T8.setTop (mkF m 39 #[.val (.long v), .second, .val (.int (1 : Int32)), .val (.int (3 : Int32)), .val (.int (3 : Int32))] [(.int (3 : Int32)), (.int (1 : Int32))])) _
          refine XS.icmpNo X8.here hx rfl (hb hby d3_39) rfl (XT.ii_ge_f (by decide)) ?_
          show Steps p.tables e below (T8.setTop (mkF m 42 #[.val (.long v), .second, .val (.int (1 : Int32)), .val (.int (3 : Int32)), .val (.int (3 : Int32))] [])) _
          refine XS.iloadN X8.here hx rfl (hb hby d3_42) rfl ?_
          show Steps p.tables e below (T8.setTop (mkF m 43 #[.val (.long v), .second, .val (.int (1 : Int32)), .val (.int (3 : Int32)), .val (.int (3 : Int32))] [(.int (1 : Int32))])) _
          refine XS.iloadN X8.here hx rfl (hb hby d3_43) rfl ?_
          show Steps p.tables e below (T8.setTop (mkF m 44 #[.val (.long v), .second, .val (.int (1 : Int32)), .val (.int (3 : Int32)), .val (.int (3 : Int32))] [(.int (3 : Int32)), (.int (1 : Int32))])) _
          refine XS.iadd X8.here hx rfl (hb hby d3_44) rfl ?_
          rw [show ((1 : Int32) + (3 : Int32)) = (4 : Int32) from rfl]
          show Steps p.tables e below (T8.setTop (mkF m 45 #[.val (.long v), .second, .val (.int (1 : Int32)), .val (.int (3 : Int32)), .val (.int (3 : Int32))] [(.int (4 : Int32))])) _
          refine XS.iconst X8.here hx rfl (hb hby d3_45) ?_
          show Steps p.tables e below (T8.setTop (mkF m 46 #[.val (.long v), .second, .val (.int (1 : Int32)), .val (.int (3 : Int32)), .val (.int (3 : Int32))] [(.int (1 : Int32)), (.int (4 : Int32))])) _
          refine XT.iushr X8.here hx rfl (hb hby d3_46) rfl ?_
          rw [show XT.ushr (4 : Int32) (1 : Int32) = (2 : Int32) from by decide]
          show Steps p.tables e below (T8.setTop (mkF m 47 #[.val (.long v), .second, .val (.int (1 : Int32)), .val (.int (3 : Int32)), .val (.int (3 : Int32))] [(.int (2 : Int32))])) _
          refine XS.istore X8.here hx rfl (hb hby d3_47) rfl (l' := #[.val (.long v), .second, .val (.int (1 : Int32)), .val (.int (3 : Int32)), .val (.int (2 : Int32))]) rfl ?_
          show Steps p.tables e below (T8.setTop (mkF m 49 #[.val (.long v), .second, .val (.int (1 : Int32)), .val (.int (3 : Int32)), .val (.int (2 : Int32))] [])) _
          refine XS.lloadN X8.here hx rfl (hb hby d3_49) rfl ?_
          show Steps p.tables e below (T8.setTop (mkF m 50 #[.val (.long v), .second, .val (.int (1 : Int32)), .val (.int (3 : Int32)), .val (.int (2 : Int32))] [(.long v)])) _
          refine st11 _ ?_
          show Steps p.tables e below (T11.setTop (mkF m 53 #[.val (.long v), .second, .val (.int (1 : Int32)), .val (.int (3 : Int32)), .val (.int (2 : Int32))] [(.ref pa), (.long v)])) _
          refine XS.iload X11.here hx rfl (hb hby d3_53) rfl ?_
          show Steps p.tables e below (T11.setTop (mkF m 55 #[.val (.long v), .second, .val (.int (1 : Int32)), .val (.int (3 : Int32)), .val (.int (2 : Int32))] [(.int (2 : Int32)), (.ref pa), (.long v)])) _
          refine X11.laload hx (j := (2 : Int32)) (v := (.long (100 : Int64))) (by rw [e11]; exact Ar.1) (State.isArrayOf_alike hZ.alike Ar.2.1) Ar.2.2 El2.1 El2.2 (g := (mkF m 55 #[.val (.long v), .second, .val (.int (1 : Int32)), .val (.int (3 : Int32)), .val (.int (2 : Int32))] [(.int (2 : Int32)), (.ref pa), (.long v)])) rfl rfl (hb hby d3_55) _ ?_
          show Steps p.tables e below (T11.setTop (mkF m 56 #[.val (.long v), .second, .val (.int (1 : Int32)), .val (.int (3 : Int32)), .val (.int (2 : Int32))] [(.long (100 : Int64)), (.long v)])) _
          refine XT.lcmp X11.here hx rfl (hb hby d3_56) rfl ?_
          exact kt
        by_cases hc57_13 : v < (100 : Int64)
        · obtain ⟨T14, X14, e14, st14⟩ := getS2 X11 hx hZ hown (host := "") (Or.inl (hw _ (List.mem_of_getElem? (i := 4) rfl))) Via.refl e11 S_P (g := (mkF m 50 #[.val (.long v), .second, .val (.int (1 : Int32)), .val (.int (2 : Int32)), .val (.int (1 : Int32))] [(.long v)])) rfl (hb hby d3_50)
          have pre15 : ∀ t, Steps p.tables e below (T14.setTop (mkF m 57 #[.val (.long v), .second, .val (.int (1 : Int32)), .val (.int (2 : Int32)), .val (.int (1 : Int32))] [(.int (XT.cmpL v (10 : Int64)))])) t → Steps p.tables e below (s₁.setTop (entryFrame m #[(.long v)] 5)) t := by
            intro t kt
            refine pre12 _ ?_
            show Steps p.tables e below (T11.setTop (mkF m 57 #[.val (.long v), .second, .val (.int (1 : Int32)), .val (.int (3 : Int32)), .val (.int (2 : Int32))] [(.int (XT.cmpL v (100 : Int64)))])) _
            refine XS.ifYes X11.here hx rfl (pc0 := 57) (pc' := 68) rfl (hb hby d3_57) rfl (XT.ll_lt_t hc57_13) (by decide) (by decide) ?_
            show Steps p.tables e below (T11.setTop (mkF m 68 #[.val (.long v), .second, .val (.int (1 : Int32)), .val (.int (3 : Int32)), .val (.int (2 : Int32))] [])) _
            refine XS.iload X11.here hx rfl (hb hby d3_68) rfl ?_
            show Steps p.tables e below (T11.setTop (mkF m 70 #[.val (.long v), .second, .val (.int (1 : Int32)), .val (.int (3 : Int32)), .val (.int (2 : Int32))] [(.int (2 : Int32))])) _
            refine XS.istoreN X11.here hx rfl (hb hby d3_70) rfl (l' := #[.val (.long v), .second, .val (.int (1 : Int32)), .val (.int (2 : Int32)), .val (.int (2 : Int32))]) rfl ?_
            show Steps p.tables e below (T11.setTop (mkF m 71 #[.val (.long v), .second, .val (.int (1 : Int32)), .val (.int (2 : Int32)), .val (.int (2 : Int32))] [])) _
            refine XS.goto X11.here hx rfl (pc0 := 71) (pc' := 37) rfl (hb hby d3_71) (by decide) (by decide) ?_
            show Steps p.tables e below (T11.setTop (mkF m 37 #[.val (.long v), .second, .val (.int (1 : Int32)), .val (.int (2 : Int32)), .val (.int (2 : Int32))] [])) _
            refine XS.iloadN X11.here hx rfl (hb hby d3_37) rfl ?_
            show Steps p.tables e below (T11.setTop (mkF m 38 #[.val (.long v), .second, .val (.int (1 : Int32)), .val (.int (2 : Int32)), .val (.int (2 : Int32))] [(.int (1 : Int32))])) _
            refine XS.iloadN X11.here hx rfl (hb hby d3_38) rfl ?_
            show Steps p.tables e below (T11.setTop (mkF m 39 #[.val (.long v), .second, .val (.int (1 : Int32)), .val (.int (2 : Int32)), .val (.int (2 : Int32))] [(.int (2 : Int32)), (.int (1 : Int32))])) _
            refine XS.icmpNo X11.here hx rfl (hb hby d3_39) rfl (XT.ii_ge_f (by decide)) ?_
            show Steps p.tables e below (T11.setTop (mkF m 42 #[.val (.long v), .second, .val (.int (1 : Int32)), .val (.int (2 : Int32)), .val (.int (2 : Int32))] [])) _
            refine XS.iloadN X11.here hx rfl (hb hby d3_42) rfl ?_
            show Steps p.tables e below (T11.setTop (mkF m 43 #[.val (.long v), .second, .val (.int (1 : Int32)), .val (.int (2 : Int32)), .val (.int (2 : Int32))] [(.int (1 : Int32))])) _
            refine XS.iloadN X11.here hx rfl (hb hby d3_43) rfl ?_
            show Steps p.tables e below (T11.setTop (mkF m 44 #[.val (.long v), .second, .val (.int (1 : Int32)), .val (.int (2 : Int32)), .val (.int (2 : Int32))] [(.int (2 : Int32)), (.int (1 : Int32))])) _
            refine XS.iadd X11.here hx rfl (hb hby d3_44) rfl ?_
            rw [show ((1 : Int32) + (2 : Int32)) = (3 : Int32) from rfl]
            show Steps p.tables e below (T11.setTop (mkF m 45 #[.val (.long v), .second, .val (.int (1 : Int32)), .val (.int (2 : Int32)), .val (.int (2 : Int32))] [(.int (3 : Int32))])) _
            refine XS.iconst X11.here hx rfl (hb hby d3_45) ?_
            show Steps p.tables e below (T11.setTop (mkF m 46 #[.val (.long v), .second, .val (.int (1 : Int32)), .val (.int (2 : Int32)), .val (.int (2 : Int32))] [(.int (1 : Int32)), (.int (3 : Int32))])) _
            refine XT.iushr X11.here hx rfl (hb hby d3_46) rfl ?_
            rw [show XT.ushr (3 : Int32) (1 : Int32) = (1 : Int32) from by decide]
            show Steps p.tables e below (T11.setTop (mkF m 47 #[.val (.long v), .second, .val (.int (1 : Int32)), .val (.int (2 : Int32)), .val (.int (2 : Int32))] [(.int (1 : Int32))])) _
            refine XS.istore X11.here hx rfl (hb hby d3_47) rfl (l' := #[.val (.long v), .second, .val (.int (1 : Int32)), .val (.int (2 : Int32)), .val (.int (1 : Int32))]) rfl ?_
            show Steps p.tables e below (T11.setTop (mkF m 49 #[.val (.long v), .second, .val (.int (1 : Int32)), .val (.int (2 : Int32)), .val (.int (1 : Int32))] [])) _
            refine XS.lloadN X11.here hx rfl (hb hby d3_49) rfl ?_
            show Steps p.tables e below (T11.setTop (mkF m 50 #[.val (.long v), .second, .val (.int (1 : Int32)), .val (.int (2 : Int32)), .val (.int (1 : Int32))] [(.long v)])) _
            refine st14 _ ?_
            show Steps p.tables e below (T14.setTop (mkF m 53 #[.val (.long v), .second, .val (.int (1 : Int32)), .val (.int (2 : Int32)), .val (.int (1 : Int32))] [(.ref pa), (.long v)])) _
            refine XS.iload X14.here hx rfl (hb hby d3_53) rfl ?_
            show Steps p.tables e below (T14.setTop (mkF m 55 #[.val (.long v), .second, .val (.int (1 : Int32)), .val (.int (2 : Int32)), .val (.int (1 : Int32))] [(.int (1 : Int32)), (.ref pa), (.long v)])) _
            refine X14.laload hx (j := (1 : Int32)) (v := (.long (10 : Int64))) (by rw [e14]; exact Ar.1) (State.isArrayOf_alike hZ.alike Ar.2.1) Ar.2.2 El1.1 El1.2 (g := (mkF m 55 #[.val (.long v), .second, .val (.int (1 : Int32)), .val (.int (2 : Int32)), .val (.int (1 : Int32))] [(.int (1 : Int32)), (.ref pa), (.long v)])) rfl rfl (hb hby d3_55) _ ?_
            show Steps p.tables e below (T14.setTop (mkF m 56 #[.val (.long v), .second, .val (.int (1 : Int32)), .val (.int (2 : Int32)), .val (.int (1 : Int32))] [(.long (10 : Int64)), (.long v)])) _
            refine XT.lcmp X14.here hx rfl (hb hby d3_56) rfl ?_
            exact kt
          by_cases hc57_16 : v < (10 : Int64)
          · have pre17 : ∀ t, Steps p.tables e below (T14.setTop (mkF m 75 #[.val (.long v), .second, .val (.int (1 : Int32)), .val (.int (1 : Int32)), .val (.int (1 : Int32))] [(.int (1 : Int32))])) t → Steps p.tables e below (s₁.setTop (entryFrame m #[(.long v)] 5)) t := by
              intro t kt
              refine pre15 _ ?_
              show Steps p.tables e below (T14.setTop (mkF m 57 #[.val (.long v), .second, .val (.int (1 : Int32)), .val (.int (2 : Int32)), .val (.int (1 : Int32))] [(.int (XT.cmpL v (10 : Int64)))])) _
              refine XS.ifYes X14.here hx rfl (pc0 := 57) (pc' := 68) rfl (hb hby d3_57) rfl (XT.ll_lt_t hc57_16) (by decide) (by decide) ?_
              show Steps p.tables e below (T14.setTop (mkF m 68 #[.val (.long v), .second, .val (.int (1 : Int32)), .val (.int (2 : Int32)), .val (.int (1 : Int32))] [])) _
              refine XS.iload X14.here hx rfl (hb hby d3_68) rfl ?_
              show Steps p.tables e below (T14.setTop (mkF m 70 #[.val (.long v), .second, .val (.int (1 : Int32)), .val (.int (2 : Int32)), .val (.int (1 : Int32))] [(.int (1 : Int32))])) _
              refine XS.istoreN X14.here hx rfl (hb hby d3_70) rfl (l' := #[.val (.long v), .second, .val (.int (1 : Int32)), .val (.int (1 : Int32)), .val (.int (1 : Int32))]) rfl ?_
              show Steps p.tables e below (T14.setTop (mkF m 71 #[.val (.long v), .second, .val (.int (1 : Int32)), .val (.int (1 : Int32)), .val (.int (1 : Int32))] [])) _
              refine XS.goto X14.here hx rfl (pc0 := 71) (pc' := 37) rfl (hb hby d3_71) (by decide) (by decide) ?_
              show Steps p.tables e below (T14.setTop (mkF m 37 #[.val (.long v), .second, .val (.int (1 : Int32)), .val (.int (1 : Int32)), .val (.int (1 : Int32))] [])) _
              refine XS.iloadN X14.here hx rfl (hb hby d3_37) rfl ?_
              show Steps p.tables e below (T14.setTop (mkF m 38 #[.val (.long v), .second, .val (.int (1 : Int32)), .val (.int (1 : Int32)), .val (.int (1 : Int32))] [(.int (1 : Int32))])) _
              refine XS.iloadN X14.here hx rfl (hb hby d3_38) rfl ?_
              show Steps p.tables e below (T14.setTop (mkF m 39 #[.val (.long v), .second, .val (.int (1 : Int32)), .val (.int (1 : Int32)), .val (.int (1 : Int32))] [(.int (1 : Int32)), (.int (1 : Int32))])) _
              refine XS.icmpYes X14.here hx rfl (pc0 := 39) (pc' := 74) rfl (hb hby d3_39) rfl (XT.ii_ge_t (by decide)) (by decide) (by decide) ?_
              show Steps p.tables e below (T14.setTop (mkF m 74 #[.val (.long v), .second, .val (.int (1 : Int32)), .val (.int (1 : Int32)), .val (.int (1 : Int32))] [])) _
              refine XS.iloadN X14.here hx rfl (hb hby d3_74) rfl ?_
              exact kt
            obtain ⟨fs, hr, hrun, hended, hW, hsame⟩ := X14.leave (v := some (.int (1 : Int32))) (fun h => by rw [Bd.returns] at h; cases h)
            refine ⟨_, _, pre17 _ ?_, hrun, hended, _, _, rfl, ?_, ⟨_, rfl⟩, hW, hsame.mono (by decide) (by decide)⟩
            · show Steps p.tables e below (T14.setTop (mkF m 75 #[.val (.long v), .second, .val (.int (1 : Int32)), .val (.int (1 : Int32)), .val (.int (1 : Int32))] [(.int (1 : Int32))])) _
              exact retI X14 hx Bd.returns (hb hby d3_75) hr
            · show Q1 Z (.int (cnt v.toInt)) h0 n0 _ T14.heap _
              rw [e14]
              exact ⟨by rw [cnt_1 (own_lt hc57_16 rfl)], N0, rfl⟩
          · have pre18 : ∀ t, Steps p.tables e below (T14.setTop (mkF m 75 #[.val (.long v), .second, .val (.int (2 : Int32)), .val (.int (2 : Int32)), .val (.int (1 : Int32))] [(.int (2 : Int32))])) t → Steps p.tables e below (s₁.setTop (entryFrame m #[(.long v)] 5)) t := by
              intro t kt
              refine pre15 _ ?_
              show Steps p.tables e below (T14.setTop (mkF m 57 #[.val (.long v), .second, .val (.int (1 : Int32)), .val (.int (2 : Int32)), .val (.int (1 : Int32))] [(.int (XT.cmpL v (10 : Int64)))])) _
              refine XS.ifNo X14.here hx rfl (hb hby d3_57) rfl (XT.ll_lt_f hc57_16) ?_
              show Steps p.tables e below (T14.setTop (mkF m 60 #[.val (.long v), .second, .val (.int (1 : Int32)), .val (.int (2 : Int32)), .val (.int (1 : Int32))] [])) _
              refine XS.iload X14.here hx rfl (hb hby d3_60) rfl ?_
              show Steps p.tables e below (T14.setTop (mkF m 62 #[.val (.long v), .second, .val (.int (1 : Int32)), .val (.int (2 : Int32)), .val (.int (1 : Int32))] [(.int (1 : Int32))])) _
              refine XS.iconst X14.here hx rfl (hb hby d3_62) ?_
              show Steps p.tables e below (T14.setTop (mkF m 63 #[.val (.long v), .second, .val (.int (1 : Int32)), .val (.int (2 : Int32)), .val (.int (1 : Int32))] [(.int (1 : Int32)), (.int (1 : Int32))])) _
              refine XS.iadd X14.here hx rfl (hb hby d3_63) rfl ?_
              rw [show ((1 : Int32) + (1 : Int32)) = (2 : Int32) from rfl]
              show Steps p.tables e below (T14.setTop (mkF m 64 #[.val (.long v), .second, .val (.int (1 : Int32)), .val (.int (2 : Int32)), .val (.int (1 : Int32))] [(.int (2 : Int32))])) _
              refine XS.istoreN X14.here hx rfl (hb hby d3_64) rfl (l' := #[.val (.long v), .second, .val (.int (2 : Int32)), .val (.int (2 : Int32)), .val (.int (1 : Int32))]) rfl ?_
              show Steps p.tables e below (T14.setTop (mkF m 65 #[.val (.long v), .second, .val (.int (2 : Int32)), .val (.int (2 : Int32)), .val (.int (1 : Int32))] [])) _
              refine XS.goto X14.here hx rfl (pc0 := 65) (pc' := 71) rfl (hb hby d3_65) (by decide) (by decide) ?_
              show Steps p.tables e below (T14.setTop (mkF m 71 #[.val (.long v), .second, .val (.int (2 : Int32)), .val (.int (2 : Int32)), .val (.int (1 : Int32))] [])) _
              refine XS.goto X14.here hx rfl (pc0 := 71) (pc' := 37) rfl (hb hby d3_71) (by decide) (by decide) ?_
              show Steps p.tables e below (T14.setTop (mkF m 37 #[.val (.long v), .second, .val (.int (2 : Int32)), .val (.int (2 : Int32)), .val (.int (1 : Int32))] [])) _
              refine XS.iloadN X14.here hx rfl (hb hby d3_37) rfl ?_
              show Steps p.tables e below (T14.setTop (mkF m 38 #[.val (.long v), .second, .val (.int (2 : Int32)), .val (.int (2 : Int32)), .val (.int (1 : Int32))] [(.int (2 : Int32))])) _
              refine XS.iloadN X14.here hx rfl (hb hby d3_38) rfl ?_
              show Steps p.tables e below (T14.setTop (mkF m 39 #[.val (.long v), .second, .val (.int (2 : Int32)), .val (.int (2 : Int32)), .val (.int (1 : Int32))] [(.int (2 : Int32)), (.int (2 : Int32))])) _
              refine XS.icmpYes X14.here hx rfl (pc0 := 39) (pc' := 74) rfl (hb hby d3_39) rfl (XT.ii_ge_t (by decide)) (by decide) (by decide) ?_
              show Steps p.tables e below (T14.setTop (mkF m 74 #[.val (.long v), .second, .val (.int (2 : Int32)), .val (.int (2 : Int32)), .val (.int (1 : Int32))] [])) _
              refine XS.iloadN X14.here hx rfl (hb hby d3_74) rfl ?_
              exact kt
            obtain ⟨fs, hr, hrun, hended, hW, hsame⟩ := X14.leave (v := some (.int (2 : Int32))) (fun h => by rw [Bd.returns] at h; cases h)
            refine ⟨_, _, pre18 _ ?_, hrun, hended, _, _, rfl, ?_, ⟨_, rfl⟩, hW, hsame.mono (by decide) (by decide)⟩
            · show Steps p.tables e below (T14.setTop (mkF m 75 #[.val (.long v), .second, .val (.int (2 : Int32)), .val (.int (2 : Int32)), .val (.int (1 : Int32))] [(.int (2 : Int32))])) _
              exact retI X14 hx Bd.returns (hb hby d3_75) hr
            · show Q1 Z (.int (cnt v.toInt)) h0 n0 _ T14.heap _
              rw [e14]
              exact ⟨by rw [cnt_2 (own_ge hc57_16 rfl) (own_lt hc57_13 rfl)], N0, rfl⟩
        · have pre19 : ∀ t, Steps p.tables e below (T11.setTop (mkF m 75 #[.val (.long v), .second, .val (.int (3 : Int32)), .val (.int (3 : Int32)), .val (.int (2 : Int32))] [(.int (3 : Int32))])) t → Steps p.tables e below (s₁.setTop (entryFrame m #[(.long v)] 5)) t := by
            intro t kt
            refine pre12 _ ?_
            show Steps p.tables e below (T11.setTop (mkF m 57 #[.val (.long v), .second, .val (.int (1 : Int32)), .val (.int (3 : Int32)), .val (.int (2 : Int32))] [(.int (XT.cmpL v (100 : Int64)))])) _
            refine XS.ifNo X11.here hx rfl (hb hby d3_57) rfl (XT.ll_lt_f hc57_13) ?_
            show Steps p.tables e below (T11.setTop (mkF m 60 #[.val (.long v), .second, .val (.int (1 : Int32)), .val (.int (3 : Int32)), .val (.int (2 : Int32))] [])) _
            refine XS.iload X11.here hx rfl (hb hby d3_60) rfl ?_
            show Steps p.tables e below (T11.setTop (mkF m 62 #[.val (.long v), .second, .val (.int (1 : Int32)), .val (.int (3 : Int32)), .val (.int (2 : Int32))] [(.int (2 : Int32))])) _
            refine XS.iconst X11.here hx rfl (hb hby d3_62) ?_
            show Steps p.tables e below (T11.setTop (mkF m 63 #[.val (.long v), .second, .val (.int (1 : Int32)), .val (.int (3 : Int32)), .val (.int (2 : Int32))] [(.int (1 : Int32)), (.int (2 : Int32))])) _
            refine XS.iadd X11.here hx rfl (hb hby d3_63) rfl ?_
            rw [show ((2 : Int32) + (1 : Int32)) = (3 : Int32) from rfl]
            show Steps p.tables e below (T11.setTop (mkF m 64 #[.val (.long v), .second, .val (.int (1 : Int32)), .val (.int (3 : Int32)), .val (.int (2 : Int32))] [(.int (3 : Int32))])) _
            refine XS.istoreN X11.here hx rfl (hb hby d3_64) rfl (l' := #[.val (.long v), .second, .val (.int (3 : Int32)), .val (.int (3 : Int32)), .val (.int (2 : Int32))]) rfl ?_
            show Steps p.tables e below (T11.setTop (mkF m 65 #[.val (.long v), .second, .val (.int (3 : Int32)), .val (.int (3 : Int32)), .val (.int (2 : Int32))] [])) _
            refine XS.goto X11.here hx rfl (pc0 := 65) (pc' := 71) rfl (hb hby d3_65) (by decide) (by decide) ?_
            show Steps p.tables e below (T11.setTop (mkF m 71 #[.val (.long v), .second, .val (.int (3 : Int32)), .val (.int (3 : Int32)), .val (.int (2 : Int32))] [])) _
            refine XS.goto X11.here hx rfl (pc0 := 71) (pc' := 37) rfl (hb hby d3_71) (by decide) (by decide) ?_
            show Steps p.tables e below (T11.setTop (mkF m 37 #[.val (.long v), .second, .val (.int (3 : Int32)), .val (.int (3 : Int32)), .val (.int (2 : Int32))] [])) _
            refine XS.iloadN X11.here hx rfl (hb hby d3_37) rfl ?_
            show Steps p.tables e below (T11.setTop (mkF m 38 #[.val (.long v), .second, .val (.int (3 : Int32)), .val (.int (3 : Int32)), .val (.int (2 : Int32))] [(.int (3 : Int32))])) _
            refine XS.iloadN X11.here hx rfl (hb hby d3_38) rfl ?_
            show Steps p.tables e below (T11.setTop (mkF m 39 #[.val (.long v), .second, .val (.int (3 : Int32)), .val (.int (3 : Int32)), .val (.int (2 : Int32))] [(.int (3 : Int32)), (.int (3 : Int32))])) _
            refine XS.icmpYes X11.here hx rfl (pc0 := 39) (pc' := 74) rfl (hb hby d3_39) rfl (XT.ii_ge_t (by decide)) (by decide) (by decide) ?_
            show Steps p.tables e below (T11.setTop (mkF m 74 #[.val (.long v), .second, .val (.int (3 : Int32)), .val (.int (3 : Int32)), .val (.int (2 : Int32))] [])) _
            refine XS.iloadN X11.here hx rfl (hb hby d3_74) rfl ?_
            exact kt
          obtain ⟨fs, hr, hrun, hended, hW, hsame⟩ := X11.leave (v := some (.int (3 : Int32))) (fun h => by rw [Bd.returns] at h; cases h)
          refine ⟨_, _, pre19 _ ?_, hrun, hended, _, _, rfl, ?_, ⟨_, rfl⟩, hW, hsame.mono (by decide) (by decide)⟩
          · show Steps p.tables e below (T11.setTop (mkF m 75 #[.val (.long v), .second, .val (.int (3 : Int32)), .val (.int (3 : Int32)), .val (.int (2 : Int32))] [(.int (3 : Int32))])) _
            exact retI X11 hx Bd.returns (hb hby d3_75) hr
          · show Q1 Z (.int (cnt v.toInt)) h0 n0 _ T11.heap _
            rw [e11]
            exact ⟨by rw [cnt_3 (own_ge hc57_13 rfl) (own_lt hc57_10 rfl)], N0, rfl⟩
      · obtain ⟨T20, X20, e20, st20⟩ := getS2 X8 hx hZ hown (host := "") (Or.inl (hw _ (List.mem_of_getElem? (i := 4) rfl))) Via.refl e8 S_P (g := (mkF m 50 #[.val (.long v), .second, .val (.int (4 : Int32)), .val (.int (5 : Int32)), .val (.int (4 : Int32))] [(.long v)])) rfl (hb hby d3_50)
        have pre21 : ∀ t, Steps p.tables e below (T20.setTop (mkF m 57 #[.val (.long v), .second, .val (.int (4 : Int32)), .val (.int (5 : Int32)), .val (.int (4 : Int32))] [(.int (XT.cmpL v (10000 : Int64)))])) t → Steps p.tables e below (s₁.setTop (entryFrame m #[(.long v)] 5)) t := by
          intro t kt
          refine pre9 _ ?_
          show Steps p.tables e below (T8.setTop (mkF m 57 #[.val (.long v), .second, .val (.int (1 : Int32)), .val (.int (5 : Int32)), .val (.int (3 : Int32))] [(.int (XT.cmpL v (1000 : Int64)))])) _
          refine XS.ifNo X8.here hx rfl (hb hby d3_57) rfl (XT.ll_lt_f hc57_10) ?_
          show Steps p.tables e below (T8.setTop (mkF m 60 #[.val (.long v), .second, .val (.int (1 : Int32)), .val (.int (5 : Int32)), .val (.int (3 : Int32))] [])) _
          refine XS.iload X8.here hx rfl (hb hby d3_60) rfl ?_
          show Steps p.tables e below (T8.setTop (mkF m 62 #[.val (.long v), .second, .val (.int (1 : Int32)), .val (.int (5 : Int32)), .val (.int (3 : Int32))] [(.int (3 : Int32))])) _
          refine XS.iconst X8.here hx rfl (hb hby d3_62) ?_
          show Steps p.tables e below (T8.setTop (mkF m 63 #[.val (.long v), .second, .val (.int (1 : Int32)), .val (.int (5 : Int32)), .val (.int (3 : Int32))] [(.int (1 : Int32)), (.int (3 : Int32))])) _
          refine XS.iadd X8.here hx rfl (hb hby d3_63) rfl ?_
          rw [show ((3 : Int32) + (1 : Int32)) = (4 : Int32) from rfl]
          show Steps p.tables e below (T8.setTop (mkF m 64 #[.val (.long v), .second, .val (.int (1 : Int32)), .val (.int (5 : Int32)), .val (.int (3 : Int32))] [(.int (4 : Int32))])) _
          refine XS.istoreN X8.here hx rfl (hb hby d3_64) rfl (l' := #[.val (.long v), .second, .val (.int (4 : Int32)), .val (.int (5 : Int32)), .val (.int (3 : Int32))]) rfl ?_
          show Steps p.tables e below (T8.setTop (mkF m 65 #[.val (.long v), .second, .val (.int (4 : Int32)), .val (.int (5 : Int32)), .val (.int (3 : Int32))] [])) _
          refine XS.goto X8.here hx rfl (pc0 := 65) (pc' := 71) rfl (hb hby d3_65) (by decide) (by decide) ?_
          show Steps p.tables e below (T8.setTop (mkF m 71 #[.val (.long v), .second, .val (.int (4 : Int32)), .val (.int (5 : Int32)), .val (.int (3 : Int32))] [])) _
          refine XS.goto X8.here hx rfl (pc0 := 71) (pc' := 37) rfl (hb hby d3_71) (by decide) (by decide) ?_
          show Steps p.tables e below (T8.setTop (mkF m 37 #[.val (.long v), .second, .val (.int (4 : Int32)), .val (.int (5 : Int32)), .val (.int (3 : Int32))] [])) _
          refine XS.iloadN X8.here hx rfl (hb hby d3_37) rfl ?_
          show Steps p.tables e below (T8.setTop (mkF m 38 #[.val (.long v), .second, .val (.int (4 : Int32)), .val (.int (5 : Int32)), .val (.int (3 : Int32))] [(.int (4 : Int32))])) _
          refine XS.iloadN X8.here hx rfl (hb hby d3_38) rfl ?_
          show Steps p.tables e below (T8.setTop (mkF m 39 #[.val (.long v), .second, .val (.int (4 : Int32)), .val (.int (5 : Int32)), .val (.int (3 : Int32))] [(.int (5 : Int32)), (.int (4 : Int32))])) _
          refine XS.icmpNo X8.here hx rfl (hb hby d3_39) rfl (XT.ii_ge_f (by decide)) ?_
          show Steps p.tables e below (T8.setTop (mkF m 42 #[.val (.long v), .second, .val (.int (4 : Int32)), .val (.int (5 : Int32)), .val (.int (3 : Int32))] [])) _
          refine XS.iloadN X8.here hx rfl (hb hby d3_42) rfl ?_
          show Steps p.tables e below (T8.setTop (mkF m 43 #[.val (.long v), .second, .val (.int (4 : Int32)), .val (.int (5 : Int32)), .val (.int (3 : Int32))] [(.int (4 : Int32))])) _
          refine XS.iloadN X8.here hx rfl (hb hby d3_43) rfl ?_
          show Steps p.tables e below (T8.setTop (mkF m 44 #[.val (.long v), .second, .val (.int (4 : Int32)), .val (.int (5 : Int32)), .val (.int (3 : Int32))] [(.int (5 : Int32)), (.int (4 : Int32))])) _
          refine XS.iadd X8.here hx rfl (hb hby d3_44) rfl ?_
          rw [show ((4 : Int32) + (5 : Int32)) = (9 : Int32) from rfl]
          show Steps p.tables e below (T8.setTop (mkF m 45 #[.val (.long v), .second, .val (.int (4 : Int32)), .val (.int (5 : Int32)), .val (.int (3 : Int32))] [(.int (9 : Int32))])) _
          refine XS.iconst X8.here hx rfl (hb hby d3_45) ?_
          show Steps p.tables e below (T8.setTop (mkF m 46 #[.val (.long v), .second, .val (.int (4 : Int32)), .val (.int (5 : Int32)), .val (.int (3 : Int32))] [(.int (1 : Int32)), (.int (9 : Int32))])) _
          refine XT.iushr X8.here hx rfl (hb hby d3_46) rfl ?_
          rw [show XT.ushr (9 : Int32) (1 : Int32) = (4 : Int32) from by decide]
          show Steps p.tables e below (T8.setTop (mkF m 47 #[.val (.long v), .second, .val (.int (4 : Int32)), .val (.int (5 : Int32)), .val (.int (3 : Int32))] [(.int (4 : Int32))])) _
          refine XS.istore X8.here hx rfl (hb hby d3_47) rfl (l' := #[.val (.long v), .second, .val (.int (4 : Int32)), .val (.int (5 : Int32)), .val (.int (4 : Int32))]) rfl ?_
          show Steps p.tables e below (T8.setTop (mkF m 49 #[.val (.long v), .second, .val (.int (4 : Int32)), .val (.int (5 : Int32)), .val (.int (4 : Int32))] [])) _
          refine XS.lloadN X8.here hx rfl (hb hby d3_49) rfl ?_
          show Steps p.tables e below (T8.setTop (mkF m 50 #[.val (.long v), .second, .val (.int (4 : Int32)), .val (.int (5 : Int32)), .val (.int (4 : Int32))] [(.long v)])) _
          refine st20 _ ?_
          show Steps p.tables e below (T20.setTop (mkF m 53 #[.val (.long v), .second, .val (.int (4 : Int32)), .val (.int (5 : Int32)), .val (.int (4 : Int32))] [(.ref pa), (.long v)])) _
          refine XS.iload X20.here hx rfl (hb hby d3_53) rfl ?_
          show Steps p.tables e below (T20.setTop (mkF m 55 #[.val (.long v), .second, .val (.int (4 : Int32)), .val (.int (5 : Int32)), .val (.int (4 : Int32))] [(.int (4 : Int32)), (.ref pa), (.long v)])) _
          refine X20.laload hx (j := (4 : Int32)) (v := (.long (10000 : Int64))) (by rw [e20]; exact Ar.1) (State.isArrayOf_alike hZ.alike Ar.2.1) Ar.2.2 El4.1 El4.2 (g := (mkF m 55 #[.val (.long v), .second, .val (.int (4 : Int32)), .val (.int (5 : Int32)), .val (.int (4 : Int32))] [(.int (4 : Int32)), (.ref pa), (.long v)])) rfl rfl (hb hby d3_55) _ ?_
          show Steps p.tables e below (T20.setTop (mkF m 56 #[.val (.long v), .second, .val (.int (4 : Int32)), .val (.int (5 : Int32)), .val (.int (4 : Int32))] [(.long (10000 : Int64)), (.long v)])) _
          refine XT.lcmp X20.here hx rfl (hb hby d3_56) rfl ?_
          exact kt
        by_cases hc57_22 : v < (10000 : Int64)
        · have pre23 : ∀ t, Steps p.tables e below (T20.setTop (mkF m 75 #[.val (.long v), .second, .val (.int (4 : Int32)), .val (.int (4 : Int32)), .val (.int (4 : Int32))] [(.int (4 : Int32))])) t → Steps p.tables e below (s₁.setTop (entryFrame m #[(.long v)] 5)) t := by
            intro t kt
            refine pre21 _ ?_
            show Steps p.tables e below (T20.setTop (mkF m 57 #[.val (.long v), .second, .val (.int (4 : Int32)), .val (.int (5 : Int32)), .val (.int (4 : Int32))] [(.int (XT.cmpL v (10000 : Int64)))])) _
            refine XS.ifYes X20.here hx rfl (pc0 := 57) (pc' := 68) rfl (hb hby d3_57) rfl (XT.ll_lt_t hc57_22) (by decide) (by decide) ?_
            show Steps p.tables e below (T20.setTop (mkF m 68 #[.val (.long v), .second, .val (.int (4 : Int32)), .val (.int (5 : Int32)), .val (.int (4 : Int32))] [])) _
            refine XS.iload X20.here hx rfl (hb hby d3_68) rfl ?_
            show Steps p.tables e below (T20.setTop (mkF m 70 #[.val (.long v), .second, .val (.int (4 : Int32)), .val (.int (5 : Int32)), .val (.int (4 : Int32))] [(.int (4 : Int32))])) _
            refine XS.istoreN X20.here hx rfl (hb hby d3_70) rfl (l' := #[.val (.long v), .second, .val (.int (4 : Int32)), .val (.int (4 : Int32)), .val (.int (4 : Int32))]) rfl ?_
            show Steps p.tables e below (T20.setTop (mkF m 71 #[.val (.long v), .second, .val (.int (4 : Int32)), .val (.int (4 : Int32)), .val (.int (4 : Int32))] [])) _
            refine XS.goto X20.here hx rfl (pc0 := 71) (pc' := 37) rfl (hb hby d3_71) (by decide) (by decide) ?_
            show Steps p.tables e below (T20.setTop (mkF m 37 #[.val (.long v), .second, .val (.int (4 : Int32)), .val (.int (4 : Int32)), .val (.int (4 : Int32))] [])) _
            refine XS.iloadN X20.here hx rfl (hb hby d3_37) rfl ?_
            show Steps p.tables e below (T20.setTop (mkF m 38 #[.val (.long v), .second, .val (.int (4 : Int32)), .val (.int (4 : Int32)), .val (.int (4 : Int32))] [(.int (4 : Int32))])) _
            refine XS.iloadN X20.here hx rfl (hb hby d3_38) rfl ?_
            show Steps p.tables e below (T20.setTop (mkF m 39 #[.val (.long v), .second, .val (.int (4 : Int32)), .val (.int (4 : Int32)), .val (.int (4 : Int32))] [(.int (4 : Int32)), (.int (4 : Int32))])) _
            refine XS.icmpYes X20.here hx rfl (pc0 := 39) (pc' := 74) rfl (hb hby d3_39) rfl (XT.ii_ge_t (by decide)) (by decide) (by decide) ?_
            show Steps p.tables e below (T20.setTop (mkF m 74 #[.val (.long v), .second, .val (.int (4 : Int32)), .val (.int (4 : Int32)), .val (.int (4 : Int32))] [])) _
            refine XS.iloadN X20.here hx rfl (hb hby d3_74) rfl ?_
            exact kt
          obtain ⟨fs, hr, hrun, hended, hW, hsame⟩ := X20.leave (v := some (.int (4 : Int32))) (fun h => by rw [Bd.returns] at h; cases h)
          refine ⟨_, _, pre23 _ ?_, hrun, hended, _, _, rfl, ?_, ⟨_, rfl⟩, hW, hsame.mono (by decide) (by decide)⟩
          · show Steps p.tables e below (T20.setTop (mkF m 75 #[.val (.long v), .second, .val (.int (4 : Int32)), .val (.int (4 : Int32)), .val (.int (4 : Int32))] [(.int (4 : Int32))])) _
            exact retI X20 hx Bd.returns (hb hby d3_75) hr
          · show Q1 Z (.int (cnt v.toInt)) h0 n0 _ T20.heap _
            rw [e20]
            exact ⟨by rw [cnt_4 (own_ge hc57_10 rfl) (own_lt hc57_22 rfl)], N0, rfl⟩
        · have pre24 : ∀ t, Steps p.tables e below (T20.setTop (mkF m 75 #[.val (.long v), .second, .val (.int (5 : Int32)), .val (.int (5 : Int32)), .val (.int (4 : Int32))] [(.int (5 : Int32))])) t → Steps p.tables e below (s₁.setTop (entryFrame m #[(.long v)] 5)) t := by
            intro t kt
            refine pre21 _ ?_
            show Steps p.tables e below (T20.setTop (mkF m 57 #[.val (.long v), .second, .val (.int (4 : Int32)), .val (.int (5 : Int32)), .val (.int (4 : Int32))] [(.int (XT.cmpL v (10000 : Int64)))])) _
            refine XS.ifNo X20.here hx rfl (hb hby d3_57) rfl (XT.ll_lt_f hc57_22) ?_
            show Steps p.tables e below (T20.setTop (mkF m 60 #[.val (.long v), .second, .val (.int (4 : Int32)), .val (.int (5 : Int32)), .val (.int (4 : Int32))] [])) _
            refine XS.iload X20.here hx rfl (hb hby d3_60) rfl ?_
            show Steps p.tables e below (T20.setTop (mkF m 62 #[.val (.long v), .second, .val (.int (4 : Int32)), .val (.int (5 : Int32)), .val (.int (4 : Int32))] [(.int (4 : Int32))])) _
            refine XS.iconst X20.here hx rfl (hb hby d3_62) ?_
            show Steps p.tables e below (T20.setTop (mkF m 63 #[.val (.long v), .second, .val (.int (4 : Int32)), .val (.int (5 : Int32)), .val (.int (4 : Int32))] [(.int (1 : Int32)), (.int (4 : Int32))])) _
            refine XS.iadd X20.here hx rfl (hb hby d3_63) rfl ?_
            rw [show ((4 : Int32) + (1 : Int32)) = (5 : Int32) from rfl]
            show Steps p.tables e below (T20.setTop (mkF m 64 #[.val (.long v), .second, .val (.int (4 : Int32)), .val (.int (5 : Int32)), .val (.int (4 : Int32))] [(.int (5 : Int32))])) _
            refine XS.istoreN X20.here hx rfl (hb hby d3_64) rfl (l' := #[.val (.long v), .second, .val (.int (5 : Int32)), .val (.int (5 : Int32)), .val (.int (4 : Int32))]) rfl ?_
            show Steps p.tables e below (T20.setTop (mkF m 65 #[.val (.long v), .second, .val (.int (5 : Int32)), .val (.int (5 : Int32)), .val (.int (4 : Int32))] [])) _
            refine XS.goto X20.here hx rfl (pc0 := 65) (pc' := 71) rfl (hb hby d3_65) (by decide) (by decide) ?_
            show Steps p.tables e below (T20.setTop (mkF m 71 #[.val (.long v), .second, .val (.int (5 : Int32)), .val (.int (5 : Int32)), .val (.int (4 : Int32))] [])) _
            refine XS.goto X20.here hx rfl (pc0 := 71) (pc' := 37) rfl (hb hby d3_71) (by decide) (by decide) ?_
            show Steps p.tables e below (T20.setTop (mkF m 37 #[.val (.long v), .second, .val (.int (5 : Int32)), .val (.int (5 : Int32)), .val (.int (4 : Int32))] [])) _
            refine XS.iloadN X20.here hx rfl (hb hby d3_37) rfl ?_
            show Steps p.tables e below (T20.setTop (mkF m 38 #[.val (.long v), .second, .val (.int (5 : Int32)), .val (.int (5 : Int32)), .val (.int (4 : Int32))] [(.int (5 : Int32))])) _
            refine XS.iloadN X20.here hx rfl (hb hby d3_38) rfl ?_
            show Steps p.tables e below (T20.setTop (mkF m 39 #[.val (.long v), .second, .val (.int (5 : Int32)), .val (.int (5 : Int32)), .val (.int (4 : Int32))] [(.int (5 : Int32)), (.int (5 : Int32))])) _
            refine XS.icmpYes X20.here hx rfl (pc0 := 39) (pc' := 74) rfl (hb hby d3_39) rfl (XT.ii_ge_t (by decide)) (by decide) (by decide) ?_
            show Steps p.tables e below (T20.setTop (mkF m 74 #[.val (.long v), .second, .val (.int (5 : Int32)), .val (.int (5 : Int32)), .val (.int (4 : Int32))] [])) _
            refine XS.iloadN X20.here hx rfl (hb hby d3_74) rfl ?_
            exact kt
          obtain ⟨fs, hr, hrun, hended, hW, hsame⟩ := X20.leave (v := some (.int (5 : Int32))) (fun h => by rw [Bd.returns] at h; cases h)
          refine ⟨_, _, pre24 _ ?_, hrun, hended, _, _, rfl, ?_, ⟨_, rfl⟩, hW, hsame.mono (by decide) (by decide)⟩
          · show Steps p.tables e below (T20.setTop (mkF m 75 #[.val (.long v), .second, .val (.int (5 : Int32)), .val (.int (5 : Int32)), .val (.int (4 : Int32))] [(.int (5 : Int32))])) _
            exact retI X20 hx Bd.returns (hb hby d3_75) hr
          · show Q1 Z (.int (cnt v.toInt)) h0 n0 _ T20.heap _
            rw [e20]
            exact ⟨by rw [cnt_5 (own_ge hc57_22 rfl) (own_lt hc57_7 rfl)], N0, rfl⟩
    · obtain ⟨T25, X25, e25, st25⟩ := getS2 X5 hx hZ hown (host := "") (Or.inl (hw _ (List.mem_of_getElem? (i := 4) rfl))) Via.refl e5 S_P (g := (mkF m 50 #[.val (.long v), .second, .val (.int (6 : Int32)), .val (.int (10 : Int32)), .val (.int (8 : Int32))] [(.long v)])) rfl (hb hby d3_50)
      have pre26 : ∀ t, Steps p.tables e below (T25.setTop (mkF m 57 #[.val (.long v), .second, .val (.int (6 : Int32)), .val (.int (10 : Int32)), .val (.int (8 : Int32))] [(.int (XT.cmpL v (100000000 : Int64)))])) t → Steps p.tables e below (s₁.setTop (entryFrame m #[(.long v)] 5)) t := by
        intro t kt
        refine pre6 _ ?_
        show Steps p.tables e below (T5.setTop (mkF m 57 #[.val (.long v), .second, .val (.int (1 : Int32)), .val (.int (10 : Int32)), .val (.int (5 : Int32))] [(.int (XT.cmpL v (100000 : Int64)))])) _
        refine XS.ifNo X5.here hx rfl (hb hby d3_57) rfl (XT.ll_lt_f hc57_7) ?_
        show Steps p.tables e below (T5.setTop (mkF m 60 #[.val (.long v), .second, .val (.int (1 : Int32)), .val (.int (10 : Int32)), .val (.int (5 : Int32))] [])) _
        refine XS.iload X5.here hx rfl (hb hby d3_60) rfl ?_
        show Steps p.tables e below (T5.setTop (mkF m 62 #[.val (.long v), .second, .val (.int (1 : Int32)), .val (.int (10 : Int32)), .val (.int (5 : Int32))] [(.int (5 : Int32))])) _
        refine XS.iconst X5.here hx rfl (hb hby d3_62) ?_
        show Steps p.tables e below (T5.setTop (mkF m 63 #[.val (.long v), .second, .val (.int (1 : Int32)), .val (.int (10 : Int32)), .val (.int (5 : Int32))] [(.int (1 : Int32)), (.int (5 : Int32))])) _
        refine XS.iadd X5.here hx rfl (hb hby d3_63) rfl ?_
        rw [show ((5 : Int32) + (1 : Int32)) = (6 : Int32) from rfl]
        show Steps p.tables e below (T5.setTop (mkF m 64 #[.val (.long v), .second, .val (.int (1 : Int32)), .val (.int (10 : Int32)), .val (.int (5 : Int32))] [(.int (6 : Int32))])) _
        refine XS.istoreN X5.here hx rfl (hb hby d3_64) rfl (l' := #[.val (.long v), .second, .val (.int (6 : Int32)), .val (.int (10 : Int32)), .val (.int (5 : Int32))]) rfl ?_
        show Steps p.tables e below (T5.setTop (mkF m 65 #[.val (.long v), .second, .val (.int (6 : Int32)), .val (.int (10 : Int32)), .val (.int (5 : Int32))] [])) _
        refine XS.goto X5.here hx rfl (pc0 := 65) (pc' := 71) rfl (hb hby d3_65) (by decide) (by decide) ?_
        show Steps p.tables e below (T5.setTop (mkF m 71 #[.val (.long v), .second, .val (.int (6 : Int32)), .val (.int (10 : Int32)), .val (.int (5 : Int32))] [])) _
        refine XS.goto X5.here hx rfl (pc0 := 71) (pc' := 37) rfl (hb hby d3_71) (by decide) (by decide) ?_
        show Steps p.tables e below (T5.setTop (mkF m 37 #[.val (.long v), .second, .val (.int (6 : Int32)), .val (.int (10 : Int32)), .val (.int (5 : Int32))] [])) _
        refine XS.iloadN X5.here hx rfl (hb hby d3_37) rfl ?_
        show Steps p.tables e below (T5.setTop (mkF m 38 #[.val (.long v), .second, .val (.int (6 : Int32)), .val (.int (10 : Int32)), .val (.int (5 : Int32))] [(.int (6 : Int32))])) _
        refine XS.iloadN X5.here hx rfl (hb hby d3_38) rfl ?_
        show Steps p.tables e below (T5.setTop (mkF m 39 #[.val (.long v), .second, .val (.int (6 : Int32)), .val (.int (10 : Int32)), .val (.int (5 : Int32))] [(.int (10 : Int32)), (.int (6 : Int32))])) _
        refine XS.icmpNo X5.here hx rfl (hb hby d3_39) rfl (XT.ii_ge_f (by decide)) ?_
        show Steps p.tables e below (T5.setTop (mkF m 42 #[.val (.long v), .second, .val (.int (6 : Int32)), .val (.int (10 : Int32)), .val (.int (5 : Int32))] [])) _
        refine XS.iloadN X5.here hx rfl (hb hby d3_42) rfl ?_
        show Steps p.tables e below (T5.setTop (mkF m 43 #[.val (.long v), .second, .val (.int (6 : Int32)), .val (.int (10 : Int32)), .val (.int (5 : Int32))] [(.int (6 : Int32))])) _
        refine XS.iloadN X5.here hx rfl (hb hby d3_43) rfl ?_
        show Steps p.tables e below (T5.setTop (mkF m 44 #[.val (.long v), .second, .val (.int (6 : Int32)), .val (.int (10 : Int32)), .val (.int (5 : Int32))] [(.int (10 : Int32)), (.int (6 : Int32))])) _
        refine XS.iadd X5.here hx rfl (hb hby d3_44) rfl ?_
        rw [show ((6 : Int32) + (10 : Int32)) = (16 : Int32) from rfl]
        show Steps p.tables e below (T5.setTop (mkF m 45 #[.val (.long v), .second, .val (.int (6 : Int32)), .val (.int (10 : Int32)), .val (.int (5 : Int32))] [(.int (16 : Int32))])) _
        refine XS.iconst X5.here hx rfl (hb hby d3_45) ?_
        show Steps p.tables e below (T5.setTop (mkF m 46 #[.val (.long v), .second, .val (.int (6 : Int32)), .val (.int (10 : Int32)), .val (.int (5 : Int32))] [(.int (1 : Int32)), (.int (16 : Int32))])) _
        refine XT.iushr X5.here hx rfl (hb hby d3_46) rfl ?_
        rw [show XT.ushr (16 : Int32) (1 : Int32) = (8 : Int32) from by decide]
        show Steps p.tables e below (T5.setTop (mkF m 47 #[.val (.long v), .second, .val (.int (6 : Int32)), .val (.int (10 : Int32)), .val (.int (5 : Int32))] [(.int (8 : Int32))])) _
        refine XS.istore X5.here hx rfl (hb hby d3_47) rfl (l' := #[.val (.long v), .second, .val (.int (6 : Int32)), .val (.int (10 : Int32)), .val (.int (8 : Int32))]) rfl ?_
        show Steps p.tables e below (T5.setTop (mkF m 49 #[.val (.long v), .second, .val (.int (6 : Int32)), .val (.int (10 : Int32)), .val (.int (8 : Int32))] [])) _
        refine XS.lloadN X5.here hx rfl (hb hby d3_49) rfl ?_
        show Steps p.tables e below (T5.setTop (mkF m 50 #[.val (.long v), .second, .val (.int (6 : Int32)), .val (.int (10 : Int32)), .val (.int (8 : Int32))] [(.long v)])) _
        refine st25 _ ?_
        show Steps p.tables e below (T25.setTop (mkF m 53 #[.val (.long v), .second, .val (.int (6 : Int32)), .val (.int (10 : Int32)), .val (.int (8 : Int32))] [(.ref pa), (.long v)])) _
        refine XS.iload X25.here hx rfl (hb hby d3_53) rfl ?_
        show Steps p.tables e below (T25.setTop (mkF m 55 #[.val (.long v), .second, .val (.int (6 : Int32)), .val (.int (10 : Int32)), .val (.int (8 : Int32))] [(.int (8 : Int32)), (.ref pa), (.long v)])) _
        refine X25.laload hx (j := (8 : Int32)) (v := (.long (100000000 : Int64))) (by rw [e25]; exact Ar.1) (State.isArrayOf_alike hZ.alike Ar.2.1) Ar.2.2 El8.1 El8.2 (g := (mkF m 55 #[.val (.long v), .second, .val (.int (6 : Int32)), .val (.int (10 : Int32)), .val (.int (8 : Int32))] [(.int (8 : Int32)), (.ref pa), (.long v)])) rfl rfl (hb hby d3_55) _ ?_
        show Steps p.tables e below (T25.setTop (mkF m 56 #[.val (.long v), .second, .val (.int (6 : Int32)), .val (.int (10 : Int32)), .val (.int (8 : Int32))] [(.long (100000000 : Int64)), (.long v)])) _
        refine XT.lcmp X25.here hx rfl (hb hby d3_56) rfl ?_
        exact kt
      by_cases hc57_27 : v < (100000000 : Int64)
      · obtain ⟨T28, X28, e28, st28⟩ := getS2 X25 hx hZ hown (host := "") (Or.inl (hw _ (List.mem_of_getElem? (i := 4) rfl))) Via.refl e25 S_P (g := (mkF m 50 #[.val (.long v), .second, .val (.int (6 : Int32)), .val (.int (8 : Int32)), .val (.int (7 : Int32))] [(.long v)])) rfl (hb hby d3_50)
        have pre29 : ∀ t, Steps p.tables e below (T28.setTop (mkF m 57 #[.val (.long v), .second, .val (.int (6 : Int32)), .val (.int (8 : Int32)), .val (.int (7 : Int32))] [(.int (XT.cmpL v (10000000 : Int64)))])) t → Steps p.tables e below (s₁.setTop (entryFrame m #[(.long v)] 5)) t := by
          intro t kt
          refine pre26 _ ?_
          show Steps p.tables e below (T25.setTop (mkF m 57 #[.val (.long v), .second, .val (.int (6 : Int32)), .val (.int (10 : Int32)), .val (.int (8 : Int32))] [(.int (XT.cmpL v (100000000 : Int64)))])) _
          refine XS.ifYes X25.here hx rfl (pc0 := 57) (pc' := 68) rfl (hb hby d3_57) rfl (XT.ll_lt_t hc57_27) (by decide) (by decide) ?_
          show Steps p.tables e below (T25.setTop (mkF m 68 #[.val (.long v), .second, .val (.int (6 : Int32)), .val (.int (10 : Int32)), .val (.int (8 : Int32))] [])) _
          refine XS.iload X25.here hx rfl (hb hby d3_68) rfl ?_
          show Steps p.tables e below (T25.setTop (mkF m 70 #[.val (.long v), .second, .val (.int (6 : Int32)), .val (.int (10 : Int32)), .val (.int (8 : Int32))] [(.int (8 : Int32))])) _
          refine XS.istoreN X25.here hx rfl (hb hby d3_70) rfl (l' := #[.val (.long v), .second, .val (.int (6 : Int32)), .val (.int (8 : Int32)), .val (.int (8 : Int32))]) rfl ?_
          show Steps p.tables e below (T25.setTop (mkF m 71 #[.val (.long v), .second, .val (.int (6 : Int32)), .val (.int (8 : Int32)), .val (.int (8 : Int32))] [])) _
          refine XS.goto X25.here hx rfl (pc0 := 71) (pc' := 37) rfl (hb hby d3_71) (by decide) (by decide) ?_
          show Steps p.tables e below (T25.setTop (mkF m 37 #[.val (.long v), .second, .val (.int (6 : Int32)), .val (.int (8 : Int32)), .val (.int (8 : Int32))] [])) _
          refine XS.iloadN X25.here hx rfl (hb hby d3_37) rfl ?_
          show Steps p.tables e below (T25.setTop (mkF m 38 #[.val (.long v), .second, .val (.int (6 : Int32)), .val (.int (8 : Int32)), .val (.int (8 : Int32))] [(.int (6 : Int32))])) _
          refine XS.iloadN X25.here hx rfl (hb hby d3_38) rfl ?_
          show Steps p.tables e below (T25.setTop (mkF m 39 #[.val (.long v), .second, .val (.int (6 : Int32)), .val (.int (8 : Int32)), .val (.int (8 : Int32))] [(.int (8 : Int32)), (.int (6 : Int32))])) _
          refine XS.icmpNo X25.here hx rfl (hb hby d3_39) rfl (XT.ii_ge_f (by decide)) ?_
          show Steps p.tables e below (T25.setTop (mkF m 42 #[.val (.long v), .second, .val (.int (6 : Int32)), .val (.int (8 : Int32)), .val (.int (8 : Int32))] [])) _
          refine XS.iloadN X25.here hx rfl (hb hby d3_42) rfl ?_
          show Steps p.tables e below (T25.setTop (mkF m 43 #[.val (.long v), .second, .val (.int (6 : Int32)), .val (.int (8 : Int32)), .val (.int (8 : Int32))] [(.int (6 : Int32))])) _
          refine XS.iloadN X25.here hx rfl (hb hby d3_43) rfl ?_
          show Steps p.tables e below (T25.setTop (mkF m 44 #[.val (.long v), .second, .val (.int (6 : Int32)), .val (.int (8 : Int32)), .val (.int (8 : Int32))] [(.int (8 : Int32)), (.int (6 : Int32))])) _
          refine XS.iadd X25.here hx rfl (hb hby d3_44) rfl ?_
          rw [show ((6 : Int32) + (8 : Int32)) = (14 : Int32) from rfl]
          show Steps p.tables e below (T25.setTop (mkF m 45 #[.val (.long v), .second, .val (.int (6 : Int32)), .val (.int (8 : Int32)), .val (.int (8 : Int32))] [(.int (14 : Int32))])) _
          refine XS.iconst X25.here hx rfl (hb hby d3_45) ?_
          show Steps p.tables e below (T25.setTop (mkF m 46 #[.val (.long v), .second, .val (.int (6 : Int32)), .val (.int (8 : Int32)), .val (.int (8 : Int32))] [(.int (1 : Int32)), (.int (14 : Int32))])) _
          refine XT.iushr X25.here hx rfl (hb hby d3_46) rfl ?_
          rw [show XT.ushr (14 : Int32) (1 : Int32) = (7 : Int32) from by decide]
          show Steps p.tables e below (T25.setTop (mkF m 47 #[.val (.long v), .second, .val (.int (6 : Int32)), .val (.int (8 : Int32)), .val (.int (8 : Int32))] [(.int (7 : Int32))])) _
          refine XS.istore X25.here hx rfl (hb hby d3_47) rfl (l' := #[.val (.long v), .second, .val (.int (6 : Int32)), .val (.int (8 : Int32)), .val (.int (7 : Int32))]) rfl ?_
          show Steps p.tables e below (T25.setTop (mkF m 49 #[.val (.long v), .second, .val (.int (6 : Int32)), .val (.int (8 : Int32)), .val (.int (7 : Int32))] [])) _
          refine XS.lloadN X25.here hx rfl (hb hby d3_49) rfl ?_
          show Steps p.tables e below (T25.setTop (mkF m 50 #[.val (.long v), .second, .val (.int (6 : Int32)), .val (.int (8 : Int32)), .val (.int (7 : Int32))] [(.long v)])) _
          refine st28 _ ?_
          show Steps p.tables e below (T28.setTop (mkF m 53 #[.val (.long v), .second, .val (.int (6 : Int32)), .val (.int (8 : Int32)), .val (.int (7 : Int32))] [(.ref pa), (.long v)])) _
          refine XS.iload X28.here hx rfl (hb hby d3_53) rfl ?_
          show Steps p.tables e below (T28.setTop (mkF m 55 #[.val (.long v), .second, .val (.int (6 : Int32)), .val (.int (8 : Int32)), .val (.int (7 : Int32))] [(.int (7 : Int32)), (.ref pa), (.long v)])) _
          refine X28.laload hx (j := (7 : Int32)) (v := (.long (10000000 : Int64))) (by rw [e28]; exact Ar.1) (State.isArrayOf_alike hZ.alike Ar.2.1) Ar.2.2 El7.1 El7.2 (g := (mkF m 55 #[.val (.long v), .second, .val (.int (6 : Int32)), .val (.int (8 : Int32)), .val (.int (7 : Int32))] [(.int (7 : Int32)), (.ref pa), (.long v)])) rfl rfl (hb hby d3_55) _ ?_
          show Steps p.tables e below (T28.setTop (mkF m 56 #[.val (.long v), .second, .val (.int (6 : Int32)), .val (.int (8 : Int32)), .val (.int (7 : Int32))] [(.long (10000000 : Int64)), (.long v)])) _
          refine XT.lcmp X28.here hx rfl (hb hby d3_56) rfl ?_
          exact kt
        by_cases hc57_30 : v < (10000000 : Int64)
        · obtain ⟨T31, X31, e31, st31⟩ := getS2 X28 hx hZ hown (host := "") (Or.inl (hw _ (List.mem_of_getElem? (i := 4) rfl))) Via.refl e28 S_P (g := (mkF m 50 #[.val (.long v), .second, .val (.int (6 : Int32)), .val (.int (7 : Int32)), .val (.int (6 : Int32))] [(.long v)])) rfl (hb hby d3_50)
          have pre32 : ∀ t, Steps p.tables e below (T31.setTop (mkF m 57 #[.val (.long v), .second, .val (.int (6 : Int32)), .val (.int (7 : Int32)), .val (.int (6 : Int32))] [(.int (XT.cmpL v (1000000 : Int64)))])) t → Steps p.tables e below (s₁.setTop (entryFrame m #[(.long v)] 5)) t := by
            intro t kt
            refine pre29 _ ?_
            show Steps p.tables e below (T28.setTop (mkF m 57 #[.val (.long v), .second, .val (.int (6 : Int32)), .val (.int (8 : Int32)), .val (.int (7 : Int32))] [(.int (XT.cmpL v (10000000 : Int64)))])) _
            refine XS.ifYes X28.here hx rfl (pc0 := 57) (pc' := 68) rfl (hb hby d3_57) rfl (XT.ll_lt_t hc57_30) (by decide) (by decide) ?_
            show Steps p.tables e below (T28.setTop (mkF m 68 #[.val (.long v), .second, .val (.int (6 : Int32)), .val (.int (8 : Int32)), .val (.int (7 : Int32))] [])) _
            refine XS.iload X28.here hx rfl (hb hby d3_68) rfl ?_
            show Steps p.tables e below (T28.setTop (mkF m 70 #[.val (.long v), .second, .val (.int (6 : Int32)), .val (.int (8 : Int32)), .val (.int (7 : Int32))] [(.int (7 : Int32))])) _
            refine XS.istoreN X28.here hx rfl (hb hby d3_70) rfl (l' := #[.val (.long v), .second, .val (.int (6 : Int32)), .val (.int (7 : Int32)), .val (.int (7 : Int32))]) rfl ?_
            show Steps p.tables e below (T28.setTop (mkF m 71 #[.val (.long v), .second, .val (.int (6 : Int32)), .val (.int (7 : Int32)), .val (.int (7 : Int32))] [])) _
            refine XS.goto X28.here hx rfl (pc0 := 71) (pc' := 37) rfl (hb hby d3_71) (by decide) (by decide) ?_
            show Steps p.tables e below (T28.setTop (mkF m 37 #[.val (.long v), .second, .val (.int (6 : Int32)), .val (.int (7 : Int32)), .val (.int (7 : Int32))] [])) _
            refine XS.iloadN X28.here hx rfl (hb hby d3_37) rfl ?_
            show Steps p.tables e below (T28.setTop (mkF m 38 #[.val (.long v), .second, .val (.int (6 : Int32)), .val (.int (7 : Int32)), .val (.int (7 : Int32))] [(.int (6 : Int32))])) _
            refine XS.iloadN X28.here hx rfl (hb hby d3_38) rfl ?_
            show Steps p.tables e below (T28.setTop (mkF m 39 #[.val (.long v), .second, .val (.int (6 : Int32)), .val (.int (7 : Int32)), .val (.int (7 : Int32))] [(.int (7 : Int32)), (.int (6 : Int32))])) _
            refine XS.icmpNo X28.here hx rfl (hb hby d3_39) rfl (XT.ii_ge_f (by decide)) ?_
            show Steps p.tables e below (T28.setTop (mkF m 42 #[.val (.long v), .second, .val (.int (6 : Int32)), .val (.int (7 : Int32)), .val (.int (7 : Int32))] [])) _
            refine XS.iloadN X28.here hx rfl (hb hby d3_42) rfl ?_
            show Steps p.tables e below (T28.setTop (mkF m 43 #[.val (.long v), .second, .val (.int (6 : Int32)), .val (.int (7 : Int32)), .val (.int (7 : Int32))] [(.int (6 : Int32))])) _
            refine XS.iloadN X28.here hx rfl (hb hby d3_43) rfl ?_
            show Steps p.tables e below (T28.setTop (mkF m 44 #[.val (.long v), .second, .val (.int (6 : Int32)), .val (.int (7 : Int32)), .val (.int (7 : Int32))] [(.int (7 : Int32)), (.int (6 : Int32))])) _
            refine XS.iadd X28.here hx rfl (hb hby d3_44) rfl ?_
            rw [show ((6 : Int32) + (7 : Int32)) = (13 : Int32) from rfl]
            show Steps p.tables e below (T28.setTop (mkF m 45 #[.val (.long v), .second, .val (.int (6 : Int32)), .val (.int (7 : Int32)), .val (.int (7 : Int32))] [(.int (13 : Int32))])) _
            refine XS.iconst X28.here hx rfl (hb hby d3_45) ?_
            show Steps p.tables e below (T28.setTop (mkF m 46 #[.val (.long v), .second, .val (.int (6 : Int32)), .val (.int (7 : Int32)), .val (.int (7 : Int32))] [(.int (1 : Int32)), (.int (13 : Int32))])) _
            refine XT.iushr X28.here hx rfl (hb hby d3_46) rfl ?_
            rw [show XT.ushr (13 : Int32) (1 : Int32) = (6 : Int32) from by decide]
            show Steps p.tables e below (T28.setTop (mkF m 47 #[.val (.long v), .second, .val (.int (6 : Int32)), .val (.int (7 : Int32)), .val (.int (7 : Int32))] [(.int (6 : Int32))])) _
            refine XS.istore X28.here hx rfl (hb hby d3_47) rfl (l' := #[.val (.long v), .second, .val (.int (6 : Int32)), .val (.int (7 : Int32)), .val (.int (6 : Int32))]) rfl ?_
            show Steps p.tables e below (T28.setTop (mkF m 49 #[.val (.long v), .second, .val (.int (6 : Int32)), .val (.int (7 : Int32)), .val (.int (6 : Int32))] [])) _
            refine XS.lloadN X28.here hx rfl (hb hby d3_49) rfl ?_
            show Steps p.tables e below (T28.setTop (mkF m 50 #[.val (.long v), .second, .val (.int (6 : Int32)), .val (.int (7 : Int32)), .val (.int (6 : Int32))] [(.long v)])) _
            refine st31 _ ?_
            show Steps p.tables e below (T31.setTop (mkF m 53 #[.val (.long v), .second, .val (.int (6 : Int32)), .val (.int (7 : Int32)), .val (.int (6 : Int32))] [(.ref pa), (.long v)])) _
            refine XS.iload X31.here hx rfl (hb hby d3_53) rfl ?_
            show Steps p.tables e below (T31.setTop (mkF m 55 #[.val (.long v), .second, .val (.int (6 : Int32)), .val (.int (7 : Int32)), .val (.int (6 : Int32))] [(.int (6 : Int32)), (.ref pa), (.long v)])) _
            refine X31.laload hx (j := (6 : Int32)) (v := (.long (1000000 : Int64))) (by rw [e31]; exact Ar.1) (State.isArrayOf_alike hZ.alike Ar.2.1) Ar.2.2 El6.1 El6.2 (g := (mkF m 55 #[.val (.long v), .second, .val (.int (6 : Int32)), .val (.int (7 : Int32)), .val (.int (6 : Int32))] [(.int (6 : Int32)), (.ref pa), (.long v)])) rfl rfl (hb hby d3_55) _ ?_
            show Steps p.tables e below (T31.setTop (mkF m 56 #[.val (.long v), .second, .val (.int (6 : Int32)), .val (.int (7 : Int32)), .val (.int (6 : Int32))] [(.long (1000000 : Int64)), (.long v)])) _
            refine XT.lcmp X31.here hx rfl (hb hby d3_56) rfl ?_
            exact kt
          by_cases hc57_33 : v < (1000000 : Int64)
          · have pre34 : ∀ t, Steps p.tables e below (T31.setTop (mkF m 75 #[.val (.long v), .second, .val (.int (6 : Int32)), .val (.int (6 : Int32)), .val (.int (6 : Int32))] [(.int (6 : Int32))])) t → Steps p.tables e below (s₁.setTop (entryFrame m #[(.long v)] 5)) t := by
              intro t kt
              refine pre32 _ ?_
              show Steps p.tables e below (T31.setTop (mkF m 57 #[.val (.long v), .second, .val (.int (6 : Int32)), .val (.int (7 : Int32)), .val (.int (6 : Int32))] [(.int (XT.cmpL v (1000000 : Int64)))])) _
              refine XS.ifYes X31.here hx rfl (pc0 := 57) (pc' := 68) rfl (hb hby d3_57) rfl (XT.ll_lt_t hc57_33) (by decide) (by decide) ?_
              show Steps p.tables e below (T31.setTop (mkF m 68 #[.val (.long v), .second, .val (.int (6 : Int32)), .val (.int (7 : Int32)), .val (.int (6 : Int32))] [])) _
              refine XS.iload X31.here hx rfl (hb hby d3_68) rfl ?_
              show Steps p.tables e below (T31.setTop (mkF m 70 #[.val (.long v), .second, .val (.int (6 : Int32)), .val (.int (7 : Int32)), .val (.int (6 : Int32))] [(.int (6 : Int32))])) _
              refine XS.istoreN X31.here hx rfl (hb hby d3_70) rfl (l' := #[.val (.long v), .second, .val (.int (6 : Int32)), .val (.int (6 : Int32)), .val (.int (6 : Int32))]) rfl ?_
              show Steps p.tables e below (T31.setTop (mkF m 71 #[.val (.long v), .second, .val (.int (6 : Int32)), .val (.int (6 : Int32)), .val (.int (6 : Int32))] [])) _
              refine XS.goto X31.here hx rfl (pc0 := 71) (pc' := 37) rfl (hb hby d3_71) (by decide) (by decide) ?_
              show Steps p.tables e below (T31.setTop (mkF m 37 #[.val (.long v), .second, .val (.int (6 : Int32)), .val (.int (6 : Int32)), .val (.int (6 : Int32))] [])) _
              refine XS.iloadN X31.here hx rfl (hb hby d3_37) rfl ?_
              show Steps p.tables e below (T31.setTop (mkF m 38 #[.val (.long v), .second, .val (.int (6 : Int32)), .val (.int (6 : Int32)), .val (.int (6 : Int32))] [(.int (6 : Int32))])) _
              refine XS.iloadN X31.here hx rfl (hb hby d3_38) rfl ?_
              show Steps p.tables e below (T31.setTop (mkF m 39 #[.val (.long v), .second, .val (.int (6 : Int32)), .val (.int (6 : Int32)), .val (.int (6 : Int32))] [(.int (6 : Int32)), (.int (6 : Int32))])) _
              refine XS.icmpYes X31.here hx rfl (pc0 := 39) (pc' := 74) rfl (hb hby d3_39) rfl (XT.ii_ge_t (by decide)) (by decide) (by decide) ?_
              show Steps p.tables e below (T31.setTop (mkF m 74 #[.val (.long v), .second, .val (.int (6 : Int32)), .val (.int (6 : Int32)), .val (.int (6 : Int32))] [])) _
              refine XS.iloadN X31.here hx rfl (hb hby d3_74) rfl ?_
              exact kt
            obtain ⟨fs, hr, hrun, hended, hW, hsame⟩ := X31.leave (v := some (.int (6 : Int32))) (fun h => by rw [Bd.returns] at h; cases h)
            refine ⟨_, _, pre34 _ ?_, hrun, hended, _, _, rfl, ?_, ⟨_, rfl⟩, hW, hsame.mono (by decide) (by decide)⟩
            · show Steps p.tables e below (T31.setTop (mkF m 75 #[.val (.long v), .second, .val (.int (6 : Int32)), .val (.int (6 : Int32)), .val (.int (6 : Int32))] [(.int (6 : Int32))])) _
              exact retI X31 hx Bd.returns (hb hby d3_75) hr
            · show Q1 Z (.int (cnt v.toInt)) h0 n0 _ T31.heap _
              rw [e31]
              exact ⟨by rw [cnt_6 (own_ge hc57_7 rfl) (own_lt hc57_33 rfl)], N0, rfl⟩
          · have pre35 : ∀ t, Steps p.tables e below (T31.setTop (mkF m 75 #[.val (.long v), .second, .val (.int (7 : Int32)), .val (.int (7 : Int32)), .val (.int (6 : Int32))] [(.int (7 : Int32))])) t → Steps p.tables e below (s₁.setTop (entryFrame m #[(.long v)] 5)) t := by
              intro t kt
              refine pre32 _ ?_
              show Steps p.tables e below (T31.setTop (mkF m 57 #[.val (.long v), .second, .val (.int (6 : Int32)), .val (.int (7 : Int32)), .val (.int (6 : Int32))] [(.int (XT.cmpL v (1000000 : Int64)))])) _
              refine XS.ifNo X31.here hx rfl (hb hby d3_57) rfl (XT.ll_lt_f hc57_33) ?_
              show Steps p.tables e below (T31.setTop (mkF m 60 #[.val (.long v), .second, .val (.int (6 : Int32)), .val (.int (7 : Int32)), .val (.int (6 : Int32))] [])) _
              refine XS.iload X31.here hx rfl (hb hby d3_60) rfl ?_
              show Steps p.tables e below (T31.setTop (mkF m 62 #[.val (.long v), .second, .val (.int (6 : Int32)), .val (.int (7 : Int32)), .val (.int (6 : Int32))] [(.int (6 : Int32))])) _
              refine XS.iconst X31.here hx rfl (hb hby d3_62) ?_
              show Steps p.tables e below (T31.setTop (mkF m 63 #[.val (.long v), .second, .val (.int (6 : Int32)), .val (.int (7 : Int32)), .val (.int (6 : Int32))] [(.int (1 : Int32)), (.int (6 : Int32))])) _
              refine XS.iadd X31.here hx rfl (hb hby d3_63) rfl ?_
              rw [show ((6 : Int32) + (1 : Int32)) = (7 : Int32) from rfl]
              show Steps p.tables e below (T31.setTop (mkF m 64 #[.val (.long v), .second, .val (.int (6 : Int32)), .val (.int (7 : Int32)), .val (.int (6 : Int32))] [(.int (7 : Int32))])) _
              refine XS.istoreN X31.here hx rfl (hb hby d3_64) rfl (l' := #[.val (.long v), .second, .val (.int (7 : Int32)), .val (.int (7 : Int32)), .val (.int (6 : Int32))]) rfl ?_
              show Steps p.tables e below (T31.setTop (mkF m 65 #[.val (.long v), .second, .val (.int (7 : Int32)), .val (.int (7 : Int32)), .val (.int (6 : Int32))] [])) _
              refine XS.goto X31.here hx rfl (pc0 := 65) (pc' := 71) rfl (hb hby d3_65) (by decide) (by decide) ?_
              show Steps p.tables e below (T31.setTop (mkF m 71 #[.val (.long v), .second, .val (.int (7 : Int32)), .val (.int (7 : Int32)), .val (.int (6 : Int32))] [])) _
              refine XS.goto X31.here hx rfl (pc0 := 71) (pc' := 37) rfl (hb hby d3_71) (by decide) (by decide) ?_
              show Steps p.tables e below (T31.setTop (mkF m 37 #[.val (.long v), .second, .val (.int (7 : Int32)), .val (.int (7 : Int32)), .val (.int (6 : Int32))] [])) _
              refine XS.iloadN X31.here hx rfl (hb hby d3_37) rfl ?_
              show Steps p.tables e below (T31.setTop (mkF m 38 #[.val (.long v), .second, .val (.int (7 : Int32)), .val (.int (7 : Int32)), .val (.int (6 : Int32))] [(.int (7 : Int32))])) _
              refine XS.iloadN X31.here hx rfl (hb hby d3_38) rfl ?_
              show Steps p.tables e below (T31.setTop (mkF m 39 #[.val (.long v), .second, .val (.int (7 : Int32)), .val (.int (7 : Int32)), .val (.int (6 : Int32))] [(.int (7 : Int32)), (.int (7 : Int32))])) _
              refine XS.icmpYes X31.here hx rfl (pc0 := 39) (pc' := 74) rfl (hb hby d3_39) rfl (XT.ii_ge_t (by decide)) (by decide) (by decide) ?_
              show Steps p.tables e below (T31.setTop (mkF m 74 #[.val (.long v), .second, .val (.int (7 : Int32)), .val (.int (7 : Int32)), .val (.int (6 : Int32))] [])) _
              refine XS.iloadN X31.here hx rfl (hb hby d3_74) rfl ?_
              exact kt
            obtain ⟨fs, hr, hrun, hended, hW, hsame⟩ := X31.leave (v := some (.int (7 : Int32))) (fun h => by rw [Bd.returns] at h; cases h)
            refine ⟨_, _, pre35 _ ?_, hrun, hended, _, _, rfl, ?_, ⟨_, rfl⟩, hW, hsame.mono (by decide) (by decide)⟩
            · show Steps p.tables e below (T31.setTop (mkF m 75 #[.val (.long v), .second, .val (.int (7 : Int32)), .val (.int (7 : Int32)), .val (.int (6 : Int32))] [(.int (7 : Int32))])) _
              exact retI X31 hx Bd.returns (hb hby d3_75) hr
            · show Q1 Z (.int (cnt v.toInt)) h0 n0 _ T31.heap _
              rw [e31]
              exact ⟨by rw [cnt_7 (own_ge hc57_33 rfl) (own_lt hc57_30 rfl)], N0, rfl⟩
        · have pre36 : ∀ t, Steps p.tables e below (T28.setTop (mkF m 75 #[.val (.long v), .second, .val (.int (8 : Int32)), .val (.int (8 : Int32)), .val (.int (7 : Int32))] [(.int (8 : Int32))])) t → Steps p.tables e below (s₁.setTop (entryFrame m #[(.long v)] 5)) t := by
            intro t kt
            refine pre29 _ ?_
            show Steps p.tables e below (T28.setTop (mkF m 57 #[.val (.long v), .second, .val (.int (6 : Int32)), .val (.int (8 : Int32)), .val (.int (7 : Int32))] [(.int (XT.cmpL v (10000000 : Int64)))])) _
            refine XS.ifNo X28.here hx rfl (hb hby d3_57) rfl (XT.ll_lt_f hc57_30) ?_
            show Steps p.tables e below (T28.setTop (mkF m 60 #[.val (.long v), .second, .val (.int (6 : Int32)), .val (.int (8 : Int32)), .val (.int (7 : Int32))] [])) _
            refine XS.iload X28.here hx rfl (hb hby d3_60) rfl ?_
            show Steps p.tables e below (T28.setTop (mkF m 62 #[.val (.long v), .second, .val (.int (6 : Int32)), .val (.int (8 : Int32)), .val (.int (7 : Int32))] [(.int (7 : Int32))])) _
            refine XS.iconst X28.here hx rfl (hb hby d3_62) ?_
            show Steps p.tables e below (T28.setTop (mkF m 63 #[.val (.long v), .second, .val (.int (6 : Int32)), .val (.int (8 : Int32)), .val (.int (7 : Int32))] [(.int (1 : Int32)), (.int (7 : Int32))])) _
            refine XS.iadd X28.here hx rfl (hb hby d3_63) rfl ?_
            rw [show ((7 : Int32) + (1 : Int32)) = (8 : Int32) from rfl]
            show Steps p.tables e below (T28.setTop (mkF m 64 #[.val (.long v), .second, .val (.int (6 : Int32)), .val (.int (8 : Int32)), .val (.int (7 : Int32))] [(.int (8 : Int32))])) _
            refine XS.istoreN X28.here hx rfl (hb hby d3_64) rfl (l' := #[.val (.long v), .second, .val (.int (8 : Int32)), .val (.int (8 : Int32)), .val (.int (7 : Int32))]) rfl ?_
            show Steps p.tables e below (T28.setTop (mkF m 65 #[.val (.long v), .second, .val (.int (8 : Int32)), .val (.int (8 : Int32)), .val (.int (7 : Int32))] [])) _
            refine XS.goto X28.here hx rfl (pc0 := 65) (pc' := 71) rfl (hb hby d3_65) (by decide) (by decide) ?_
            show Steps p.tables e below (T28.setTop (mkF m 71 #[.val (.long v), .second, .val (.int (8 : Int32)), .val (.int (8 : Int32)), .val (.int (7 : Int32))] [])) _
            refine XS.goto X28.here hx rfl (pc0 := 71) (pc' := 37) rfl (hb hby d3_71) (by decide) (by decide) ?_
            show Steps p.tables e below (T28.setTop (mkF m 37 #[.val (.long v), .second, .val (.int (8 : Int32)), .val (.int (8 : Int32)), .val (.int (7 : Int32))] [])) _
            refine XS.iloadN X28.here hx rfl (hb hby d3_37) rfl ?_
            show Steps p.tables e below (T28.setTop (mkF m 38 #[.val (.long v), .second, .val (.int (8 : Int32)), .val (.int (8 : Int32)), .val (.int (7 : Int32))] [(.int (8 : Int32))])) _
            refine XS.iloadN X28.here hx rfl (hb hby d3_38) rfl ?_
            show Steps p.tables e below (T28.setTop (mkF m 39 #[.val (.long v), .second, .val (.int (8 : Int32)), .val (.int (8 : Int32)), .val (.int (7 : Int32))] [(.int (8 : Int32)), (.int (8 : Int32))])) _
            refine XS.icmpYes X28.here hx rfl (pc0 := 39) (pc' := 74) rfl (hb hby d3_39) rfl (XT.ii_ge_t (by decide)) (by decide) (by decide) ?_
            show Steps p.tables e below (T28.setTop (mkF m 74 #[.val (.long v), .second, .val (.int (8 : Int32)), .val (.int (8 : Int32)), .val (.int (7 : Int32))] [])) _
            refine XS.iloadN X28.here hx rfl (hb hby d3_74) rfl ?_
            exact kt
          obtain ⟨fs, hr, hrun, hended, hW, hsame⟩ := X28.leave (v := some (.int (8 : Int32))) (fun h => by rw [Bd.returns] at h; cases h)
          refine ⟨_, _, pre36 _ ?_, hrun, hended, _, _, rfl, ?_, ⟨_, rfl⟩, hW, hsame.mono (by decide) (by decide)⟩
          · show Steps p.tables e below (T28.setTop (mkF m 75 #[.val (.long v), .second, .val (.int (8 : Int32)), .val (.int (8 : Int32)), .val (.int (7 : Int32))] [(.int (8 : Int32))])) _
            exact retI X28 hx Bd.returns (hb hby d3_75) hr
          · show Q1 Z (.int (cnt v.toInt)) h0 n0 _ T28.heap _
            rw [e28]
            exact ⟨by rw [cnt_8 (own_ge hc57_30 rfl) (own_lt hc57_27 rfl)], N0, rfl⟩
      · obtain ⟨T37, X37, e37, st37⟩ := getS2 X25 hx hZ hown (host := "") (Or.inl (hw _ (List.mem_of_getElem? (i := 4) rfl))) Via.refl e25 S_P (g := (mkF m 50 #[.val (.long v), .second, .val (.int (9 : Int32)), .val (.int (10 : Int32)), .val (.int (9 : Int32))] [(.long v)])) rfl (hb hby d3_50)
        have pre38 : ∀ t, Steps p.tables e below (T37.setTop (mkF m 57 #[.val (.long v), .second, .val (.int (9 : Int32)), .val (.int (10 : Int32)), .val (.int (9 : Int32))] [(.int (XT.cmpL v (1000000000 : Int64)))])) t → Steps p.tables e below (s₁.setTop (entryFrame m #[(.long v)] 5)) t := by
          intro t kt
          refine pre26 _ ?_
          show Steps p.tables e below (T25.setTop (mkF m 57 #[.val (.long v), .second, .val (.int (6 : Int32)), .val (.int (10 : Int32)), .val (.int (8 : Int32))] [(.int (XT.cmpL v (100000000 : Int64)))])) _
          refine XS.ifNo X25.here hx rfl (hb hby d3_57) rfl (XT.ll_lt_f hc57_27) ?_
          show Steps p.tables e below (T25.setTop (mkF m 60 #[.val (.long v), .second, .val (.int (6 : Int32)), .val (.int (10 : Int32)), .val (.int (8 : Int32))] [])) _
          refine XS.iload X25.here hx rfl (hb hby d3_60) rfl ?_
          show Steps p.tables e below (T25.setTop (mkF m 62 #[.val (.long v), .second, .val (.int (6 : Int32)), .val (.int (10 : Int32)), .val (.int (8 : Int32))] [(.int (8 : Int32))])) _
          refine XS.iconst X25.here hx rfl (hb hby d3_62) ?_
          show Steps p.tables e below (T25.setTop (mkF m 63 #[.val (.long v), .second, .val (.int (6 : Int32)), .val (.int (10 : Int32)), .val (.int (8 : Int32))] [(.int (1 : Int32)), (.int (8 : Int32))])) _
          refine XS.iadd X25.here hx rfl (hb hby d3_63) rfl ?_
          rw [show ((8 : Int32) + (1 : Int32)) = (9 : Int32) from rfl]
          show Steps p.tables e below (T25.setTop (mkF m 64 #[.val (.long v), .second, .val (.int (6 : Int32)), .val (.int (10 : Int32)), .val (.int (8 : Int32))] [(.int (9 : Int32))])) _
          refine XS.istoreN X25.here hx rfl (hb hby d3_64) rfl (l' := #[.val (.long v), .second, .val (.int (9 : Int32)), .val (.int (10 : Int32)), .val (.int (8 : Int32))]) rfl ?_
          show Steps p.tables e below (T25.setTop (mkF m 65 #[.val (.long v), .second, .val (.int (9 : Int32)), .val (.int (10 : Int32)), .val (.int (8 : Int32))] [])) _
          refine XS.goto X25.here hx rfl (pc0 := 65) (pc' := 71) rfl (hb hby d3_65) (by decide) (by decide) ?_
          show Steps p.tables e below (T25.setTop (mkF m 71 #[.val (.long v), .second, .val (.int (9 : Int32)), .val (.int (10 : Int32)), .val (.int (8 : Int32))] [])) _
          refine XS.goto X25.here hx rfl (pc0 := 71) (pc' := 37) rfl (hb hby d3_71) (by decide) (by decide) ?_
          show Steps p.tables e below (T25.setTop (mkF m 37 #[.val (.long v), .second, .val (.int (9 : Int32)), .val (.int (10 : Int32)), .val (.int (8 : Int32))] [])) _
          refine XS.iloadN X25.here hx rfl (hb hby d3_37) rfl ?_
          show Steps p.tables e below (T25.setTop (mkF m 38 #[.val (.long v), .second, .val (.int (9 : Int32)), .val (.int (10 : Int32)), .val (.int (8 : Int32))] [(.int (9 : Int32))])) _
          refine XS.iloadN X25.here hx rfl (hb hby d3_38) rfl ?_
          show Steps p.tables e below (T25.setTop (mkF m 39 #[.val (.long v), .second, .val (.int (9 : Int32)), .val (.int (10 : Int32)), .val (.int (8 : Int32))] [(.int (10 : Int32)), (.int (9 : Int32))])) _
          refine XS.icmpNo X25.here hx rfl (hb hby d3_39) rfl (XT.ii_ge_f (by decide)) ?_
          show Steps p.tables e below (T25.setTop (mkF m 42 #[.val (.long v), .second, .val (.int (9 : Int32)), .val (.int (10 : Int32)), .val (.int (8 : Int32))] [])) _
          refine XS.iloadN X25.here hx rfl (hb hby d3_42) rfl ?_
          show Steps p.tables e below (T25.setTop (mkF m 43 #[.val (.long v), .second, .val (.int (9 : Int32)), .val (.int (10 : Int32)), .val (.int (8 : Int32))] [(.int (9 : Int32))])) _
          refine XS.iloadN X25.here hx rfl (hb hby d3_43) rfl ?_
          show Steps p.tables e below (T25.setTop (mkF m 44 #[.val (.long v), .second, .val (.int (9 : Int32)), .val (.int (10 : Int32)), .val (.int (8 : Int32))] [(.int (10 : Int32)), (.int (9 : Int32))])) _
          refine XS.iadd X25.here hx rfl (hb hby d3_44) rfl ?_
          rw [show ((9 : Int32) + (10 : Int32)) = (19 : Int32) from rfl]
          show Steps p.tables e below (T25.setTop (mkF m 45 #[.val (.long v), .second, .val (.int (9 : Int32)), .val (.int (10 : Int32)), .val (.int (8 : Int32))] [(.int (19 : Int32))])) _
          refine XS.iconst X25.here hx rfl (hb hby d3_45) ?_
          show Steps p.tables e below (T25.setTop (mkF m 46 #[.val (.long v), .second, .val (.int (9 : Int32)), .val (.int (10 : Int32)), .val (.int (8 : Int32))] [(.int (1 : Int32)), (.int (19 : Int32))])) _
          refine XT.iushr X25.here hx rfl (hb hby d3_46) rfl ?_
          rw [show XT.ushr (19 : Int32) (1 : Int32) = (9 : Int32) from by decide]
          show Steps p.tables e below (T25.setTop (mkF m 47 #[.val (.long v), .second, .val (.int (9 : Int32)), .val (.int (10 : Int32)), .val (.int (8 : Int32))] [(.int (9 : Int32))])) _
          refine XS.istore X25.here hx rfl (hb hby d3_47) rfl (l' := #[.val (.long v), .second, .val (.int (9 : Int32)), .val (.int (10 : Int32)), .val (.int (9 : Int32))]) rfl ?_
          show Steps p.tables e below (T25.setTop (mkF m 49 #[.val (.long v), .second, .val (.int (9 : Int32)), .val (.int (10 : Int32)), .val (.int (9 : Int32))] [])) _
          refine XS.lloadN X25.here hx rfl (hb hby d3_49) rfl ?_
          show Steps p.tables e below (T25.setTop (mkF m 50 #[.val (.long v), .second, .val (.int (9 : Int32)), .val (.int (10 : Int32)), .val (.int (9 : Int32))] [(.long v)])) _
          refine st37 _ ?_
          show Steps p.tables e below (T37.setTop (mkF m 53 #[.val (.long v), .second, .val (.int (9 : Int32)), .val (.int (10 : Int32)), .val (.int (9 : Int32))] [(.ref pa), (.long v)])) _
          refine XS.iload X37.here hx rfl (hb hby d3_53) rfl ?_
          show Steps p.tables e below (T37.setTop (mkF m 55 #[.val (.long v), .second, .val (.int (9 : Int32)), .val (.int (10 : Int32)), .val (.int (9 : Int32))] [(.int (9 : Int32)), (.ref pa), (.long v)])) _
          refine X37.laload hx (j := (9 : Int32)) (v := (.long (1000000000 : Int64))) (by rw [e37]; exact Ar.1) (State.isArrayOf_alike hZ.alike Ar.2.1) Ar.2.2 El9.1 El9.2 (g := (mkF m 55 #[.val (.long v), .second, .val (.int (9 : Int32)), .val (.int (10 : Int32)), .val (.int (9 : Int32))] [(.int (9 : Int32)), (.ref pa), (.long v)])) rfl rfl (hb hby d3_55) _ ?_
          show Steps p.tables e below (T37.setTop (mkF m 56 #[.val (.long v), .second, .val (.int (9 : Int32)), .val (.int (10 : Int32)), .val (.int (9 : Int32))] [(.long (1000000000 : Int64)), (.long v)])) _
          refine XT.lcmp X37.here hx rfl (hb hby d3_56) rfl ?_
          exact kt
        by_cases hc57_39 : v < (1000000000 : Int64)
        · have pre40 : ∀ t, Steps p.tables e below (T37.setTop (mkF m 75 #[.val (.long v), .second, .val (.int (9 : Int32)), .val (.int (9 : Int32)), .val (.int (9 : Int32))] [(.int (9 : Int32))])) t → Steps p.tables e below (s₁.setTop (entryFrame m #[(.long v)] 5)) t := by
            intro t kt
            refine pre38 _ ?_
            show Steps p.tables e below (T37.setTop (mkF m 57 #[.val (.long v), .second, .val (.int (9 : Int32)), .val (.int (10 : Int32)), .val (.int (9 : Int32))] [(.int (XT.cmpL v (1000000000 : Int64)))])) _
            refine XS.ifYes X37.here hx rfl (pc0 := 57) (pc' := 68) rfl (hb hby d3_57) rfl (XT.ll_lt_t hc57_39) (by decide) (by decide) ?_
            show Steps p.tables e below (T37.setTop (mkF m 68 #[.val (.long v), .second, .val (.int (9 : Int32)), .val (.int (10 : Int32)), .val (.int (9 : Int32))] [])) _
            refine XS.iload X37.here hx rfl (hb hby d3_68) rfl ?_
            show Steps p.tables e below (T37.setTop (mkF m 70 #[.val (.long v), .second, .val (.int (9 : Int32)), .val (.int (10 : Int32)), .val (.int (9 : Int32))] [(.int (9 : Int32))])) _
            refine XS.istoreN X37.here hx rfl (hb hby d3_70) rfl (l' := #[.val (.long v), .second, .val (.int (9 : Int32)), .val (.int (9 : Int32)), .val (.int (9 : Int32))]) rfl ?_
            show Steps p.tables e below (T37.setTop (mkF m 71 #[.val (.long v), .second, .val (.int (9 : Int32)), .val (.int (9 : Int32)), .val (.int (9 : Int32))] [])) _
            refine XS.goto X37.here hx rfl (pc0 := 71) (pc' := 37) rfl (hb hby d3_71) (by decide) (by decide) ?_
            show Steps p.tables e below (T37.setTop (mkF m 37 #[.val (.long v), .second, .val (.int (9 : Int32)), .val (.int (9 : Int32)), .val (.int (9 : Int32))] [])) _
            refine XS.iloadN X37.here hx rfl (hb hby d3_37) rfl ?_
            show Steps p.tables e below (T37.setTop (mkF m 38 #[.val (.long v), .second, .val (.int (9 : Int32)), .val (.int (9 : Int32)), .val (.int (9 : Int32))] [(.int (9 : Int32))])) _
            refine XS.iloadN X37.here hx rfl (hb hby d3_38) rfl ?_
            show Steps p.tables e below (T37.setTop (mkF m 39 #[.val (.long v), .second, .val (.int (9 : Int32)), .val (.int (9 : Int32)), .val (.int (9 : Int32))] [(.int (9 : Int32)), (.int (9 : Int32))])) _
            refine XS.icmpYes X37.here hx rfl (pc0 := 39) (pc' := 74) rfl (hb hby d3_39) rfl (XT.ii_ge_t (by decide)) (by decide) (by decide) ?_
            show Steps p.tables e below (T37.setTop (mkF m 74 #[.val (.long v), .second, .val (.int (9 : Int32)), .val (.int (9 : Int32)), .val (.int (9 : Int32))] [])) _
            refine XS.iloadN X37.here hx rfl (hb hby d3_74) rfl ?_
            exact kt
          obtain ⟨fs, hr, hrun, hended, hW, hsame⟩ := X37.leave (v := some (.int (9 : Int32))) (fun h => by rw [Bd.returns] at h; cases h)
          refine ⟨_, _, pre40 _ ?_, hrun, hended, _, _, rfl, ?_, ⟨_, rfl⟩, hW, hsame.mono (by decide) (by decide)⟩
          · show Steps p.tables e below (T37.setTop (mkF m 75 #[.val (.long v), .second, .val (.int (9 : Int32)), .val (.int (9 : Int32)), .val (.int (9 : Int32))] [(.int (9 : Int32))])) _
            exact retI X37 hx Bd.returns (hb hby d3_75) hr
          · show Q1 Z (.int (cnt v.toInt)) h0 n0 _ T37.heap _
            rw [e37]
            exact ⟨by rw [cnt_9 (own_ge hc57_27 rfl) (own_lt hc57_39 rfl)], N0, rfl⟩
        · have pre41 : ∀ t, Steps p.tables e below (T37.setTop (mkF m 75 #[.val (.long v), .second, .val (.int (10 : Int32)), .val (.int (10 : Int32)), .val (.int (9 : Int32))] [(.int (10 : Int32))])) t → Steps p.tables e below (s₁.setTop (entryFrame m #[(.long v)] 5)) t := by
            intro t kt
            refine pre38 _ ?_
            show Steps p.tables e below (T37.setTop (mkF m 57 #[.val (.long v), .second, .val (.int (9 : Int32)), .val (.int (10 : Int32)), .val (.int (9 : Int32))] [(.int (XT.cmpL v (1000000000 : Int64)))])) _
            refine XS.ifNo X37.here hx rfl (hb hby d3_57) rfl (XT.ll_lt_f hc57_39) ?_
            show Steps p.tables e below (T37.setTop (mkF m 60 #[.val (.long v), .second, .val (.int (9 : Int32)), .val (.int (10 : Int32)), .val (.int (9 : Int32))] [])) _
            refine XS.iload X37.here hx rfl (hb hby d3_60) rfl ?_
            show Steps p.tables e below (T37.setTop (mkF m 62 #[.val (.long v), .second, .val (.int (9 : Int32)), .val (.int (10 : Int32)), .val (.int (9 : Int32))] [(.int (9 : Int32))])) _
            refine XS.iconst X37.here hx rfl (hb hby d3_62) ?_
            show Steps p.tables e below (T37.setTop (mkF m 63 #[.val (.long v), .second, .val (.int (9 : Int32)), .val (.int (10 : Int32)), .val (.int (9 : Int32))] [(.int (1 : Int32)), (.int (9 : Int32))])) _
            refine XS.iadd X37.here hx rfl (hb hby d3_63) rfl ?_
            rw [show ((9 : Int32) + (1 : Int32)) = (10 : Int32) from rfl]
            show Steps p.tables e below (T37.setTop (mkF m 64 #[.val (.long v), .second, .val (.int (9 : Int32)), .val (.int (10 : Int32)), .val (.int (9 : Int32))] [(.int (10 : Int32))])) _
            refine XS.istoreN X37.here hx rfl (hb hby d3_64) rfl (l' := #[.val (.long v), .second, .val (.int (10 : Int32)), .val (.int (10 : Int32)), .val (.int (9 : Int32))]) rfl ?_
            show Steps p.tables e below (T37.setTop (mkF m 65 #[.val (.long v), .second, .val (.int (10 : Int32)), .val (.int (10 : Int32)), .val (.int (9 : Int32))] [])) _
            refine XS.goto X37.here hx rfl (pc0 := 65) (pc' := 71) rfl (hb hby d3_65) (by decide) (by decide) ?_
            show Steps p.tables e below (T37.setTop (mkF m 71 #[.val (.long v), .second, .val (.int (10 : Int32)), .val (.int (10 : Int32)), .val (.int (9 : Int32))] [])) _
            refine XS.goto X37.here hx rfl (pc0 := 71) (pc' := 37) rfl (hb hby d3_71) (by decide) (by decide) ?_
            show Steps p.tables e below (T37.setTop (mkF m 37 #[.val (.long v), .second, .val (.int (10 : Int32)), .val (.int (10 : Int32)), .val (.int (9 : Int32))] [])) _
            refine XS.iloadN X37.here hx rfl (hb hby d3_37) rfl ?_
            show Steps p.tables e below (T37.setTop (mkF m 38 #[.val (.long v), .second, .val (.int (10 : Int32)), .val (.int (10 : Int32)), .val (.int (9 : Int32))] [(.int (10 : Int32))])) _
            refine XS.iloadN X37.here hx rfl (hb hby d3_38) rfl ?_
            show Steps p.tables e below (T37.setTop (mkF m 39 #[.val (.long v), .second, .val (.int (10 : Int32)), .val (.int (10 : Int32)), .val (.int (9 : Int32))] [(.int (10 : Int32)), (.int (10 : Int32))])) _
            refine XS.icmpYes X37.here hx rfl (pc0 := 39) (pc' := 74) rfl (hb hby d3_39) rfl (XT.ii_ge_t (by decide)) (by decide) (by decide) ?_
            show Steps p.tables e below (T37.setTop (mkF m 74 #[.val (.long v), .second, .val (.int (10 : Int32)), .val (.int (10 : Int32)), .val (.int (9 : Int32))] [])) _
            refine XS.iloadN X37.here hx rfl (hb hby d3_74) rfl ?_
            exact kt
          obtain ⟨fs, hr, hrun, hended, hW, hsame⟩ := X37.leave (v := some (.int (10 : Int32))) (fun h => by rw [Bd.returns] at h; cases h)
          refine ⟨_, _, pre41 _ ?_, hrun, hended, _, _, rfl, ?_, ⟨_, rfl⟩, hW, hsame.mono (by decide) (by decide)⟩
          · show Steps p.tables e below (T37.setTop (mkF m 75 #[.val (.long v), .second, .val (.int (10 : Int32)), .val (.int (10 : Int32)), .val (.int (9 : Int32))] [(.int (10 : Int32))])) _
            exact retI X37 hx Bd.returns (hb hby d3_75) hr
          · show Q1 Z (.int (cnt v.toInt)) h0 n0 _ T37.heap _
            rw [e37]
            exact ⟨by rw [cnt_10 (own_ge hc57_39 rfl) (own_lt hc57_4 rfl)], N0, rfl⟩
  · obtain ⟨T42, X42, e42, st42⟩ := getS2 X2 hx hZ hown (host := "") (Or.inl (hw _ (List.mem_of_getElem? (i := 4) rfl))) Via.refl e2 S_P (g := (mkF m 50 #[.val (.long v), .second, .val (.int (11 : Int32)), .val (.int (19 : Int32)), .val (.int (15 : Int32))] [(.long v)])) rfl (hb hby d3_50)
    have pre43 : ∀ t, Steps p.tables e below (T42.setTop (mkF m 57 #[.val (.long v), .second, .val (.int (11 : Int32)), .val (.int (19 : Int32)), .val (.int (15 : Int32))] [(.int (XT.cmpL v (1000000000000000 : Int64)))])) t → Steps p.tables e below (s₁.setTop (entryFrame m #[(.long v)] 5)) t := by
      intro t kt
      refine pre3 _ ?_
      show Steps p.tables e below (T2.setTop (mkF m 57 #[.val (.long v), .second, .val (.int (1 : Int32)), .val (.int (19 : Int32)), .val (.int (10 : Int32))] [(.int (XT.cmpL v (10000000000 : Int64)))])) _
      refine XS.ifNo X2.here hx rfl (hb hby d3_57) rfl (XT.ll_lt_f hc57_4) ?_
      show Steps p.tables e below (T2.setTop (mkF m 60 #[.val (.long v), .second, .val (.int (1 : Int32)), .val (.int (19 : Int32)), .val (.int (10 : Int32))] [])) _
      refine XS.iload X2.here hx rfl (hb hby d3_60) rfl ?_
      show Steps p.tables e below (T2.setTop (mkF m 62 #[.val (.long v), .second, .val (.int (1 : Int32)), .val (.int (19 : Int32)), .val (.int (10 : Int32))] [(.int (10 : Int32))])) _
      refine XS.iconst X2.here hx rfl (hb hby d3_62) ?_
      show Steps p.tables e below (T2.setTop (mkF m 63 #[.val (.long v), .second, .val (.int (1 : Int32)), .val (.int (19 : Int32)), .val (.int (10 : Int32))] [(.int (1 : Int32)), (.int (10 : Int32))])) _
      refine XS.iadd X2.here hx rfl (hb hby d3_63) rfl ?_
      rw [show ((10 : Int32) + (1 : Int32)) = (11 : Int32) from rfl]
      show Steps p.tables e below (T2.setTop (mkF m 64 #[.val (.long v), .second, .val (.int (1 : Int32)), .val (.int (19 : Int32)), .val (.int (10 : Int32))] [(.int (11 : Int32))])) _
      refine XS.istoreN X2.here hx rfl (hb hby d3_64) rfl (l' := #[.val (.long v), .second, .val (.int (11 : Int32)), .val (.int (19 : Int32)), .val (.int (10 : Int32))]) rfl ?_
      show Steps p.tables e below (T2.setTop (mkF m 65 #[.val (.long v), .second, .val (.int (11 : Int32)), .val (.int (19 : Int32)), .val (.int (10 : Int32))] [])) _
      refine XS.goto X2.here hx rfl (pc0 := 65) (pc' := 71) rfl (hb hby d3_65) (by decide) (by decide) ?_
      show Steps p.tables e below (T2.setTop (mkF m 71 #[.val (.long v), .second, .val (.int (11 : Int32)), .val (.int (19 : Int32)), .val (.int (10 : Int32))] [])) _
      refine XS.goto X2.here hx rfl (pc0 := 71) (pc' := 37) rfl (hb hby d3_71) (by decide) (by decide) ?_
      show Steps p.tables e below (T2.setTop (mkF m 37 #[.val (.long v), .second, .val (.int (11 : Int32)), .val (.int (19 : Int32)), .val (.int (10 : Int32))] [])) _
      refine XS.iloadN X2.here hx rfl (hb hby d3_37) rfl ?_
      show Steps p.tables e below (T2.setTop (mkF m 38 #[.val (.long v), .second, .val (.int (11 : Int32)), .val (.int (19 : Int32)), .val (.int (10 : Int32))] [(.int (11 : Int32))])) _
      refine XS.iloadN X2.here hx rfl (hb hby d3_38) rfl ?_
      show Steps p.tables e below (T2.setTop (mkF m 39 #[.val (.long v), .second, .val (.int (11 : Int32)), .val (.int (19 : Int32)), .val (.int (10 : Int32))] [(.int (19 : Int32)), (.int (11 : Int32))])) _
      refine XS.icmpNo X2.here hx rfl (hb hby d3_39) rfl (XT.ii_ge_f (by decide)) ?_
      show Steps p.tables e below (T2.setTop (mkF m 42 #[.val (.long v), .second, .val (.int (11 : Int32)), .val (.int (19 : Int32)), .val (.int (10 : Int32))] [])) _
      refine XS.iloadN X2.here hx rfl (hb hby d3_42) rfl ?_
      show Steps p.tables e below (T2.setTop (mkF m 43 #[.val (.long v), .second, .val (.int (11 : Int32)), .val (.int (19 : Int32)), .val (.int (10 : Int32))] [(.int (11 : Int32))])) _
      refine XS.iloadN X2.here hx rfl (hb hby d3_43) rfl ?_
      show Steps p.tables e below (T2.setTop (mkF m 44 #[.val (.long v), .second, .val (.int (11 : Int32)), .val (.int (19 : Int32)), .val (.int (10 : Int32))] [(.int (19 : Int32)), (.int (11 : Int32))])) _
      refine XS.iadd X2.here hx rfl (hb hby d3_44) rfl ?_
      rw [show ((11 : Int32) + (19 : Int32)) = (30 : Int32) from rfl]
      show Steps p.tables e below (T2.setTop (mkF m 45 #[.val (.long v), .second, .val (.int (11 : Int32)), .val (.int (19 : Int32)), .val (.int (10 : Int32))] [(.int (30 : Int32))])) _
      refine XS.iconst X2.here hx rfl (hb hby d3_45) ?_
      show Steps p.tables e below (T2.setTop (mkF m 46 #[.val (.long v), .second, .val (.int (11 : Int32)), .val (.int (19 : Int32)), .val (.int (10 : Int32))] [(.int (1 : Int32)), (.int (30 : Int32))])) _
      refine XT.iushr X2.here hx rfl (hb hby d3_46) rfl ?_
      rw [show XT.ushr (30 : Int32) (1 : Int32) = (15 : Int32) from by decide]
      show Steps p.tables e below (T2.setTop (mkF m 47 #[.val (.long v), .second, .val (.int (11 : Int32)), .val (.int (19 : Int32)), .val (.int (10 : Int32))] [(.int (15 : Int32))])) _
      refine XS.istore X2.here hx rfl (hb hby d3_47) rfl (l' := #[.val (.long v), .second, .val (.int (11 : Int32)), .val (.int (19 : Int32)), .val (.int (15 : Int32))]) rfl ?_
      show Steps p.tables e below (T2.setTop (mkF m 49 #[.val (.long v), .second, .val (.int (11 : Int32)), .val (.int (19 : Int32)), .val (.int (15 : Int32))] [])) _
      refine XS.lloadN X2.here hx rfl (hb hby d3_49) rfl ?_
      show Steps p.tables e below (T2.setTop (mkF m 50 #[.val (.long v), .second, .val (.int (11 : Int32)), .val (.int (19 : Int32)), .val (.int (15 : Int32))] [(.long v)])) _
      refine st42 _ ?_
      show Steps p.tables e below (T42.setTop (mkF m 53 #[.val (.long v), .second, .val (.int (11 : Int32)), .val (.int (19 : Int32)), .val (.int (15 : Int32))] [(.ref pa), (.long v)])) _
      refine XS.iload X42.here hx rfl (hb hby d3_53) rfl ?_
      show Steps p.tables e below (T42.setTop (mkF m 55 #[.val (.long v), .second, .val (.int (11 : Int32)), .val (.int (19 : Int32)), .val (.int (15 : Int32))] [(.int (15 : Int32)), (.ref pa), (.long v)])) _
      refine X42.laload hx (j := (15 : Int32)) (v := (.long (1000000000000000 : Int64))) (by rw [e42]; exact Ar.1) (State.isArrayOf_alike hZ.alike Ar.2.1) Ar.2.2 El15.1 El15.2 (g := (mkF m 55 #[.val (.long v), .second, .val (.int (11 : Int32)), .val (.int (19 : Int32)), .val (.int (15 : Int32))] [(.int (15 : Int32)), (.ref pa), (.long v)])) rfl rfl (hb hby d3_55) _ ?_
      show Steps p.tables e below (T42.setTop (mkF m 56 #[.val (.long v), .second, .val (.int (11 : Int32)), .val (.int (19 : Int32)), .val (.int (15 : Int32))] [(.long (1000000000000000 : Int64)), (.long v)])) _
      refine XT.lcmp X42.here hx rfl (hb hby d3_56) rfl ?_
      exact kt
    by_cases hc57_44 : v < (1000000000000000 : Int64)
    · obtain ⟨T45, X45, e45, st45⟩ := getS2 X42 hx hZ hown (host := "") (Or.inl (hw _ (List.mem_of_getElem? (i := 4) rfl))) Via.refl e42 S_P (g := (mkF m 50 #[.val (.long v), .second, .val (.int (11 : Int32)), .val (.int (15 : Int32)), .val (.int (13 : Int32))] [(.long v)])) rfl (hb hby d3_50)
      have pre46 : ∀ t, Steps p.tables e below (T45.setTop (mkF m 57 #[.val (.long v), .second, .val (.int (11 : Int32)), .val (.int (15 : Int32)), .val (.int (13 : Int32))] [(.int (XT.cmpL v (10000000000000 : Int64)))])) t → Steps p.tables e below (s₁.setTop (entryFrame m #[(.long v)] 5)) t := by
        intro t kt
        refine pre43 _ ?_
        show Steps p.tables e below (T42.setTop (mkF m 57 #[.val (.long v), .second, .val (.int (11 : Int32)), .val (.int (19 : Int32)), .val (.int (15 : Int32))] [(.int (XT.cmpL v (1000000000000000 : Int64)))])) _
        refine XS.ifYes X42.here hx rfl (pc0 := 57) (pc' := 68) rfl (hb hby d3_57) rfl (XT.ll_lt_t hc57_44) (by decide) (by decide) ?_
        show Steps p.tables e below (T42.setTop (mkF m 68 #[.val (.long v), .second, .val (.int (11 : Int32)), .val (.int (19 : Int32)), .val (.int (15 : Int32))] [])) _
        refine XS.iload X42.here hx rfl (hb hby d3_68) rfl ?_
        show Steps p.tables e below (T42.setTop (mkF m 70 #[.val (.long v), .second, .val (.int (11 : Int32)), .val (.int (19 : Int32)), .val (.int (15 : Int32))] [(.int (15 : Int32))])) _
        refine XS.istoreN X42.here hx rfl (hb hby d3_70) rfl (l' := #[.val (.long v), .second, .val (.int (11 : Int32)), .val (.int (15 : Int32)), .val (.int (15 : Int32))]) rfl ?_
        show Steps p.tables e below (T42.setTop (mkF m 71 #[.val (.long v), .second, .val (.int (11 : Int32)), .val (.int (15 : Int32)), .val (.int (15 : Int32))] [])) _
        refine XS.goto X42.here hx rfl (pc0 := 71) (pc' := 37) rfl (hb hby d3_71) (by decide) (by decide) ?_
        show Steps p.tables e below (T42.setTop (mkF m 37 #[.val (.long v), .second, .val (.int (11 : Int32)), .val (.int (15 : Int32)), .val (.int (15 : Int32))] [])) _
        refine XS.iloadN X42.here hx rfl (hb hby d3_37) rfl ?_
        show Steps p.tables e below (T42.setTop (mkF m 38 #[.val (.long v), .second, .val (.int (11 : Int32)), .val (.int (15 : Int32)), .val (.int (15 : Int32))] [(.int (11 : Int32))])) _
        refine XS.iloadN X42.here hx rfl (hb hby d3_38) rfl ?_
        show Steps p.tables e below (T42.setTop (mkF m 39 #[.val (.long v), .second, .val (.int (11 : Int32)), .val (.int (15 : Int32)), .val (.int (15 : Int32))] [(.int (15 : Int32)), (.int (11 : Int32))])) _
        refine XS.icmpNo X42.here hx rfl (hb hby d3_39) rfl (XT.ii_ge_f (by decide)) ?_
        show Steps p.tables e below (T42.setTop (mkF m 42 #[.val (.long v), .second, .val (.int (11 : Int32)), .val (.int (15 : Int32)), .val (.int (15 : Int32))] [])) _
        refine XS.iloadN X42.here hx rfl (hb hby d3_42) rfl ?_
        show Steps p.tables e below (T42.setTop (mkF m 43 #[.val (.long v), .second, .val (.int (11 : Int32)), .val (.int (15 : Int32)), .val (.int (15 : Int32))] [(.int (11 : Int32))])) _
        refine XS.iloadN X42.here hx rfl (hb hby d3_43) rfl ?_
        show Steps p.tables e below (T42.setTop (mkF m 44 #[.val (.long v), .second, .val (.int (11 : Int32)), .val (.int (15 : Int32)), .val (.int (15 : Int32))] [(.int (15 : Int32)), (.int (11 : Int32))])) _
        refine XS.iadd X42.here hx rfl (hb hby d3_44) rfl ?_
        rw [show ((11 : Int32) + (15 : Int32)) = (26 : Int32) from rfl]
        show Steps p.tables e below (T42.setTop (mkF m 45 #[.val (.long v), .second, .val (.int (11 : Int32)), .val (.int (15 : Int32)), .val (.int (15 : Int32))] [(.int (26 : Int32))])) _
        refine XS.iconst X42.here hx rfl (hb hby d3_45) ?_
        show Steps p.tables e below (T42.setTop (mkF m 46 #[.val (.long v), .second, .val (.int (11 : Int32)), .val (.int (15 : Int32)), .val (.int (15 : Int32))] [(.int (1 : Int32)), (.int (26 : Int32))])) _
        refine XT.iushr X42.here hx rfl (hb hby d3_46) rfl ?_
        rw [show XT.ushr (26 : Int32) (1 : Int32) = (13 : Int32) from by decide]
        show Steps p.tables e below (T42.setTop (mkF m 47 #[.val (.long v), .second, .val (.int (11 : Int32)), .val (.int (15 : Int32)), .val (.int (15 : Int32))] [(.int (13 : Int32))])) _
        refine XS.istore X42.here hx rfl (hb hby d3_47) rfl (l' := #[.val (.long v), .second, .val (.int (11 : Int32)), .val (.int (15 : Int32)), .val (.int (13 : Int32))]) rfl ?_
        show Steps p.tables e below (T42.setTop (mkF m 49 #[.val (.long v), .second, .val (.int (11 : Int32)), .val (.int (15 : Int32)), .val (.int (13 : Int32))] [])) _
        refine XS.lloadN X42.here hx rfl (hb hby d3_49) rfl ?_
        show Steps p.tables e below (T42.setTop (mkF m 50 #[.val (.long v), .second, .val (.int (11 : Int32)), .val (.int (15 : Int32)), .val (.int (13 : Int32))] [(.long v)])) _
        refine st45 _ ?_
        show Steps p.tables e below (T45.setTop (mkF m 53 #[.val (.long v), .second, .val (.int (11 : Int32)), .val (.int (15 : Int32)), .val (.int (13 : Int32))] [(.ref pa), (.long v)])) _
        refine XS.iload X45.here hx rfl (hb hby d3_53) rfl ?_
        show Steps p.tables e below (T45.setTop (mkF m 55 #[.val (.long v), .second, .val (.int (11 : Int32)), .val (.int (15 : Int32)), .val (.int (13 : Int32))] [(.int (13 : Int32)), (.ref pa), (.long v)])) _
        refine X45.laload hx (j := (13 : Int32)) (v := (.long (10000000000000 : Int64))) (by rw [e45]; exact Ar.1) (State.isArrayOf_alike hZ.alike Ar.2.1) Ar.2.2 El13.1 El13.2 (g := (mkF m 55 #[.val (.long v), .second, .val (.int (11 : Int32)), .val (.int (15 : Int32)), .val (.int (13 : Int32))] [(.int (13 : Int32)), (.ref pa), (.long v)])) rfl rfl (hb hby d3_55) _ ?_
        show Steps p.tables e below (T45.setTop (mkF m 56 #[.val (.long v), .second, .val (.int (11 : Int32)), .val (.int (15 : Int32)), .val (.int (13 : Int32))] [(.long (10000000000000 : Int64)), (.long v)])) _
        refine XT.lcmp X45.here hx rfl (hb hby d3_56) rfl ?_
        exact kt
      by_cases hc57_47 : v < (10000000000000 : Int64)
      · obtain ⟨T48, X48, e48, st48⟩ := getS2 X45 hx hZ hown (host := "") (Or.inl (hw _ (List.mem_of_getElem? (i := 4) rfl))) Via.refl e45 S_P (g := (mkF m 50 #[.val (.long v), .second, .val (.int (11 : Int32)), .val (.int (13 : Int32)), .val (.int (12 : Int32))] [(.long v)])) rfl (hb hby d3_50)
        have pre49 : ∀ t, Steps p.tables e below (T48.setTop (mkF m 57 #[.val (.long v), .second, .val (.int (11 : Int32)), .val (.int (13 : Int32)), .val (.int (12 : Int32))] [(.int (XT.cmpL v (1000000000000 : Int64)))])) t → Steps p.tables e below (s₁.setTop (entryFrame m #[(.long v)] 5)) t := by
          intro t kt
          refine pre46 _ ?_
          show Steps p.tables e below (T45.setTop (mkF m 57 #[.val (.long v), .second, .val (.int (11 : Int32)), .val (.int (15 : Int32)), .val (.int (13 : Int32))] [(.int (XT.cmpL v (10000000000000 : Int64)))])) _
          refine XS.ifYes X45.here hx rfl (pc0 := 57) (pc' := 68) rfl (hb hby d3_57) rfl (XT.ll_lt_t hc57_47) (by decide) (by decide) ?_
          show Steps p.tables e below (T45.setTop (mkF m 68 #[.val (.long v), .second, .val (.int (11 : Int32)), .val (.int (15 : Int32)), .val (.int (13 : Int32))] [])) _
          refine XS.iload X45.here hx rfl (hb hby d3_68) rfl ?_
          show Steps p.tables e below (T45.setTop (mkF m 70 #[.val (.long v), .second, .val (.int (11 : Int32)), .val (.int (15 : Int32)), .val (.int (13 : Int32))] [(.int (13 : Int32))])) _
          refine XS.istoreN X45.here hx rfl (hb hby d3_70) rfl (l' := #[.val (.long v), .second, .val (.int (11 : Int32)), .val (.int (13 : Int32)), .val (.int (13 : Int32))]) rfl ?_
          show Steps p.tables e below (T45.setTop (mkF m 71 #[.val (.long v), .second, .val (.int (11 : Int32)), .val (.int (13 : Int32)), .val (.int (13 : Int32))] [])) _
          refine XS.goto X45.here hx rfl (pc0 := 71) (pc' := 37) rfl (hb hby d3_71) (by decide) (by decide) ?_
          show Steps p.tables e below (T45.setTop (mkF m 37 #[.val (.long v), .second, .val (.int (11 : Int32)), .val (.int (13 : Int32)), .val (.int (13 : Int32))] [])) _
          refine XS.iloadN X45.here hx rfl (hb hby d3_37) rfl ?_
          show Steps p.tables e below (T45.setTop (mkF m 38 #[.val (.long v), .second, .val (.int (11 : Int32)), .val (.int (13 : Int32)), .val (.int (13 : Int32))] [(.int (11 : Int32))])) _
          refine XS.iloadN X45.here hx rfl (hb hby d3_38) rfl ?_
          show Steps p.tables e below (T45.setTop (mkF m 39 #[.val (.long v), .second, .val (.int (11 : Int32)), .val (.int (13 : Int32)), .val (.int (13 : Int32))] [(.int (13 : Int32)), (.int (11 : Int32))])) _
          refine XS.icmpNo X45.here hx rfl (hb hby d3_39) rfl (XT.ii_ge_f (by decide)) ?_
          show Steps p.tables e below (T45.setTop (mkF m 42 #[.val (.long v), .second, .val (.int (11 : Int32)), .val (.int (13 : Int32)), .val (.int (13 : Int32))] [])) _
          refine XS.iloadN X45.here hx rfl (hb hby d3_42) rfl ?_
          show Steps p.tables e below (T45.setTop (mkF m 43 #[.val (.long v), .second, .val (.int (11 : Int32)), .val (.int (13 : Int32)), .val (.int (13 : Int32))] [(.int (11 : Int32))])) _
          refine XS.iloadN X45.here hx rfl (hb hby d3_43) rfl ?_
          show Steps p.tables e below (T45.setTop (mkF m 44 #[.val (.long v), .second, .val (.int (11 : Int32)), .val (.int (13 : Int32)), .val (.int (13 : Int32))] [(.int (13 : Int32)), (.int (11 : Int32))])) _
          refine XS.iadd X45.here hx rfl (hb hby d3_44) rfl ?_
          rw [show ((11 : Int32) + (13 : Int32)) = (24 : Int32) from rfl]
          show Steps p.tables e below (T45.setTop (mkF m 45 #[.val (.long v), .second, .val (.int (11 : Int32)), .val (.int (13 : Int32)), .val (.int (13 : Int32))] [(.int (24 : Int32))])) _
          refine XS.iconst X45.here hx rfl (hb hby d3_45) ?_
          show Steps p.tables e below (T45.setTop (mkF m 46 #[.val (.long v), .second, .val (.int (11 : Int32)), .val (.int (13 : Int32)), .val (.int (13 : Int32))] [(.int (1 : Int32)), (.int (24 : Int32))])) _
          refine XT.iushr X45.here hx rfl (hb hby d3_46) rfl ?_
          rw [show XT.ushr (24 : Int32) (1 : Int32) = (12 : Int32) from by decide]
          show Steps p.tables e below (T45.setTop (mkF m 47 #[.val (.long v), .second, .val (.int (11 : Int32)), .val (.int (13 : Int32)), .val (.int (13 : Int32))] [(.int (12 : Int32))])) _
          refine XS.istore X45.here hx rfl (hb hby d3_47) rfl (l' := #[.val (.long v), .second, .val (.int (11 : Int32)), .val (.int (13 : Int32)), .val (.int (12 : Int32))]) rfl ?_
          show Steps p.tables e below (T45.setTop (mkF m 49 #[.val (.long v), .second, .val (.int (11 : Int32)), .val (.int (13 : Int32)), .val (.int (12 : Int32))] [])) _
          refine XS.lloadN X45.here hx rfl (hb hby d3_49) rfl ?_
          show Steps p.tables e below (T45.setTop (mkF m 50 #[.val (.long v), .second, .val (.int (11 : Int32)), .val (.int (13 : Int32)), .val (.int (12 : Int32))] [(.long v)])) _
          refine st48 _ ?_
          show Steps p.tables e below (T48.setTop (mkF m 53 #[.val (.long v), .second, .val (.int (11 : Int32)), .val (.int (13 : Int32)), .val (.int (12 : Int32))] [(.ref pa), (.long v)])) _
          refine XS.iload X48.here hx rfl (hb hby d3_53) rfl ?_
          show Steps p.tables e below (T48.setTop (mkF m 55 #[.val (.long v), .second, .val (.int (11 : Int32)), .val (.int (13 : Int32)), .val (.int (12 : Int32))] [(.int (12 : Int32)), (.ref pa), (.long v)])) _
          refine X48.laload hx (j := (12 : Int32)) (v := (.long (1000000000000 : Int64))) (by rw [e48]; exact Ar.1) (State.isArrayOf_alike hZ.alike Ar.2.1) Ar.2.2 El12.1 El12.2 (g := (mkF m 55 #[.val (.long v), .second, .val (.int (11 : Int32)), .val (.int (13 : Int32)), .val (.int (12 : Int32))] [(.int (12 : Int32)), (.ref pa), (.long v)])) rfl rfl (hb hby d3_55) _ ?_
          show Steps p.tables e below (T48.setTop (mkF m 56 #[.val (.long v), .second, .val (.int (11 : Int32)), .val (.int (13 : Int32)), .val (.int (12 : Int32))] [(.long (1000000000000 : Int64)), (.long v)])) _
          refine XT.lcmp X48.here hx rfl (hb hby d3_56) rfl ?_
          exact kt
        by_cases hc57_50 : v < (1000000000000 : Int64)
        · obtain ⟨T51, X51, e51, st51⟩ := getS2 X48 hx hZ hown (host := "") (Or.inl (hw _ (List.mem_of_getElem? (i := 4) rfl))) Via.refl e48 S_P (g := (mkF m 50 #[.val (.long v), .second, .val (.int (11 : Int32)), .val (.int (12 : Int32)), .val (.int (11 : Int32))] [(.long v)])) rfl (hb hby d3_50)
          have pre52 : ∀ t, Steps p.tables e below (T51.setTop (mkF m 57 #[.val (.long v), .second, .val (.int (11 : Int32)), .val (.int (12 : Int32)), .val (.int (11 : Int32))] [(.int (XT.cmpL v (100000000000 : Int64)))])) t → Steps p.tables e below (s₁.setTop (entryFrame m #[(.long v)] 5)) t := by
            intro t kt
            refine pre49 _ ?_
            show Steps p.tables e below (T48.setTop (mkF m 57 #[.val (.long v), .second, .val (.int (11 : Int32)), .val (.int (13 : Int32)), .val (.int (12 : Int32))] [(.int (XT.cmpL v (1000000000000 : Int64)))])) _
            refine XS.ifYes X48.here hx rfl (pc0 := 57) (pc' := 68) rfl (hb hby d3_57) rfl (XT.ll_lt_t hc57_50) (by decide) (by decide) ?_
            show Steps p.tables e below (T48.setTop (mkF m 68 #[.val (.long v), .second, .val (.int (11 : Int32)), .val (.int (13 : Int32)), .val (.int (12 : Int32))] [])) _
            refine XS.iload X48.here hx rfl (hb hby d3_68) rfl ?_
            show Steps p.tables e below (T48.setTop (mkF m 70 #[.val (.long v), .second, .val (.int (11 : Int32)), .val (.int (13 : Int32)), .val (.int (12 : Int32))] [(.int (12 : Int32))])) _
            refine XS.istoreN X48.here hx rfl (hb hby d3_70) rfl (l' := #[.val (.long v), .second, .val (.int (11 : Int32)), .val (.int (12 : Int32)), .val (.int (12 : Int32))]) rfl ?_
            show Steps p.tables e below (T48.setTop (mkF m 71 #[.val (.long v), .second, .val (.int (11 : Int32)), .val (.int (12 : Int32)), .val (.int (12 : Int32))] [])) _
            refine XS.goto X48.here hx rfl (pc0 := 71) (pc' := 37) rfl (hb hby d3_71) (by decide) (by decide) ?_
            show Steps p.tables e below (T48.setTop (mkF m 37 #[.val (.long v), .second, .val (.int (11 : Int32)), .val (.int (12 : Int32)), .val (.int (12 : Int32))] [])) _
            refine XS.iloadN X48.here hx rfl (hb hby d3_37) rfl ?_
            show Steps p.tables e below (T48.setTop (mkF m 38 #[.val (.long v), .second, .val (.int (11 : Int32)), .val (.int (12 : Int32)), .val (.int (12 : Int32))] [(.int (11 : Int32))])) _
            refine XS.iloadN X48.here hx rfl (hb hby d3_38) rfl ?_
            show Steps p.tables e below (T48.setTop (mkF m 39 #[.val (.long v), .second, .val (.int (11 : Int32)), .val (.int (12 : Int32)), .val (.int (12 : Int32))] [(.int (12 : Int32)), (.int (11 : Int32))])) _
            refine XS.icmpNo X48.here hx rfl (hb hby d3_39) rfl (XT.ii_ge_f (by decide)) ?_
            show Steps p.tables e below (T48.setTop (mkF m 42 #[.val (.long v), .second, .val (.int (11 : Int32)), .val (.int (12 : Int32)), .val (.int (12 : Int32))] [])) _
            refine XS.iloadN X48.here hx rfl (hb hby d3_42) rfl ?_
            show Steps p.tables e below (T48.setTop (mkF m 43 #[.val (.long v), .second, .val (.int (11 : Int32)), .val (.int (12 : Int32)), .val (.int (12 : Int32))] [(.int (11 : Int32))])) _
            refine XS.iloadN X48.here hx rfl (hb hby d3_43) rfl ?_
            show Steps p.tables e below (T48.setTop (mkF m 44 #[.val (.long v), .second, .val (.int (11 : Int32)), .val (.int (12 : Int32)), .val (.int (12 : Int32))] [(.int (12 : Int32)), (.int (11 : Int32))])) _
            refine XS.iadd X48.here hx rfl (hb hby d3_44) rfl ?_
            rw [show ((11 : Int32) + (12 : Int32)) = (23 : Int32) from rfl]
            show Steps p.tables e below (T48.setTop (mkF m 45 #[.val (.long v), .second, .val (.int (11 : Int32)), .val (.int (12 : Int32)), .val (.int (12 : Int32))] [(.int (23 : Int32))])) _
            refine XS.iconst X48.here hx rfl (hb hby d3_45) ?_
            show Steps p.tables e below (T48.setTop (mkF m 46 #[.val (.long v), .second, .val (.int (11 : Int32)), .val (.int (12 : Int32)), .val (.int (12 : Int32))] [(.int (1 : Int32)), (.int (23 : Int32))])) _
            refine XT.iushr X48.here hx rfl (hb hby d3_46) rfl ?_
            rw [show XT.ushr (23 : Int32) (1 : Int32) = (11 : Int32) from by decide]
            show Steps p.tables e below (T48.setTop (mkF m 47 #[.val (.long v), .second, .val (.int (11 : Int32)), .val (.int (12 : Int32)), .val (.int (12 : Int32))] [(.int (11 : Int32))])) _
            refine XS.istore X48.here hx rfl (hb hby d3_47) rfl (l' := #[.val (.long v), .second, .val (.int (11 : Int32)), .val (.int (12 : Int32)), .val (.int (11 : Int32))]) rfl ?_
            show Steps p.tables e below (T48.setTop (mkF m 49 #[.val (.long v), .second, .val (.int (11 : Int32)), .val (.int (12 : Int32)), .val (.int (11 : Int32))] [])) _
            refine XS.lloadN X48.here hx rfl (hb hby d3_49) rfl ?_
            show Steps p.tables e below (T48.setTop (mkF m 50 #[.val (.long v), .second, .val (.int (11 : Int32)), .val (.int (12 : Int32)), .val (.int (11 : Int32))] [(.long v)])) _
            refine st51 _ ?_
            show Steps p.tables e below (T51.setTop (mkF m 53 #[.val (.long v), .second, .val (.int (11 : Int32)), .val (.int (12 : Int32)), .val (.int (11 : Int32))] [(.ref pa), (.long v)])) _
            refine XS.iload X51.here hx rfl (hb hby d3_53) rfl ?_
            show Steps p.tables e below (T51.setTop (mkF m 55 #[.val (.long v), .second, .val (.int (11 : Int32)), .val (.int (12 : Int32)), .val (.int (11 : Int32))] [(.int (11 : Int32)), (.ref pa), (.long v)])) _
            refine X51.laload hx (j := (11 : Int32)) (v := (.long (100000000000 : Int64))) (by rw [e51]; exact Ar.1) (State.isArrayOf_alike hZ.alike Ar.2.1) Ar.2.2 El11.1 El11.2 (g := (mkF m 55 #[.val (.long v), .second, .val (.int (11 : Int32)), .val (.int (12 : Int32)), .val (.int (11 : Int32))] [(.int (11 : Int32)), (.ref pa), (.long v)])) rfl rfl (hb hby d3_55) _ ?_
            show Steps p.tables e below (T51.setTop (mkF m 56 #[.val (.long v), .second, .val (.int (11 : Int32)), .val (.int (12 : Int32)), .val (.int (11 : Int32))] [(.long (100000000000 : Int64)), (.long v)])) _
            refine XT.lcmp X51.here hx rfl (hb hby d3_56) rfl ?_
            exact kt
          by_cases hc57_53 : v < (100000000000 : Int64)
          · have pre54 : ∀ t, Steps p.tables e below (T51.setTop (mkF m 75 #[.val (.long v), .second, .val (.int (11 : Int32)), .val (.int (11 : Int32)), .val (.int (11 : Int32))] [(.int (11 : Int32))])) t → Steps p.tables e below (s₁.setTop (entryFrame m #[(.long v)] 5)) t := by
              intro t kt
              refine pre52 _ ?_
              show Steps p.tables e below (T51.setTop (mkF m 57 #[.val (.long v), .second, .val (.int (11 : Int32)), .val (.int (12 : Int32)), .val (.int (11 : Int32))] [(.int (XT.cmpL v (100000000000 : Int64)))])) _
              refine XS.ifYes X51.here hx rfl (pc0 := 57) (pc' := 68) rfl (hb hby d3_57) rfl (XT.ll_lt_t hc57_53) (by decide) (by decide) ?_
              show Steps p.tables e below (T51.setTop (mkF m 68 #[.val (.long v), .second, .val (.int (11 : Int32)), .val (.int (12 : Int32)), .val (.int (11 : Int32))] [])) _
              refine XS.iload X51.here hx rfl (hb hby d3_68) rfl ?_
              show Steps p.tables e below (T51.setTop (mkF m 70 #[.val (.long v), .second, .val (.int (11 : Int32)), .val (.int (12 : Int32)), .val (.int (11 : Int32))] [(.int (11 : Int32))])) _
              refine XS.istoreN X51.here hx rfl (hb hby d3_70) rfl (l' := #[.val (.long v), .second, .val (.int (11 : Int32)), .val (.int (11 : Int32)), .val (.int (11 : Int32))]) rfl ?_
              show Steps p.tables e below (T51.setTop (mkF m 71 #[.val (.long v), .second, .val (.int (11 : Int32)), .val (.int (11 : Int32)), .val (.int (11 : Int32))] [])) _
              refine XS.goto X51.here hx rfl (pc0 := 71) (pc' := 37) rfl (hb hby d3_71) (by decide) (by decide) ?_
              show Steps p.tables e below (T51.setTop (mkF m 37 #[.val (.long v), .second, .val (.int (11 : Int32)), .val (.int (11 : Int32)), .val (.int (11 : Int32))] [])) _
              refine XS.iloadN X51.here hx rfl (hb hby d3_37) rfl ?_
              show Steps p.tables e below (T51.setTop (mkF m 38 #[.val (.long v), .second, .val (.int (11 : Int32)), .val (.int (11 : Int32)), .val (.int (11 : Int32))] [(.int (11 : Int32))])) _
              refine XS.iloadN X51.here hx rfl (hb hby d3_38) rfl ?_
              show Steps p.tables e below (T51.setTop (mkF m 39 #[.val (.long v), .second, .val (.int (11 : Int32)), .val (.int (11 : Int32)), .val (.int (11 : Int32))] [(.int (11 : Int32)), (.int (11 : Int32))])) _
              refine XS.icmpYes X51.here hx rfl (pc0 := 39) (pc' := 74) rfl (hb hby d3_39) rfl (XT.ii_ge_t (by decide)) (by decide) (by decide) ?_
              show Steps p.tables e below (T51.setTop (mkF m 74 #[.val (.long v), .second, .val (.int (11 : Int32)), .val (.int (11 : Int32)), .val (.int (11 : Int32))] [])) _
              refine XS.iloadN X51.here hx rfl (hb hby d3_74) rfl ?_
              exact kt
            obtain ⟨fs, hr, hrun, hended, hW, hsame⟩ := X51.leave (v := some (.int (11 : Int32))) (fun h => by rw [Bd.returns] at h; cases h)
            refine ⟨_, _, pre54 _ ?_, hrun, hended, _, _, rfl, ?_, ⟨_, rfl⟩, hW, hsame.mono (by decide) (by decide)⟩
            · show Steps p.tables e below (T51.setTop (mkF m 75 #[.val (.long v), .second, .val (.int (11 : Int32)), .val (.int (11 : Int32)), .val (.int (11 : Int32))] [(.int (11 : Int32))])) _
              exact retI X51 hx Bd.returns (hb hby d3_75) hr
            · show Q1 Z (.int (cnt v.toInt)) h0 n0 _ T51.heap _
              rw [e51]
              exact ⟨by rw [cnt_11 (own_ge hc57_4 rfl) (own_lt hc57_53 rfl)], N0, rfl⟩
          · have pre55 : ∀ t, Steps p.tables e below (T51.setTop (mkF m 75 #[.val (.long v), .second, .val (.int (12 : Int32)), .val (.int (12 : Int32)), .val (.int (11 : Int32))] [(.int (12 : Int32))])) t → Steps p.tables e below (s₁.setTop (entryFrame m #[(.long v)] 5)) t := by
              intro t kt
              refine pre52 _ ?_
              show Steps p.tables e below (T51.setTop (mkF m 57 #[.val (.long v), .second, .val (.int (11 : Int32)), .val (.int (12 : Int32)), .val (.int (11 : Int32))] [(.int (XT.cmpL v (100000000000 : Int64)))])) _
              refine XS.ifNo X51.here hx rfl (hb hby d3_57) rfl (XT.ll_lt_f hc57_53) ?_
              show Steps p.tables e below (T51.setTop (mkF m 60 #[.val (.long v), .second, .val (.int (11 : Int32)), .val (.int (12 : Int32)), .val (.int (11 : Int32))] [])) _
              refine XS.iload X51.here hx rfl (hb hby d3_60) rfl ?_
              show Steps p.tables e below (T51.setTop (mkF m 62 #[.val (.long v), .second, .val (.int (11 : Int32)), .val (.int (12 : Int32)), .val (.int (11 : Int32))] [(.int (11 : Int32))])) _
              refine XS.iconst X51.here hx rfl (hb hby d3_62) ?_
              show Steps p.tables e below (T51.setTop (mkF m 63 #[.val (.long v), .second, .val (.int (11 : Int32)), .val (.int (12 : Int32)), .val (.int (11 : Int32))] [(.int (1 : Int32)), (.int (11 : Int32))])) _
              refine XS.iadd X51.here hx rfl (hb hby d3_63) rfl ?_
              rw [show ((11 : Int32) + (1 : Int32)) = (12 : Int32) from rfl]
              show Steps p.tables e below (T51.setTop (mkF m 64 #[.val (.long v), .second, .val (.int (11 : Int32)), .val (.int (12 : Int32)), .val (.int (11 : Int32))] [(.int (12 : Int32))])) _
              refine XS.istoreN X51.here hx rfl (hb hby d3_64) rfl (l' := #[.val (.long v), .second, .val (.int (12 : Int32)), .val (.int (12 : Int32)), .val (.int (11 : Int32))]) rfl ?_
              show Steps p.tables e below (T51.setTop (mkF m 65 #[.val (.long v), .second, .val (.int (12 : Int32)), .val (.int (12 : Int32)), .val (.int (11 : Int32))] [])) _
              refine XS.goto X51.here hx rfl (pc0 := 65) (pc' := 71) rfl (hb hby d3_65) (by decide) (by decide) ?_
              show Steps p.tables e below (T51.setTop (mkF m 71 #[.val (.long v), .second, .val (.int (12 : Int32)), .val (.int (12 : Int32)), .val (.int (11 : Int32))] [])) _
              refine XS.goto X51.here hx rfl (pc0 := 71) (pc' := 37) rfl (hb hby d3_71) (by decide) (by decide) ?_
              show Steps p.tables e below (T51.setTop (mkF m 37 #[.val (.long v), .second, .val (.int (12 : Int32)), .val (.int (12 : Int32)), .val (.int (11 : Int32))] [])) _
              refine XS.iloadN X51.here hx rfl (hb hby d3_37) rfl ?_
              show Steps p.tables e below (T51.setTop (mkF m 38 #[.val (.long v), .second, .val (.int (12 : Int32)), .val (.int (12 : Int32)), .val (.int (11 : Int32))] [(.int (12 : Int32))])) _
              refine XS.iloadN X51.here hx rfl (hb hby d3_38) rfl ?_
              show Steps p.tables e below (T51.setTop (mkF m 39 #[.val (.long v), .second, .val (.int (12 : Int32)), .val (.int (12 : Int32)), .val (.int (11 : Int32))] [(.int (12 : Int32)), (.int (12 : Int32))])) _
              refine XS.icmpYes X51.here hx rfl (pc0 := 39) (pc' := 74) rfl (hb hby d3_39) rfl (XT.ii_ge_t (by decide)) (by decide) (by decide) ?_
              show Steps p.tables e below (T51.setTop (mkF m 74 #[.val (.long v), .second, .val (.int (12 : Int32)), .val (.int (12 : Int32)), .val (.int (11 : Int32))] [])) _
              refine XS.iloadN X51.here hx rfl (hb hby d3_74) rfl ?_
              exact kt
            obtain ⟨fs, hr, hrun, hended, hW, hsame⟩ := X51.leave (v := some (.int (12 : Int32))) (fun h => by rw [Bd.returns] at h; cases h)
            refine ⟨_, _, pre55 _ ?_, hrun, hended, _, _, rfl, ?_, ⟨_, rfl⟩, hW, hsame.mono (by decide) (by decide)⟩
            · show Steps p.tables e below (T51.setTop (mkF m 75 #[.val (.long v), .second, .val (.int (12 : Int32)), .val (.int (12 : Int32)), .val (.int (11 : Int32))] [(.int (12 : Int32))])) _
              exact retI X51 hx Bd.returns (hb hby d3_75) hr
            · show Q1 Z (.int (cnt v.toInt)) h0 n0 _ T51.heap _
              rw [e51]
              exact ⟨by rw [cnt_12 (own_ge hc57_53 rfl) (own_lt hc57_50 rfl)], N0, rfl⟩
        · have pre56 : ∀ t, Steps p.tables e below (T48.setTop (mkF m 75 #[.val (.long v), .second, .val (.int (13 : Int32)), .val (.int (13 : Int32)), .val (.int (12 : Int32))] [(.int (13 : Int32))])) t → Steps p.tables e below (s₁.setTop (entryFrame m #[(.long v)] 5)) t := by
            intro t kt
            refine pre49 _ ?_
            show Steps p.tables e below (T48.setTop (mkF m 57 #[.val (.long v), .second, .val (.int (11 : Int32)), .val (.int (13 : Int32)), .val (.int (12 : Int32))] [(.int (XT.cmpL v (1000000000000 : Int64)))])) _
            refine XS.ifNo X48.here hx rfl (hb hby d3_57) rfl (XT.ll_lt_f hc57_50) ?_
            show Steps p.tables e below (T48.setTop (mkF m 60 #[.val (.long v), .second, .val (.int (11 : Int32)), .val (.int (13 : Int32)), .val (.int (12 : Int32))] [])) _
            refine XS.iload X48.here hx rfl (hb hby d3_60) rfl ?_
            show Steps p.tables e below (T48.setTop (mkF m 62 #[.val (.long v), .second, .val (.int (11 : Int32)), .val (.int (13 : Int32)), .val (.int (12 : Int32))] [(.int (12 : Int32))])) _
            refine XS.iconst X48.here hx rfl (hb hby d3_62) ?_
            show Steps p.tables e below (T48.setTop (mkF m 63 #[.val (.long v), .second, .val (.int (11 : Int32)), .val (.int (13 : Int32)), .val (.int (12 : Int32))] [(.int (1 : Int32)), (.int (12 : Int32))])) _
            refine XS.iadd X48.here hx rfl (hb hby d3_63) rfl ?_
            rw [show ((12 : Int32) + (1 : Int32)) = (13 : Int32) from rfl]
            show Steps p.tables e below (T48.setTop (mkF m 64 #[.val (.long v), .second, .val (.int (11 : Int32)), .val (.int (13 : Int32)), .val (.int (12 : Int32))] [(.int (13 : Int32))])) _
            refine XS.istoreN X48.here hx rfl (hb hby d3_64) rfl (l' := #[.val (.long v), .second, .val (.int (13 : Int32)), .val (.int (13 : Int32)), .val (.int (12 : Int32))]) rfl ?_
            show Steps p.tables e below (T48.setTop (mkF m 65 #[.val (.long v), .second, .val (.int (13 : Int32)), .val (.int (13 : Int32)), .val (.int (12 : Int32))] [])) _
            refine XS.goto X48.here hx rfl (pc0 := 65) (pc' := 71) rfl (hb hby d3_65) (by decide) (by decide) ?_
            show Steps p.tables e below (T48.setTop (mkF m 71 #[.val (.long v), .second, .val (.int (13 : Int32)), .val (.int (13 : Int32)), .val (.int (12 : Int32))] [])) _
            refine XS.goto X48.here hx rfl (pc0 := 71) (pc' := 37) rfl (hb hby d3_71) (by decide) (by decide) ?_
            show Steps p.tables e below (T48.setTop (mkF m 37 #[.val (.long v), .second, .val (.int (13 : Int32)), .val (.int (13 : Int32)), .val (.int (12 : Int32))] [])) _
            refine XS.iloadN X48.here hx rfl (hb hby d3_37) rfl ?_
            show Steps p.tables e below (T48.setTop (mkF m 38 #[.val (.long v), .second, .val (.int (13 : Int32)), .val (.int (13 : Int32)), .val (.int (12 : Int32))] [(.int (13 : Int32))])) _
            refine XS.iloadN X48.here hx rfl (hb hby d3_38) rfl ?_
            show Steps p.tables e below (T48.setTop (mkF m 39 #[.val (.long v), .second, .val (.int (13 : Int32)), .val (.int (13 : Int32)), .val (.int (12 : Int32))] [(.int (13 : Int32)), (.int (13 : Int32))])) _
            refine XS.icmpYes X48.here hx rfl (pc0 := 39) (pc' := 74) rfl (hb hby d3_39) rfl (XT.ii_ge_t (by decide)) (by decide) (by decide) ?_
            show Steps p.tables e below (T48.setTop (mkF m 74 #[.val (.long v), .second, .val (.int (13 : Int32)), .val (.int (13 : Int32)), .val (.int (12 : Int32))] [])) _
            refine XS.iloadN X48.here hx rfl (hb hby d3_74) rfl ?_
            exact kt
          obtain ⟨fs, hr, hrun, hended, hW, hsame⟩ := X48.leave (v := some (.int (13 : Int32))) (fun h => by rw [Bd.returns] at h; cases h)
          refine ⟨_, _, pre56 _ ?_, hrun, hended, _, _, rfl, ?_, ⟨_, rfl⟩, hW, hsame.mono (by decide) (by decide)⟩
          · show Steps p.tables e below (T48.setTop (mkF m 75 #[.val (.long v), .second, .val (.int (13 : Int32)), .val (.int (13 : Int32)), .val (.int (12 : Int32))] [(.int (13 : Int32))])) _
            exact retI X48 hx Bd.returns (hb hby d3_75) hr
          · show Q1 Z (.int (cnt v.toInt)) h0 n0 _ T48.heap _
            rw [e48]
            exact ⟨by rw [cnt_13 (own_ge hc57_50 rfl) (own_lt hc57_47 rfl)], N0, rfl⟩
      · obtain ⟨T57, X57, e57, st57⟩ := getS2 X45 hx hZ hown (host := "") (Or.inl (hw _ (List.mem_of_getElem? (i := 4) rfl))) Via.refl e45 S_P (g := (mkF m 50 #[.val (.long v), .second, .val (.int (14 : Int32)), .val (.int (15 : Int32)), .val (.int (14 : Int32))] [(.long v)])) rfl (hb hby d3_50)
        have pre58 : ∀ t, Steps p.tables e below (T57.setTop (mkF m 57 #[.val (.long v), .second, .val (.int (14 : Int32)), .val (.int (15 : Int32)), .val (.int (14 : Int32))] [(.int (XT.cmpL v (100000000000000 : Int64)))])) t → Steps p.tables e below (s₁.setTop (entryFrame m #[(.long v)] 5)) t := by
          intro t kt
          refine pre46 _ ?_
          show Steps p.tables e below (T45.setTop (mkF m 57 #[.val (.long v), .second, .val (.int (11 : Int32)), .val (.int (15 : Int32)), .val (.int (13 : Int32))] [(.int (XT.cmpL v (10000000000000 : Int64)))])) _
          refine XS.ifNo X45.here hx rfl (hb hby d3_57) rfl (XT.ll_lt_f hc57_47) ?_
          show Steps p.tables e below (T45.setTop (mkF m 60 #[.val (.long v), .second, .val (.int (11 : Int32)), .val (.int (15 : Int32)), .val (.int (13 : Int32))] [])) _
          refine XS.iload X45.here hx rfl (hb hby d3_60) rfl ?_
          show Steps p.tables e below (T45.setTop (mkF m 62 #[.val (.long v), .second, .val (.int (11 : Int32)), .val (.int (15 : Int32)), .val (.int (13 : Int32))] [(.int (13 : Int32))])) _
          refine XS.iconst X45.here hx rfl (hb hby d3_62) ?_
          show Steps p.tables e below (T45.setTop (mkF m 63 #[.val (.long v), .second, .val (.int (11 : Int32)), .val (.int (15 : Int32)), .val (.int (13 : Int32))] [(.int (1 : Int32)), (.int (13 : Int32))])) _
          refine XS.iadd X45.here hx rfl (hb hby d3_63) rfl ?_
          rw [show ((13 : Int32) + (1 : Int32)) = (14 : Int32) from rfl]
          show Steps p.tables e below (T45.setTop (mkF m 64 #[.val (.long v), .second, .val (.int (11 : Int32)), .val (.int (15 : Int32)), .val (.int (13 : Int32))] [(.int (14 : Int32))])) _
          refine XS.istoreN X45.here hx rfl (hb hby d3_64) rfl (l' := #[.val (.long v), .second, .val (.int (14 : Int32)), .val (.int (15 : Int32)), .val (.int (13 : Int32))]) rfl ?_
          show Steps p.tables e below (T45.setTop (mkF m 65 #[.val (.long v), .second, .val (.int (14 : Int32)), .val (.int (15 : Int32)), .val (.int (13 : Int32))] [])) _
          refine XS.goto X45.here hx rfl (pc0 := 65) (pc' := 71) rfl (hb hby d3_65) (by decide) (by decide) ?_
          show Steps p.tables e below (T45.setTop (mkF m 71 #[.val (.long v), .second, .val (.int (14 : Int32)), .val (.int (15 : Int32)), .val (.int (13 : Int32))] [])) _
          refine XS.goto X45.here hx rfl (pc0 := 71) (pc' := 37) rfl (hb hby d3_71) (by decide) (by decide) ?_
          show Steps p.tables e below (T45.setTop (mkF m 37 #[.val (.long v), .second, .val (.int (14 : Int32)), .val (.int (15 : Int32)), .val (.int (13 : Int32))] [])) _
          refine XS.iloadN X45.here hx rfl (hb hby d3_37) rfl ?_
          show Steps p.tables e below (T45.setTop (mkF m 38 #[.val (.long v), .second, .val (.int (14 : Int32)), .val (.int (15 : Int32)), .val (.int (13 : Int32))] [(.int (14 : Int32))])) _
          refine XS.iloadN X45.here hx rfl (hb hby d3_38) rfl ?_
          show Steps p.tables e below (T45.setTop (mkF m 39 #[.val (.long v), .second, .val (.int (14 : Int32)), .val (.int (15 : Int32)), .val (.int (13 : Int32))] [(.int (15 : Int32)), (.int (14 : Int32))])) _
          refine XS.icmpNo X45.here hx rfl (hb hby d3_39) rfl (XT.ii_ge_f (by decide)) ?_
          show Steps p.tables e below (T45.setTop (mkF m 42 #[.val (.long v), .second, .val (.int (14 : Int32)), .val (.int (15 : Int32)), .val (.int (13 : Int32))] [])) _
          refine XS.iloadN X45.here hx rfl (hb hby d3_42) rfl ?_
          show Steps p.tables e below (T45.setTop (mkF m 43 #[.val (.long v), .second, .val (.int (14 : Int32)), .val (.int (15 : Int32)), .val (.int (13 : Int32))] [(.int (14 : Int32))])) _
          refine XS.iloadN X45.here hx rfl (hb hby d3_43) rfl ?_
          show Steps p.tables e below (T45.setTop (mkF m 44 #[.val (.long v), .second, .val (.int (14 : Int32)), .val (.int (15 : Int32)), .val (.int (13 : Int32))] [(.int (15 : Int32)), (.int (14 : Int32))])) _
          refine XS.iadd X45.here hx rfl (hb hby d3_44) rfl ?_
          rw [show ((14 : Int32) + (15 : Int32)) = (29 : Int32) from rfl]
          show Steps p.tables e below (T45.setTop (mkF m 45 #[.val (.long v), .second, .val (.int (14 : Int32)), .val (.int (15 : Int32)), .val (.int (13 : Int32))] [(.int (29 : Int32))])) _
          refine XS.iconst X45.here hx rfl (hb hby d3_45) ?_
          show Steps p.tables e below (T45.setTop (mkF m 46 #[.val (.long v), .second, .val (.int (14 : Int32)), .val (.int (15 : Int32)), .val (.int (13 : Int32))] [(.int (1 : Int32)), (.int (29 : Int32))])) _
          refine XT.iushr X45.here hx rfl (hb hby d3_46) rfl ?_
          rw [show XT.ushr (29 : Int32) (1 : Int32) = (14 : Int32) from by decide]
          show Steps p.tables e below (T45.setTop (mkF m 47 #[.val (.long v), .second, .val (.int (14 : Int32)), .val (.int (15 : Int32)), .val (.int (13 : Int32))] [(.int (14 : Int32))])) _
          refine XS.istore X45.here hx rfl (hb hby d3_47) rfl (l' := #[.val (.long v), .second, .val (.int (14 : Int32)), .val (.int (15 : Int32)), .val (.int (14 : Int32))]) rfl ?_
          show Steps p.tables e below (T45.setTop (mkF m 49 #[.val (.long v), .second, .val (.int (14 : Int32)), .val (.int (15 : Int32)), .val (.int (14 : Int32))] [])) _
          refine XS.lloadN X45.here hx rfl (hb hby d3_49) rfl ?_
          show Steps p.tables e below (T45.setTop (mkF m 50 #[.val (.long v), .second, .val (.int (14 : Int32)), .val (.int (15 : Int32)), .val (.int (14 : Int32))] [(.long v)])) _
          refine st57 _ ?_
          show Steps p.tables e below (T57.setTop (mkF m 53 #[.val (.long v), .second, .val (.int (14 : Int32)), .val (.int (15 : Int32)), .val (.int (14 : Int32))] [(.ref pa), (.long v)])) _
          refine XS.iload X57.here hx rfl (hb hby d3_53) rfl ?_
          show Steps p.tables e below (T57.setTop (mkF m 55 #[.val (.long v), .second, .val (.int (14 : Int32)), .val (.int (15 : Int32)), .val (.int (14 : Int32))] [(.int (14 : Int32)), (.ref pa), (.long v)])) _
          refine X57.laload hx (j := (14 : Int32)) (v := (.long (100000000000000 : Int64))) (by rw [e57]; exact Ar.1) (State.isArrayOf_alike hZ.alike Ar.2.1) Ar.2.2 El14.1 El14.2 (g := (mkF m 55 #[.val (.long v), .second, .val (.int (14 : Int32)), .val (.int (15 : Int32)), .val (.int (14 : Int32))] [(.int (14 : Int32)), (.ref pa), (.long v)])) rfl rfl (hb hby d3_55) _ ?_
          show Steps p.tables e below (T57.setTop (mkF m 56 #[.val (.long v), .second, .val (.int (14 : Int32)), .val (.int (15 : Int32)), .val (.int (14 : Int32))] [(.long (100000000000000 : Int64)), (.long v)])) _
          refine XT.lcmp X57.here hx rfl (hb hby d3_56) rfl ?_
          exact kt
        by_cases hc57_59 : v < (100000000000000 : Int64)
        · have pre60 : ∀ t, Steps p.tables e below (T57.setTop (mkF m 75 #[.val (.long v), .second, .val (.int (14 : Int32)), .val (.int (14 : Int32)), .val (.int (14 : Int32))] [(.int (14 : Int32))])) t → Steps p.tables e below (s₁.setTop (entryFrame m #[(.long v)] 5)) t := by
            intro t kt
            refine pre58 _ ?_
            show Steps p.tables e below (T57.setTop (mkF m 57 #[.val (.long v), .second, .val (.int (14 : Int32)), .val (.int (15 : Int32)), .val (.int (14 : Int32))] [(.int (XT.cmpL v (100000000000000 : Int64)))])) _
            refine XS.ifYes X57.here hx rfl (pc0 := 57) (pc' := 68) rfl (hb hby d3_57) rfl (XT.ll_lt_t hc57_59) (by decide) (by decide) ?_
            show Steps p.tables e below (T57.setTop (mkF m 68 #[.val (.long v), .second, .val (.int (14 : Int32)), .val (.int (15 : Int32)), .val (.int (14 : Int32))] [])) _
            refine XS.iload X57.here hx rfl (hb hby d3_68) rfl ?_
            show Steps p.tables e below (T57.setTop (mkF m 70 #[.val (.long v), .second, .val (.int (14 : Int32)), .val (.int (15 : Int32)), .val (.int (14 : Int32))] [(.int (14 : Int32))])) _
            refine XS.istoreN X57.here hx rfl (hb hby d3_70) rfl (l' := #[.val (.long v), .second, .val (.int (14 : Int32)), .val (.int (14 : Int32)), .val (.int (14 : Int32))]) rfl ?_
            show Steps p.tables e below (T57.setTop (mkF m 71 #[.val (.long v), .second, .val (.int (14 : Int32)), .val (.int (14 : Int32)), .val (.int (14 : Int32))] [])) _
            refine XS.goto X57.here hx rfl (pc0 := 71) (pc' := 37) rfl (hb hby d3_71) (by decide) (by decide) ?_
            show Steps p.tables e below (T57.setTop (mkF m 37 #[.val (.long v), .second, .val (.int (14 : Int32)), .val (.int (14 : Int32)), .val (.int (14 : Int32))] [])) _
            refine XS.iloadN X57.here hx rfl (hb hby d3_37) rfl ?_
            show Steps p.tables e below (T57.setTop (mkF m 38 #[.val (.long v), .second, .val (.int (14 : Int32)), .val (.int (14 : Int32)), .val (.int (14 : Int32))] [(.int (14 : Int32))])) _
            refine XS.iloadN X57.here hx rfl (hb hby d3_38) rfl ?_
            show Steps p.tables e below (T57.setTop (mkF m 39 #[.val (.long v), .second, .val (.int (14 : Int32)), .val (.int (14 : Int32)), .val (.int (14 : Int32))] [(.int (14 : Int32)), (.int (14 : Int32))])) _
            refine XS.icmpYes X57.here hx rfl (pc0 := 39) (pc' := 74) rfl (hb hby d3_39) rfl (XT.ii_ge_t (by decide)) (by decide) (by decide) ?_
            show Steps p.tables e below (T57.setTop (mkF m 74 #[.val (.long v), .second, .val (.int (14 : Int32)), .val (.int (14 : Int32)), .val (.int (14 : Int32))] [])) _
            refine XS.iloadN X57.here hx rfl (hb hby d3_74) rfl ?_
            exact kt
          obtain ⟨fs, hr, hrun, hended, hW, hsame⟩ := X57.leave (v := some (.int (14 : Int32))) (fun h => by rw [Bd.returns] at h; cases h)
          refine ⟨_, _, pre60 _ ?_, hrun, hended, _, _, rfl, ?_, ⟨_, rfl⟩, hW, hsame.mono (by decide) (by decide)⟩
          · show Steps p.tables e below (T57.setTop (mkF m 75 #[.val (.long v), .second, .val (.int (14 : Int32)), .val (.int (14 : Int32)), .val (.int (14 : Int32))] [(.int (14 : Int32))])) _
            exact retI X57 hx Bd.returns (hb hby d3_75) hr
          · show Q1 Z (.int (cnt v.toInt)) h0 n0 _ T57.heap _
            rw [e57]
            exact ⟨by rw [cnt_14 (own_ge hc57_47 rfl) (own_lt hc57_59 rfl)], N0, rfl⟩
        · have pre61 : ∀ t, Steps p.tables e below (T57.setTop (mkF m 75 #[.val (.long v), .second, .val (.int (15 : Int32)), .val (.int (15 : Int32)), .val (.int (14 : Int32))] [(.int (15 : Int32))])) t → Steps p.tables e below (s₁.setTop (entryFrame m #[(.long v)] 5)) t := by
            intro t kt
            refine pre58 _ ?_
            show Steps p.tables e below (T57.setTop (mkF m 57 #[.val (.long v), .second, .val (.int (14 : Int32)), .val (.int (15 : Int32)), .val (.int (14 : Int32))] [(.int (XT.cmpL v (100000000000000 : Int64)))])) _
            refine XS.ifNo X57.here hx rfl (hb hby d3_57) rfl (XT.ll_lt_f hc57_59) ?_
            show Steps p.tables e below (T57.setTop (mkF m 60 #[.val (.long v), .second, .val (.int (14 : Int32)), .val (.int (15 : Int32)), .val (.int (14 : Int32))] [])) _
            refine XS.iload X57.here hx rfl (hb hby d3_60) rfl ?_
            show Steps p.tables e below (T57.setTop (mkF m 62 #[.val (.long v), .second, .val (.int (14 : Int32)), .val (.int (15 : Int32)), .val (.int (14 : Int32))] [(.int (14 : Int32))])) _
            refine XS.iconst X57.here hx rfl (hb hby d3_62) ?_
            show Steps p.tables e below (T57.setTop (mkF m 63 #[.val (.long v), .second, .val (.int (14 : Int32)), .val (.int (15 : Int32)), .val (.int (14 : Int32))] [(.int (1 : Int32)), (.int (14 : Int32))])) _
            refine XS.iadd X57.here hx rfl (hb hby d3_63) rfl ?_
            rw [show ((14 : Int32) + (1 : Int32)) = (15 : Int32) from rfl]
            show Steps p.tables e below (T57.setTop (mkF m 64 #[.val (.long v), .second, .val (.int (14 : Int32)), .val (.int (15 : Int32)), .val (.int (14 : Int32))] [(.int (15 : Int32))])) _
            refine XS.istoreN X57.here hx rfl (hb hby d3_64) rfl (l' := #[.val (.long v), .second, .val (.int (15 : Int32)), .val (.int (15 : Int32)), .val (.int (14 : Int32))]) rfl ?_
            show Steps p.tables e below (T57.setTop (mkF m 65 #[.val (.long v), .second, .val (.int (15 : Int32)), .val (.int (15 : Int32)), .val (.int (14 : Int32))] [])) _
            refine XS.goto X57.here hx rfl (pc0 := 65) (pc' := 71) rfl (hb hby d3_65) (by decide) (by decide) ?_
            show Steps p.tables e below (T57.setTop (mkF m 71 #[.val (.long v), .second, .val (.int (15 : Int32)), .val (.int (15 : Int32)), .val (.int (14 : Int32))] [])) _
            refine XS.goto X57.here hx rfl (pc0 := 71) (pc' := 37) rfl (hb hby d3_71) (by decide) (by decide) ?_
            show Steps p.tables e below (T57.setTop (mkF m 37 #[.val (.long v), .second, .val (.int (15 : Int32)), .val (.int (15 : Int32)), .val (.int (14 : Int32))] [])) _
            refine XS.iloadN X57.here hx rfl (hb hby d3_37) rfl ?_
            show Steps p.tables e below (T57.setTop (mkF m 38 #[.val (.long v), .second, .val (.int (15 : Int32)), .val (.int (15 : Int32)), .val (.int (14 : Int32))] [(.int (15 : Int32))])) _
            refine XS.iloadN X57.here hx rfl (hb hby d3_38) rfl ?_
            show Steps p.tables e below (T57.setTop (mkF m 39 #[.val (.long v), .second, .val (.int (15 : Int32)), .val (.int (15 : Int32)), .val (.int (14 : Int32))] [(.int (15 : Int32)), (.int (15 : Int32))])) _
            refine XS.icmpYes X57.here hx rfl (pc0 := 39) (pc' := 74) rfl (hb hby d3_39) rfl (XT.ii_ge_t (by decide)) (by decide) (by decide) ?_
            show Steps p.tables e below (T57.setTop (mkF m 74 #[.val (.long v), .second, .val (.int (15 : Int32)), .val (.int (15 : Int32)), .val (.int (14 : Int32))] [])) _
            refine XS.iloadN X57.here hx rfl (hb hby d3_74) rfl ?_
            exact kt
          obtain ⟨fs, hr, hrun, hended, hW, hsame⟩ := X57.leave (v := some (.int (15 : Int32))) (fun h => by rw [Bd.returns] at h; cases h)
          refine ⟨_, _, pre61 _ ?_, hrun, hended, _, _, rfl, ?_, ⟨_, rfl⟩, hW, hsame.mono (by decide) (by decide)⟩
          · show Steps p.tables e below (T57.setTop (mkF m 75 #[.val (.long v), .second, .val (.int (15 : Int32)), .val (.int (15 : Int32)), .val (.int (14 : Int32))] [(.int (15 : Int32))])) _
            exact retI X57 hx Bd.returns (hb hby d3_75) hr
          · show Q1 Z (.int (cnt v.toInt)) h0 n0 _ T57.heap _
            rw [e57]
            exact ⟨by rw [cnt_15 (own_ge hc57_59 rfl) (own_lt hc57_44 rfl)], N0, rfl⟩
    · obtain ⟨T62, X62, e62, st62⟩ := getS2 X42 hx hZ hown (host := "") (Or.inl (hw _ (List.mem_of_getElem? (i := 4) rfl))) Via.refl e42 S_P (g := (mkF m 50 #[.val (.long v), .second, .val (.int (16 : Int32)), .val (.int (19 : Int32)), .val (.int (17 : Int32))] [(.long v)])) rfl (hb hby d3_50)
      have pre63 : ∀ t, Steps p.tables e below (T62.setTop (mkF m 57 #[.val (.long v), .second, .val (.int (16 : Int32)), .val (.int (19 : Int32)), .val (.int (17 : Int32))] [(.int (XT.cmpL v (100000000000000000 : Int64)))])) t → Steps p.tables e below (s₁.setTop (entryFrame m #[(.long v)] 5)) t := by
        intro t kt
        refine pre43 _ ?_
        show Steps p.tables e below (T42.setTop (mkF m 57 #[.val (.long v), .second, .val (.int (11 : Int32)), .val (.int (19 : Int32)), .val (.int (15 : Int32))] [(.int (XT.cmpL v (1000000000000000 : Int64)))])) _
        refine XS.ifNo X42.here hx rfl (hb hby d3_57) rfl (XT.ll_lt_f hc57_44) ?_
        show Steps p.tables e below (T42.setTop (mkF m 60 #[.val (.long v), .second, .val (.int (11 : Int32)), .val (.int (19 : Int32)), .val (.int (15 : Int32))] [])) _
        refine XS.iload X42.here hx rfl (hb hby d3_60) rfl ?_
        show Steps p.tables e below (T42.setTop (mkF m 62 #[.val (.long v), .second, .val (.int (11 : Int32)), .val (.int (19 : Int32)), .val (.int (15 : Int32))] [(.int (15 : Int32))])) _
        refine XS.iconst X42.here hx rfl (hb hby d3_62) ?_
        show Steps p.tables e below (T42.setTop (mkF m 63 #[.val (.long v), .second, .val (.int (11 : Int32)), .val (.int (19 : Int32)), .val (.int (15 : Int32))] [(.int (1 : Int32)), (.int (15 : Int32))])) _
        refine XS.iadd X42.here hx rfl (hb hby d3_63) rfl ?_
        rw [show ((15 : Int32) + (1 : Int32)) = (16 : Int32) from rfl]
        show Steps p.tables e below (T42.setTop (mkF m 64 #[.val (.long v), .second, .val (.int (11 : Int32)), .val (.int (19 : Int32)), .val (.int (15 : Int32))] [(.int (16 : Int32))])) _
        refine XS.istoreN X42.here hx rfl (hb hby d3_64) rfl (l' := #[.val (.long v), .second, .val (.int (16 : Int32)), .val (.int (19 : Int32)), .val (.int (15 : Int32))]) rfl ?_
        show Steps p.tables e below (T42.setTop (mkF m 65 #[.val (.long v), .second, .val (.int (16 : Int32)), .val (.int (19 : Int32)), .val (.int (15 : Int32))] [])) _
        refine XS.goto X42.here hx rfl (pc0 := 65) (pc' := 71) rfl (hb hby d3_65) (by decide) (by decide) ?_
        show Steps p.tables e below (T42.setTop (mkF m 71 #[.val (.long v), .second, .val (.int (16 : Int32)), .val (.int (19 : Int32)), .val (.int (15 : Int32))] [])) _
        refine XS.goto X42.here hx rfl (pc0 := 71) (pc' := 37) rfl (hb hby d3_71) (by decide) (by decide) ?_
        show Steps p.tables e below (T42.setTop (mkF m 37 #[.val (.long v), .second, .val (.int (16 : Int32)), .val (.int (19 : Int32)), .val (.int (15 : Int32))] [])) _
        refine XS.iloadN X42.here hx rfl (hb hby d3_37) rfl ?_
        show Steps p.tables e below (T42.setTop (mkF m 38 #[.val (.long v), .second, .val (.int (16 : Int32)), .val (.int (19 : Int32)), .val (.int (15 : Int32))] [(.int (16 : Int32))])) _
        refine XS.iloadN X42.here hx rfl (hb hby d3_38) rfl ?_
        show Steps p.tables e below (T42.setTop (mkF m 39 #[.val (.long v), .second, .val (.int (16 : Int32)), .val (.int (19 : Int32)), .val (.int (15 : Int32))] [(.int (19 : Int32)), (.int (16 : Int32))])) _
        refine XS.icmpNo X42.here hx rfl (hb hby d3_39) rfl (XT.ii_ge_f (by decide)) ?_
        show Steps p.tables e below (T42.setTop (mkF m 42 #[.val (.long v), .second, .val (.int (16 : Int32)), .val (.int (19 : Int32)), .val (.int (15 : Int32))] [])) _
        refine XS.iloadN X42.here hx rfl (hb hby d3_42) rfl ?_
        show Steps p.tables e below (T42.setTop (mkF m 43 #[.val (.long v), .second, .val (.int (16 : Int32)), .val (.int (19 : Int32)), .val (.int (15 : Int32))] [(.int (16 : Int32))])) _
        refine XS.iloadN X42.here hx rfl (hb hby d3_43) rfl ?_
        show Steps p.tables e below (T42.setTop (mkF m 44 #[.val (.long v), .second, .val (.int (16 : Int32)), .val (.int (19 : Int32)), .val (.int (15 : Int32))] [(.int (19 : Int32)), (.int (16 : Int32))])) _
        refine XS.iadd X42.here hx rfl (hb hby d3_44) rfl ?_
        rw [show ((16 : Int32) + (19 : Int32)) = (35 : Int32) from rfl]
        show Steps p.tables e below (T42.setTop (mkF m 45 #[.val (.long v), .second, .val (.int (16 : Int32)), .val (.int (19 : Int32)), .val (.int (15 : Int32))] [(.int (35 : Int32))])) _
        refine XS.iconst X42.here hx rfl (hb hby d3_45) ?_
        show Steps p.tables e below (T42.setTop (mkF m 46 #[.val (.long v), .second, .val (.int (16 : Int32)), .val (.int (19 : Int32)), .val (.int (15 : Int32))] [(.int (1 : Int32)), (.int (35 : Int32))])) _
        refine XT.iushr X42.here hx rfl (hb hby d3_46) rfl ?_
        rw [show XT.ushr (35 : Int32) (1 : Int32) = (17 : Int32) from by decide]
        show Steps p.tables e below (T42.setTop (mkF m 47 #[.val (.long v), .second, .val (.int (16 : Int32)), .val (.int (19 : Int32)), .val (.int (15 : Int32))] [(.int (17 : Int32))])) _
        refine XS.istore X42.here hx rfl (hb hby d3_47) rfl (l' := #[.val (.long v), .second, .val (.int (16 : Int32)), .val (.int (19 : Int32)), .val (.int (17 : Int32))]) rfl ?_
        show Steps p.tables e below (T42.setTop (mkF m 49 #[.val (.long v), .second, .val (.int (16 : Int32)), .val (.int (19 : Int32)), .val (.int (17 : Int32))] [])) _
        refine XS.lloadN X42.here hx rfl (hb hby d3_49) rfl ?_
        show Steps p.tables e below (T42.setTop (mkF m 50 #[.val (.long v), .second, .val (.int (16 : Int32)), .val (.int (19 : Int32)), .val (.int (17 : Int32))] [(.long v)])) _
        refine st62 _ ?_
        show Steps p.tables e below (T62.setTop (mkF m 53 #[.val (.long v), .second, .val (.int (16 : Int32)), .val (.int (19 : Int32)), .val (.int (17 : Int32))] [(.ref pa), (.long v)])) _
        refine XS.iload X62.here hx rfl (hb hby d3_53) rfl ?_
        show Steps p.tables e below (T62.setTop (mkF m 55 #[.val (.long v), .second, .val (.int (16 : Int32)), .val (.int (19 : Int32)), .val (.int (17 : Int32))] [(.int (17 : Int32)), (.ref pa), (.long v)])) _
        refine X62.laload hx (j := (17 : Int32)) (v := (.long (100000000000000000 : Int64))) (by rw [e62]; exact Ar.1) (State.isArrayOf_alike hZ.alike Ar.2.1) Ar.2.2 El17.1 El17.2 (g := (mkF m 55 #[.val (.long v), .second, .val (.int (16 : Int32)), .val (.int (19 : Int32)), .val (.int (17 : Int32))] [(.int (17 : Int32)), (.ref pa), (.long v)])) rfl rfl (hb hby d3_55) _ ?_
        show Steps p.tables e below (T62.setTop (mkF m 56 #[.val (.long v), .second, .val (.int (16 : Int32)), .val (.int (19 : Int32)), .val (.int (17 : Int32))] [(.long (100000000000000000 : Int64)), (.long v)])) _
        refine XT.lcmp X62.here hx rfl (hb hby d3_56) rfl ?_
        exact kt
      by_cases hc57_64 : v < (100000000000000000 : Int64)
      · obtain ⟨T65, X65, e65, st65⟩ := getS2 X62 hx hZ hown (host := "") (Or.inl (hw _ (List.mem_of_getElem? (i := 4) rfl))) Via.refl e62 S_P (g := (mkF m 50 #[.val (.long v), .second, .val (.int (16 : Int32)), .val (.int (17 : Int32)), .val (.int (16 : Int32))] [(.long v)])) rfl (hb hby d3_50)
        have pre66 : ∀ t, Steps p.tables e below (T65.setTop (mkF m 57 #[.val (.long v), .second, .val (.int (16 : Int32)), .val (.int (17 : Int32)), .val (.int (16 : Int32))] [(.int (XT.cmpL v (10000000000000000 : Int64)))])) t → Steps p.tables e below (s₁.setTop (entryFrame m #[(.long v)] 5)) t := by
          intro t kt
          refine pre63 _ ?_
          show Steps p.tables e below (T62.setTop (mkF m 57 #[.val (.long v), .second, .val (.int (16 : Int32)), .val (.int (19 : Int32)), .val (.int (17 : Int32))] [(.int (XT.cmpL v (100000000000000000 : Int64)))])) _
          refine XS.ifYes X62.here hx rfl (pc0 := 57) (pc' := 68) rfl (hb hby d3_57) rfl (XT.ll_lt_t hc57_64) (by decide) (by decide) ?_
          show Steps p.tables e below (T62.setTop (mkF m 68 #[.val (.long v), .second, .val (.int (16 : Int32)), .val (.int (19 : Int32)), .val (.int (17 : Int32))] [])) _
          refine XS.iload X62.here hx rfl (hb hby d3_68) rfl ?_
          show Steps p.tables e below (T62.setTop (mkF m 70 #[.val (.long v), .second, .val (.int (16 : Int32)), .val (.int (19 : Int32)), .val (.int (17 : Int32))] [(.int (17 : Int32))])) _
          refine XS.istoreN X62.here hx rfl (hb hby d3_70) rfl (l' := #[.val (.long v), .second, .val (.int (16 : Int32)), .val (.int (17 : Int32)), .val (.int (17 : Int32))]) rfl ?_
          show Steps p.tables e below (T62.setTop (mkF m 71 #[.val (.long v), .second, .val (.int (16 : Int32)), .val (.int (17 : Int32)), .val (.int (17 : Int32))] [])) _
          refine XS.goto X62.here hx rfl (pc0 := 71) (pc' := 37) rfl (hb hby d3_71) (by decide) (by decide) ?_
          show Steps p.tables e below (T62.setTop (mkF m 37 #[.val (.long v), .second, .val (.int (16 : Int32)), .val (.int (17 : Int32)), .val (.int (17 : Int32))] [])) _
          refine XS.iloadN X62.here hx rfl (hb hby d3_37) rfl ?_
          show Steps p.tables e below (T62.setTop (mkF m 38 #[.val (.long v), .second, .val (.int (16 : Int32)), .val (.int (17 : Int32)), .val (.int (17 : Int32))] [(.int (16 : Int32))])) _
          refine XS.iloadN X62.here hx rfl (hb hby d3_38) rfl ?_
          show Steps p.tables e below (T62.setTop (mkF m 39 #[.val (.long v), .second, .val (.int (16 : Int32)), .val (.int (17 : Int32)), .val (.int (17 : Int32))] [(.int (17 : Int32)), (.int (16 : Int32))])) _
          refine XS.icmpNo X62.here hx rfl (hb hby d3_39) rfl (XT.ii_ge_f (by decide)) ?_
          show Steps p.tables e below (T62.setTop (mkF m 42 #[.val (.long v), .second, .val (.int (16 : Int32)), .val (.int (17 : Int32)), .val (.int (17 : Int32))] [])) _
          refine XS.iloadN X62.here hx rfl (hb hby d3_42) rfl ?_
          show Steps p.tables e below (T62.setTop (mkF m 43 #[.val (.long v), .second, .val (.int (16 : Int32)), .val (.int (17 : Int32)), .val (.int (17 : Int32))] [(.int (16 : Int32))])) _
          refine XS.iloadN X62.here hx rfl (hb hby d3_43) rfl ?_
          show Steps p.tables e below (T62.setTop (mkF m 44 #[.val (.long v), .second, .val (.int (16 : Int32)), .val (.int (17 : Int32)), .val (.int (17 : Int32))] [(.int (17 : Int32)), (.int (16 : Int32))])) _
          refine XS.iadd X62.here hx rfl (hb hby d3_44) rfl ?_
          rw [show ((16 : Int32) + (17 : Int32)) = (33 : Int32) from rfl]
          show Steps p.tables e below (T62.setTop (mkF m 45 #[.val (.long v), .second, .val (.int (16 : Int32)), .val (.int (17 : Int32)), .val (.int (17 : Int32))] [(.int (33 : Int32))])) _
          refine XS.iconst X62.here hx rfl (hb hby d3_45) ?_
          show Steps p.tables e below (T62.setTop (mkF m 46 #[.val (.long v), .second, .val (.int (16 : Int32)), .val (.int (17 : Int32)), .val (.int (17 : Int32))] [(.int (1 : Int32)), (.int (33 : Int32))])) _
          refine XT.iushr X62.here hx rfl (hb hby d3_46) rfl ?_
          rw [show XT.ushr (33 : Int32) (1 : Int32) = (16 : Int32) from by decide]
          show Steps p.tables e below (T62.setTop (mkF m 47 #[.val (.long v), .second, .val (.int (16 : Int32)), .val (.int (17 : Int32)), .val (.int (17 : Int32))] [(.int (16 : Int32))])) _
          refine XS.istore X62.here hx rfl (hb hby d3_47) rfl (l' := #[.val (.long v), .second, .val (.int (16 : Int32)), .val (.int (17 : Int32)), .val (.int (16 : Int32))]) rfl ?_
          show Steps p.tables e below (T62.setTop (mkF m 49 #[.val (.long v), .second, .val (.int (16 : Int32)), .val (.int (17 : Int32)), .val (.int (16 : Int32))] [])) _
          refine XS.lloadN X62.here hx rfl (hb hby d3_49) rfl ?_
          show Steps p.tables e below (T62.setTop (mkF m 50 #[.val (.long v), .second, .val (.int (16 : Int32)), .val (.int (17 : Int32)), .val (.int (16 : Int32))] [(.long v)])) _
          refine st65 _ ?_
          show Steps p.tables e below (T65.setTop (mkF m 53 #[.val (.long v), .second, .val (.int (16 : Int32)), .val (.int (17 : Int32)), .val (.int (16 : Int32))] [(.ref pa), (.long v)])) _
          refine XS.iload X65.here hx rfl (hb hby d3_53) rfl ?_
          show Steps p.tables e below (T65.setTop (mkF m 55 #[.val (.long v), .second, .val (.int (16 : Int32)), .val (.int (17 : Int32)), .val (.int (16 : Int32))] [(.int (16 : Int32)), (.ref pa), (.long v)])) _
          refine X65.laload hx (j := (16 : Int32)) (v := (.long (10000000000000000 : Int64))) (by rw [e65]; exact Ar.1) (State.isArrayOf_alike hZ.alike Ar.2.1) Ar.2.2 El16.1 El16.2 (g := (mkF m 55 #[.val (.long v), .second, .val (.int (16 : Int32)), .val (.int (17 : Int32)), .val (.int (16 : Int32))] [(.int (16 : Int32)), (.ref pa), (.long v)])) rfl rfl (hb hby d3_55) _ ?_
          show Steps p.tables e below (T65.setTop (mkF m 56 #[.val (.long v), .second, .val (.int (16 : Int32)), .val (.int (17 : Int32)), .val (.int (16 : Int32))] [(.long (10000000000000000 : Int64)), (.long v)])) _
          refine XT.lcmp X65.here hx rfl (hb hby d3_56) rfl ?_
          exact kt
        by_cases hc57_67 : v < (10000000000000000 : Int64)
        · have pre68 : ∀ t, Steps p.tables e below (T65.setTop (mkF m 75 #[.val (.long v), .second, .val (.int (16 : Int32)), .val (.int (16 : Int32)), .val (.int (16 : Int32))] [(.int (16 : Int32))])) t → Steps p.tables e below (s₁.setTop (entryFrame m #[(.long v)] 5)) t := by
            intro t kt
            refine pre66 _ ?_
            show Steps p.tables e below (T65.setTop (mkF m 57 #[.val (.long v), .second, .val (.int (16 : Int32)), .val (.int (17 : Int32)), .val (.int (16 : Int32))] [(.int (XT.cmpL v (10000000000000000 : Int64)))])) _
            refine XS.ifYes X65.here hx rfl (pc0 := 57) (pc' := 68) rfl (hb hby d3_57) rfl (XT.ll_lt_t hc57_67) (by decide) (by decide) ?_
            show Steps p.tables e below (T65.setTop (mkF m 68 #[.val (.long v), .second, .val (.int (16 : Int32)), .val (.int (17 : Int32)), .val (.int (16 : Int32))] [])) _
            refine XS.iload X65.here hx rfl (hb hby d3_68) rfl ?_
            show Steps p.tables e below (T65.setTop (mkF m 70 #[.val (.long v), .second, .val (.int (16 : Int32)), .val (.int (17 : Int32)), .val (.int (16 : Int32))] [(.int (16 : Int32))])) _
            refine XS.istoreN X65.here hx rfl (hb hby d3_70) rfl (l' := #[.val (.long v), .second, .val (.int (16 : Int32)), .val (.int (16 : Int32)), .val (.int (16 : Int32))]) rfl ?_
            show Steps p.tables e below (T65.setTop (mkF m 71 #[.val (.long v), .second, .val (.int (16 : Int32)), .val (.int (16 : Int32)), .val (.int (16 : Int32))] [])) _
            refine XS.goto X65.here hx rfl (pc0 := 71) (pc' := 37) rfl (hb hby d3_71) (by decide) (by decide) ?_
            show Steps p.tables e below (T65.setTop (mkF m 37 #[.val (.long v), .second, .val (.int (16 : Int32)), .val (.int (16 : Int32)), .val (.int (16 : Int32))] [])) _
            refine XS.iloadN X65.here hx rfl (hb hby d3_37) rfl ?_
            show Steps p.tables e below (T65.setTop (mkF m 38 #[.val (.long v), .second, .val (.int (16 : Int32)), .val (.int (16 : Int32)), .val (.int (16 : Int32))] [(.int (16 : Int32))])) _
            refine XS.iloadN X65.here hx rfl (hb hby d3_38) rfl ?_
            show Steps p.tables e below (T65.setTop (mkF m 39 #[.val (.long v), .second, .val (.int (16 : Int32)), .val (.int (16 : Int32)), .val (.int (16 : Int32))] [(.int (16 : Int32)), (.int (16 : Int32))])) _
            refine XS.icmpYes X65.here hx rfl (pc0 := 39) (pc' := 74) rfl (hb hby d3_39) rfl (XT.ii_ge_t (by decide)) (by decide) (by decide) ?_
            show Steps p.tables e below (T65.setTop (mkF m 74 #[.val (.long v), .second, .val (.int (16 : Int32)), .val (.int (16 : Int32)), .val (.int (16 : Int32))] [])) _
            refine XS.iloadN X65.here hx rfl (hb hby d3_74) rfl ?_
            exact kt
          obtain ⟨fs, hr, hrun, hended, hW, hsame⟩ := X65.leave (v := some (.int (16 : Int32))) (fun h => by rw [Bd.returns] at h; cases h)
          refine ⟨_, _, pre68 _ ?_, hrun, hended, _, _, rfl, ?_, ⟨_, rfl⟩, hW, hsame.mono (by decide) (by decide)⟩
          · show Steps p.tables e below (T65.setTop (mkF m 75 #[.val (.long v), .second, .val (.int (16 : Int32)), .val (.int (16 : Int32)), .val (.int (16 : Int32))] [(.int (16 : Int32))])) _
            exact retI X65 hx Bd.returns (hb hby d3_75) hr
          · show Q1 Z (.int (cnt v.toInt)) h0 n0 _ T65.heap _
            rw [e65]
            exact ⟨by rw [cnt_16 (own_ge hc57_44 rfl) (own_lt hc57_67 rfl)], N0, rfl⟩
        · have pre69 : ∀ t, Steps p.tables e below (T65.setTop (mkF m 75 #[.val (.long v), .second, .val (.int (17 : Int32)), .val (.int (17 : Int32)), .val (.int (16 : Int32))] [(.int (17 : Int32))])) t → Steps p.tables e below (s₁.setTop (entryFrame m #[(.long v)] 5)) t := by
            intro t kt
            refine pre66 _ ?_
            show Steps p.tables e below (T65.setTop (mkF m 57 #[.val (.long v), .second, .val (.int (16 : Int32)), .val (.int (17 : Int32)), .val (.int (16 : Int32))] [(.int (XT.cmpL v (10000000000000000 : Int64)))])) _
            refine XS.ifNo X65.here hx rfl (hb hby d3_57) rfl (XT.ll_lt_f hc57_67) ?_
            show Steps p.tables e below (T65.setTop (mkF m 60 #[.val (.long v), .second, .val (.int (16 : Int32)), .val (.int (17 : Int32)), .val (.int (16 : Int32))] [])) _
            refine XS.iload X65.here hx rfl (hb hby d3_60) rfl ?_
            show Steps p.tables e below (T65.setTop (mkF m 62 #[.val (.long v), .second, .val (.int (16 : Int32)), .val (.int (17 : Int32)), .val (.int (16 : Int32))] [(.int (16 : Int32))])) _
            refine XS.iconst X65.here hx rfl (hb hby d3_62) ?_
            show Steps p.tables e below (T65.setTop (mkF m 63 #[.val (.long v), .second, .val (.int (16 : Int32)), .val (.int (17 : Int32)), .val (.int (16 : Int32))] [(.int (1 : Int32)), (.int (16 : Int32))])) _
            refine XS.iadd X65.here hx rfl (hb hby d3_63) rfl ?_
            rw [show ((16 : Int32) + (1 : Int32)) = (17 : Int32) from rfl]
            show Steps p.tables e below (T65.setTop (mkF m 64 #[.val (.long v), .second, .val (.int (16 : Int32)), .val (.int (17 : Int32)), .val (.int (16 : Int32))] [(.int (17 : Int32))])) _
            refine XS.istoreN X65.here hx rfl (hb hby d3_64) rfl (l' := #[.val (.long v), .second, .val (.int (17 : Int32)), .val (.int (17 : Int32)), .val (.int (16 : Int32))]) rfl ?_
            show Steps p.tables e below (T65.setTop (mkF m 65 #[.val (.long v), .second, .val (.int (17 : Int32)), .val (.int (17 : Int32)), .val (.int (16 : Int32))] [])) _
            refine XS.goto X65.here hx rfl (pc0 := 65) (pc' := 71) rfl (hb hby d3_65) (by decide) (by decide) ?_
            show Steps p.tables e below (T65.setTop (mkF m 71 #[.val (.long v), .second, .val (.int (17 : Int32)), .val (.int (17 : Int32)), .val (.int (16 : Int32))] [])) _
            refine XS.goto X65.here hx rfl (pc0 := 71) (pc' := 37) rfl (hb hby d3_71) (by decide) (by decide) ?_
            show Steps p.tables e below (T65.setTop (mkF m 37 #[.val (.long v), .second, .val (.int (17 : Int32)), .val (.int (17 : Int32)), .val (.int (16 : Int32))] [])) _
            refine XS.iloadN X65.here hx rfl (hb hby d3_37) rfl ?_
            show Steps p.tables e below (T65.setTop (mkF m 38 #[.val (.long v), .second, .val (.int (17 : Int32)), .val (.int (17 : Int32)), .val (.int (16 : Int32))] [(.int (17 : Int32))])) _
            refine XS.iloadN X65.here hx rfl (hb hby d3_38) rfl ?_
            show Steps p.tables e below (T65.setTop (mkF m 39 #[.val (.long v), .second, .val (.int (17 : Int32)), .val (.int (17 : Int32)), .val (.int (16 : Int32))] [(.int (17 : Int32)), (.int (17 : Int32))])) _
            refine XS.icmpYes X65.here hx rfl (pc0 := 39) (pc' := 74) rfl (hb hby d3_39) rfl (XT.ii_ge_t (by decide)) (by decide) (by decide) ?_
            show Steps p.tables e below (T65.setTop (mkF m 74 #[.val (.long v), .second, .val (.int (17 : Int32)), .val (.int (17 : Int32)), .val (.int (16 : Int32))] [])) _
            refine XS.iloadN X65.here hx rfl (hb hby d3_74) rfl ?_
            exact kt
          obtain ⟨fs, hr, hrun, hended, hW, hsame⟩ := X65.leave (v := some (.int (17 : Int32))) (fun h => by rw [Bd.returns] at h; cases h)
          refine ⟨_, _, pre69 _ ?_, hrun, hended, _, _, rfl, ?_, ⟨_, rfl⟩, hW, hsame.mono (by decide) (by decide)⟩
          · show Steps p.tables e below (T65.setTop (mkF m 75 #[.val (.long v), .second, .val (.int (17 : Int32)), .val (.int (17 : Int32)), .val (.int (16 : Int32))] [(.int (17 : Int32))])) _
            exact retI X65 hx Bd.returns (hb hby d3_75) hr
          · show Q1 Z (.int (cnt v.toInt)) h0 n0 _ T65.heap _
            rw [e65]
            exact ⟨by rw [cnt_17 (own_ge hc57_67 rfl) (own_lt hc57_64 rfl)], N0, rfl⟩
      · obtain ⟨T70, X70, e70, st70⟩ := getS2 X62 hx hZ hown (host := "") (Or.inl (hw _ (List.mem_of_getElem? (i := 4) rfl))) Via.refl e62 S_P (g := (mkF m 50 #[.val (.long v), .second, .val (.int (18 : Int32)), .val (.int (19 : Int32)), .val (.int (18 : Int32))] [(.long v)])) rfl (hb hby d3_50)
        have pre71 : ∀ t, Steps p.tables e below (T70.setTop (mkF m 57 #[.val (.long v), .second, .val (.int (18 : Int32)), .val (.int (19 : Int32)), .val (.int (18 : Int32))] [(.int (XT.cmpL v (1000000000000000000 : Int64)))])) t → Steps p.tables e below (s₁.setTop (entryFrame m #[(.long v)] 5)) t := by
          intro t kt
          refine pre63 _ ?_
          show Steps p.tables e below (T62.setTop (mkF m 57 #[.val (.long v), .second, .val (.int (16 : Int32)), .val (.int (19 : Int32)), .val (.int (17 : Int32))] [(.int (XT.cmpL v (100000000000000000 : Int64)))])) _
          refine XS.ifNo X62.here hx rfl (hb hby d3_57) rfl (XT.ll_lt_f hc57_64) ?_
          show Steps p.tables e below (T62.setTop (mkF m 60 #[.val (.long v), .second, .val (.int (16 : Int32)), .val (.int (19 : Int32)), .val (.int (17 : Int32))] [])) _
          refine XS.iload X62.here hx rfl (hb hby d3_60) rfl ?_
          show Steps p.tables e below (T62.setTop (mkF m 62 #[.val (.long v), .second, .val (.int (16 : Int32)), .val (.int (19 : Int32)), .val (.int (17 : Int32))] [(.int (17 : Int32))])) _
          refine XS.iconst X62.here hx rfl (hb hby d3_62) ?_
          show Steps p.tables e below (T62.setTop (mkF m 63 #[.val (.long v), .second, .val (.int (16 : Int32)), .val (.int (19 : Int32)), .val (.int (17 : Int32))] [(.int (1 : Int32)), (.int (17 : Int32))])) _
          refine XS.iadd X62.here hx rfl (hb hby d3_63) rfl ?_
          rw [show ((17 : Int32) + (1 : Int32)) = (18 : Int32) from rfl]
          show Steps p.tables e below (T62.setTop (mkF m 64 #[.val (.long v), .second, .val (.int (16 : Int32)), .val (.int (19 : Int32)), .val (.int (17 : Int32))] [(.int (18 : Int32))])) _
          refine XS.istoreN X62.here hx rfl (hb hby d3_64) rfl (l' := #[.val (.long v), .second, .val (.int (18 : Int32)), .val (.int (19 : Int32)), .val (.int (17 : Int32))]) rfl ?_
          show Steps p.tables e below (T62.setTop (mkF m 65 #[.val (.long v), .second, .val (.int (18 : Int32)), .val (.int (19 : Int32)), .val (.int (17 : Int32))] [])) _
          refine XS.goto X62.here hx rfl (pc0 := 65) (pc' := 71) rfl (hb hby d3_65) (by decide) (by decide) ?_
          show Steps p.tables e below (T62.setTop (mkF m 71 #[.val (.long v), .second, .val (.int (18 : Int32)), .val (.int (19 : Int32)), .val (.int (17 : Int32))] [])) _
          refine XS.goto X62.here hx rfl (pc0 := 71) (pc' := 37) rfl (hb hby d3_71) (by decide) (by decide) ?_
          show Steps p.tables e below (T62.setTop (mkF m 37 #[.val (.long v), .second, .val (.int (18 : Int32)), .val (.int (19 : Int32)), .val (.int (17 : Int32))] [])) _
          refine XS.iloadN X62.here hx rfl (hb hby d3_37) rfl ?_
          show Steps p.tables e below (T62.setTop (mkF m 38 #[.val (.long v), .second, .val (.int (18 : Int32)), .val (.int (19 : Int32)), .val (.int (17 : Int32))] [(.int (18 : Int32))])) _
          refine XS.iloadN X62.here hx rfl (hb hby d3_38) rfl ?_
          show Steps p.tables e below (T62.setTop (mkF m 39 #[.val (.long v), .second, .val (.int (18 : Int32)), .val (.int (19 : Int32)), .val (.int (17 : Int32))] [(.int (19 : Int32)), (.int (18 : Int32))])) _
          refine XS.icmpNo X62.here hx rfl (hb hby d3_39) rfl (XT.ii_ge_f (by decide)) ?_
          show Steps p.tables e below (T62.setTop (mkF m 42 #[.val (.long v), .second, .val (.int (18 : Int32)), .val (.int (19 : Int32)), .val (.int (17 : Int32))] [])) _
          refine XS.iloadN X62.here hx rfl (hb hby d3_42) rfl ?_
          show Steps p.tables e below (T62.setTop (mkF m 43 #[.val (.long v), .second, .val (.int (18 : Int32)), .val (.int (19 : Int32)), .val (.int (17 : Int32))] [(.int (18 : Int32))])) _
          refine XS.iloadN X62.here hx rfl (hb hby d3_43) rfl ?_
          show Steps p.tables e below (T62.setTop (mkF m 44 #[.val (.long v), .second, .val (.int (18 : Int32)), .val (.int (19 : Int32)), .val (.int (17 : Int32))] [(.int (19 : Int32)), (.int (18 : Int32))])) _
          refine XS.iadd X62.here hx rfl (hb hby d3_44) rfl ?_
          rw [show ((18 : Int32) + (19 : Int32)) = (37 : Int32) from rfl]
          show Steps p.tables e below (T62.setTop (mkF m 45 #[.val (.long v), .second, .val (.int (18 : Int32)), .val (.int (19 : Int32)), .val (.int (17 : Int32))] [(.int (37 : Int32))])) _
          refine XS.iconst X62.here hx rfl (hb hby d3_45) ?_
          show Steps p.tables e below (T62.setTop (mkF m 46 #[.val (.long v), .second, .val (.int (18 : Int32)), .val (.int (19 : Int32)), .val (.int (17 : Int32))] [(.int (1 : Int32)), (.int (37 : Int32))])) _
          refine XT.iushr X62.here hx rfl (hb hby d3_46) rfl ?_
          rw [show XT.ushr (37 : Int32) (1 : Int32) = (18 : Int32) from by decide]
          show Steps p.tables e below (T62.setTop (mkF m 47 #[.val (.long v), .second, .val (.int (18 : Int32)), .val (.int (19 : Int32)), .val (.int (17 : Int32))] [(.int (18 : Int32))])) _
          refine XS.istore X62.here hx rfl (hb hby d3_47) rfl (l' := #[.val (.long v), .second, .val (.int (18 : Int32)), .val (.int (19 : Int32)), .val (.int (18 : Int32))]) rfl ?_
          show Steps p.tables e below (T62.setTop (mkF m 49 #[.val (.long v), .second, .val (.int (18 : Int32)), .val (.int (19 : Int32)), .val (.int (18 : Int32))] [])) _
          refine XS.lloadN X62.here hx rfl (hb hby d3_49) rfl ?_
          show Steps p.tables e below (T62.setTop (mkF m 50 #[.val (.long v), .second, .val (.int (18 : Int32)), .val (.int (19 : Int32)), .val (.int (18 : Int32))] [(.long v)])) _
          refine st70 _ ?_
          show Steps p.tables e below (T70.setTop (mkF m 53 #[.val (.long v), .second, .val (.int (18 : Int32)), .val (.int (19 : Int32)), .val (.int (18 : Int32))] [(.ref pa), (.long v)])) _
          refine XS.iload X70.here hx rfl (hb hby d3_53) rfl ?_
          show Steps p.tables e below (T70.setTop (mkF m 55 #[.val (.long v), .second, .val (.int (18 : Int32)), .val (.int (19 : Int32)), .val (.int (18 : Int32))] [(.int (18 : Int32)), (.ref pa), (.long v)])) _
          refine X70.laload hx (j := (18 : Int32)) (v := (.long (1000000000000000000 : Int64))) (by rw [e70]; exact Ar.1) (State.isArrayOf_alike hZ.alike Ar.2.1) Ar.2.2 El18.1 El18.2 (g := (mkF m 55 #[.val (.long v), .second, .val (.int (18 : Int32)), .val (.int (19 : Int32)), .val (.int (18 : Int32))] [(.int (18 : Int32)), (.ref pa), (.long v)])) rfl rfl (hb hby d3_55) _ ?_
          show Steps p.tables e below (T70.setTop (mkF m 56 #[.val (.long v), .second, .val (.int (18 : Int32)), .val (.int (19 : Int32)), .val (.int (18 : Int32))] [(.long (1000000000000000000 : Int64)), (.long v)])) _
          refine XT.lcmp X70.here hx rfl (hb hby d3_56) rfl ?_
          exact kt
        by_cases hc57_72 : v < (1000000000000000000 : Int64)
        · have pre73 : ∀ t, Steps p.tables e below (T70.setTop (mkF m 75 #[.val (.long v), .second, .val (.int (18 : Int32)), .val (.int (18 : Int32)), .val (.int (18 : Int32))] [(.int (18 : Int32))])) t → Steps p.tables e below (s₁.setTop (entryFrame m #[(.long v)] 5)) t := by
            intro t kt
            refine pre71 _ ?_
            show Steps p.tables e below (T70.setTop (mkF m 57 #[.val (.long v), .second, .val (.int (18 : Int32)), .val (.int (19 : Int32)), .val (.int (18 : Int32))] [(.int (XT.cmpL v (1000000000000000000 : Int64)))])) _
            refine XS.ifYes X70.here hx rfl (pc0 := 57) (pc' := 68) rfl (hb hby d3_57) rfl (XT.ll_lt_t hc57_72) (by decide) (by decide) ?_
            show Steps p.tables e below (T70.setTop (mkF m 68 #[.val (.long v), .second, .val (.int (18 : Int32)), .val (.int (19 : Int32)), .val (.int (18 : Int32))] [])) _
            refine XS.iload X70.here hx rfl (hb hby d3_68) rfl ?_
            show Steps p.tables e below (T70.setTop (mkF m 70 #[.val (.long v), .second, .val (.int (18 : Int32)), .val (.int (19 : Int32)), .val (.int (18 : Int32))] [(.int (18 : Int32))])) _
            refine XS.istoreN X70.here hx rfl (hb hby d3_70) rfl (l' := #[.val (.long v), .second, .val (.int (18 : Int32)), .val (.int (18 : Int32)), .val (.int (18 : Int32))]) rfl ?_
            show Steps p.tables e below (T70.setTop (mkF m 71 #[.val (.long v), .second, .val (.int (18 : Int32)), .val (.int (18 : Int32)), .val (.int (18 : Int32))] [])) _
            refine XS.goto X70.here hx rfl (pc0 := 71) (pc' := 37) rfl (hb hby d3_71) (by decide) (by decide) ?_
            show Steps p.tables e below (T70.setTop (mkF m 37 #[.val (.long v), .second, .val (.int (18 : Int32)), .val (.int (18 : Int32)), .val (.int (18 : Int32))] [])) _
            refine XS.iloadN X70.here hx rfl (hb hby d3_37) rfl ?_
            show Steps p.tables e below (T70.setTop (mkF m 38 #[.val (.long v), .second, .val (.int (18 : Int32)), .val (.int (18 : Int32)), .val (.int (18 : Int32))] [(.int (18 : Int32))])) _
            refine XS.iloadN X70.here hx rfl (hb hby d3_38) rfl ?_
            show Steps p.tables e below (T70.setTop (mkF m 39 #[.val (.long v), .second, .val (.int (18 : Int32)), .val (.int (18 : Int32)), .val (.int (18 : Int32))] [(.int (18 : Int32)), (.int (18 : Int32))])) _
            refine XS.icmpYes X70.here hx rfl (pc0 := 39) (pc' := 74) rfl (hb hby d3_39) rfl (XT.ii_ge_t (by decide)) (by decide) (by decide) ?_
            show Steps p.tables e below (T70.setTop (mkF m 74 #[.val (.long v), .second, .val (.int (18 : Int32)), .val (.int (18 : Int32)), .val (.int (18 : Int32))] [])) _
            refine XS.iloadN X70.here hx rfl (hb hby d3_74) rfl ?_
            exact kt
          obtain ⟨fs, hr, hrun, hended, hW, hsame⟩ := X70.leave (v := some (.int (18 : Int32))) (fun h => by rw [Bd.returns] at h; cases h)
          refine ⟨_, _, pre73 _ ?_, hrun, hended, _, _, rfl, ?_, ⟨_, rfl⟩, hW, hsame.mono (by decide) (by decide)⟩
          · show Steps p.tables e below (T70.setTop (mkF m 75 #[.val (.long v), .second, .val (.int (18 : Int32)), .val (.int (18 : Int32)), .val (.int (18 : Int32))] [(.int (18 : Int32))])) _
            exact retI X70 hx Bd.returns (hb hby d3_75) hr
          · show Q1 Z (.int (cnt v.toInt)) h0 n0 _ T70.heap _
            rw [e70]
            exact ⟨by rw [cnt_18 (own_ge hc57_64 rfl) (own_lt hc57_72 rfl)], N0, rfl⟩
        · have pre74 : ∀ t, Steps p.tables e below (T70.setTop (mkF m 75 #[.val (.long v), .second, .val (.int (19 : Int32)), .val (.int (19 : Int32)), .val (.int (18 : Int32))] [(.int (19 : Int32))])) t → Steps p.tables e below (s₁.setTop (entryFrame m #[(.long v)] 5)) t := by
            intro t kt
            refine pre71 _ ?_
            show Steps p.tables e below (T70.setTop (mkF m 57 #[.val (.long v), .second, .val (.int (18 : Int32)), .val (.int (19 : Int32)), .val (.int (18 : Int32))] [(.int (XT.cmpL v (1000000000000000000 : Int64)))])) _
            refine XS.ifNo X70.here hx rfl (hb hby d3_57) rfl (XT.ll_lt_f hc57_72) ?_
            show Steps p.tables e below (T70.setTop (mkF m 60 #[.val (.long v), .second, .val (.int (18 : Int32)), .val (.int (19 : Int32)), .val (.int (18 : Int32))] [])) _
            refine XS.iload X70.here hx rfl (hb hby d3_60) rfl ?_
            show Steps p.tables e below (T70.setTop (mkF m 62 #[.val (.long v), .second, .val (.int (18 : Int32)), .val (.int (19 : Int32)), .val (.int (18 : Int32))] [(.int (18 : Int32))])) _
            refine XS.iconst X70.here hx rfl (hb hby d3_62) ?_
            show Steps p.tables e below (T70.setTop (mkF m 63 #[.val (.long v), .second, .val (.int (18 : Int32)), .val (.int (19 : Int32)), .val (.int (18 : Int32))] [(.int (1 : Int32)), (.int (18 : Int32))])) _
            refine XS.iadd X70.here hx rfl (hb hby d3_63) rfl ?_
            rw [show ((18 : Int32) + (1 : Int32)) = (19 : Int32) from rfl]
            show Steps p.tables e below (T70.setTop (mkF m 64 #[.val (.long v), .second, .val (.int (18 : Int32)), .val (.int (19 : Int32)), .val (.int (18 : Int32))] [(.int (19 : Int32))])) _
            refine XS.istoreN X70.here hx rfl (hb hby d3_64) rfl (l' := #[.val (.long v), .second, .val (.int (19 : Int32)), .val (.int (19 : Int32)), .val (.int (18 : Int32))]) rfl ?_
            show Steps p.tables e below (T70.setTop (mkF m 65 #[.val (.long v), .second, .val (.int (19 : Int32)), .val (.int (19 : Int32)), .val (.int (18 : Int32))] [])) _
            refine XS.goto X70.here hx rfl (pc0 := 65) (pc' := 71) rfl (hb hby d3_65) (by decide) (by decide) ?_
            show Steps p.tables e below (T70.setTop (mkF m 71 #[.val (.long v), .second, .val (.int (19 : Int32)), .val (.int (19 : Int32)), .val (.int (18 : Int32))] [])) _
            refine XS.goto X70.here hx rfl (pc0 := 71) (pc' := 37) rfl (hb hby d3_71) (by decide) (by decide) ?_
            show Steps p.tables e below (T70.setTop (mkF m 37 #[.val (.long v), .second, .val (.int (19 : Int32)), .val (.int (19 : Int32)), .val (.int (18 : Int32))] [])) _
            refine XS.iloadN X70.here hx rfl (hb hby d3_37) rfl ?_
            show Steps p.tables e below (T70.setTop (mkF m 38 #[.val (.long v), .second, .val (.int (19 : Int32)), .val (.int (19 : Int32)), .val (.int (18 : Int32))] [(.int (19 : Int32))])) _
            refine XS.iloadN X70.here hx rfl (hb hby d3_38) rfl ?_
            show Steps p.tables e below (T70.setTop (mkF m 39 #[.val (.long v), .second, .val (.int (19 : Int32)), .val (.int (19 : Int32)), .val (.int (18 : Int32))] [(.int (19 : Int32)), (.int (19 : Int32))])) _
            refine XS.icmpYes X70.here hx rfl (pc0 := 39) (pc' := 74) rfl (hb hby d3_39) rfl (XT.ii_ge_t (by decide)) (by decide) (by decide) ?_
            show Steps p.tables e below (T70.setTop (mkF m 74 #[.val (.long v), .second, .val (.int (19 : Int32)), .val (.int (19 : Int32)), .val (.int (18 : Int32))] [])) _
            refine XS.iloadN X70.here hx rfl (hb hby d3_74) rfl ?_
            exact kt
          obtain ⟨fs, hr, hrun, hended, hW, hsame⟩ := X70.leave (v := some (.int (19 : Int32))) (fun h => by rw [Bd.returns] at h; cases h)
          refine ⟨_, _, pre74 _ ?_, hrun, hended, _, _, rfl, ?_, ⟨_, rfl⟩, hW, hsame.mono (by decide) (by decide)⟩
          · show Steps p.tables e below (T70.setTop (mkF m 75 #[.val (.long v), .second, .val (.int (19 : Int32)), .val (.int (19 : Int32)), .val (.int (18 : Int32))] [(.int (19 : Int32))])) _
            exact retI X70 hx Bd.returns (hb hby d3_75) hr
          · show Q1 Z (.int (cnt v.toInt)) h0 n0 _ T70.heap _
            rw [e70]
            exact ⟨by rw [cnt_19 (own_ge hc57_72 rfl)], N0, rfl⟩
theorem d4_0 : decode prog_75_method_2_code 0 = .ok (.lload_n 0, 1) := by decide +kernel
theorem d4_1 : decode prog_75_method_2_code 1 = .ok (.lconst 0, 1) := by decide +kernel
theorem d4_2 : decode prog_75_method_2_code 2 = .ok (.lcmp, 1) := by decide +kernel
theorem d4_3 : decode prog_75_method_2_code 3 = .ok (.ifCond .ge 27, 3) := by decide +kernel
theorem d4_6 : decode prog_75_method_2_code 6 = .ok (.lload_n 0, 1) := by decide +kernel
theorem d4_7 : decode prog_75_method_2_code 7 = .ok (.ldc2_w 7, 3) := by decide +kernel
theorem d4_10 : decode prog_75_method_2_code 10 = .ok (.ldiv, 1) := by decide +kernel
theorem d4_11 : decode prog_75_method_2_code 11 = .ok (.lneg, 1) := by decide +kernel
theorem d4_12 : decode prog_75_method_2_code 12 = .ok (.lstore_n 2, 1) := by decide +kernel
theorem d4_13 : decode prog_75_method_2_code 13 = .ok (.lload_n 2, 1) := by decide +kernel
theorem d4_14 : decode prog_75_method_2_code 14 = .ok (.lconst 0, 1) := by decide +kernel
theorem d4_15 : decode prog_75_method_2_code 15 = .ok (.lcmp, 1) := by decide +kernel
theorem d4_16 : decode prog_75_method_2_code 16 = .ok (.ifCond .ne 7, 3) := by decide +kernel
theorem d4_19 : decode prog_75_method_2_code 19 = .ok (.iconst 2, 1) := by decide +kernel
theorem d4_20 : decode prog_75_method_2_code 20 = .ok (.goto 9, 3) := by decide +kernel
theorem d4_23 : decode prog_75_method_2_code 23 = .ok (.iconst 2, 1) := by decide +kernel
theorem d4_24 : decode prog_75_method_2_code 24 = .ok (.lload_n 2, 1) := by decide +kernel
theorem d4_25 : decode prog_75_method_2_code 25 = .ok (.invokestatic 9, 3) := by decide +kernel
theorem d4_28 : decode prog_75_method_2_code 28 = .ok (.iadd, 1) := by decide +kernel
theorem d4_29 : decode prog_75_method_2_code 29 = .ok (.ireturn, 1) := by decide +kernel
theorem pn4 : plainName "crestline/WholeDigits" = true := by first | (simp [plainName, overriddenIn]; done) | decide +kernel
theorem pd4_0 : parseMethodDescriptor "(J)I" = some ⟨[.long], some .int⟩ := by decide +kernel
theorem ef4 (m : MethodId) (x0 : Int64) : entryFrame m #[(.long x0)] 5 = mkF m 0 #[.val (.long x0), .second, .unset, .unset, .unset] [] := by first | (simp [entryFrame, mkF, argsToLocals, Value.category]; done) | rfl
set_option maxRecDepth 65536 in
set_option maxHeartbeats 40000000 in
theorem rm4 (l : Launch) (Z : State) (a0 : Array Value) (hw : ∀ d ∈ tables_1, d.before a0 Z = true) (ws : List Jvm.Cond) (v : Int64) (pa : Addr) (cl : Cell) (h0 : Heap) (n0 : Nat) (Z0 : n0 ≤ h0.size) (S_P : Sta Z h0 "crestline/WholeDigits" "POWERS_OF_TEN" "[J" (.ref pa)) (Ar : Arr Z h0 pa cl .long) (hlen : cl.slots.size.toInt32 = 19) (El1 : ElJ cl 1 10) (El2 : ElJ cl 2 100) (El3 : ElJ cl 3 1000) (El4 : ElJ cl 4 10000) (El5 : ElJ cl 5 100000) (El6 : ElJ cl 6 1000000) (El7 : ElJ cl 7 10000000) (El8 : ElJ cl 8 100000000) (El9 : ElJ cl 9 1000000000) (El10 : ElJ cl 10 10000000000) (El11 : ElJ cl 11 100000000000) (El12 : ElJ cl 12 1000000000000) (El13 : ElJ cl 13 10000000000000) (El14 : ElJ cl 14 100000000000000) (El15 : ElJ cl 15 1000000000000000) (El16 : ElJ cl 16 10000000000000000) (El17 : ElJ cl 17 100000000000000000) (El18 : ElJ cl 18 1000000000000000000) (hneg : v < (0 : Int64)) (hb_ : ¬ bef v < (0 : Int64)) :
    MetFree l (⟨"crestline/WholeDigits", "count", "(J)I"⟩ : MethodName) (head1 (Jvm.Cond.code (⟨"crestline/WholeDigits", "count", "(J)I"⟩ : MethodName) prog_75_method_2_code 5 (some .int) :: ws) ({ frames := 1, cells := 0, slots := 0, locals := 17 } : Room)) (fun aa_ U => aa_ = #[(.long v)] ∧ Z.Warmed39 U.vm ∧ U.heap = h0) (fun _ _ _ _ _ => True) (fun _ U o U' => ∃ vv_ LL_, o = .returned vv_ ∧ Q1 Z (.int (cntF v)) h0 n0 vv_ U'.heap LL_ ∧ FrameEnd U o U' LL_ ({ frames := 1, cells := 0, slots := 0, locals := 17 } : Room).cells ({ frames := 1, cells := 0, slots := 0, locals := 17 } : Room).slots) := by
  refine MetFree.of_bodySF (plainFor_of_name pn4) hisR ?_
  intro p e s m args below meth c s₁ Bd hml0 hP hK
  obtain ⟨rfl, hZ, hh⟩ := hP
  have hx := Bd.exec
  have hby := Bd.bytes
  have hml : c.maxLocals = 5 := hml0
  have hown : s.vm.findClass "crestline/WholeDigits" = some m.cls := findClass_of_methodNamed Bd.named
  have hnm := (name_of_methodNamed Bd.named Bd.method).1
  have X0 : Stand p l e ({ frames := 1, cells := 0, slots := 0, locals := 17 } : Room) s m #[(.long v)] below meth c s₁ [] 0 0 := Stand.of_body Bd
  have e0 : s₁.heap = h0 := by rw [← hh, Bd.state]; rfl
  have N0 := Fr.nil n0
  have pre0 : ∀ t, Steps p.tables e below (s₁.setTop (mkF m 0 #[.val (.long v), .second, .unset, .unset, .unset] [])) t → Steps p.tables e below (s₁.setTop (entryFrame m #[(.long v)] 5)) t := fun t kt => castTop (ef4 m v) kt
  have pre1 : ∀ t, Steps p.tables e below (s₁.setTop (mkF m 16 #[.val (.long v), .second, .val (.long (bef v)), .second, .unset] [(.int (XT.cmpL (bef v) (0 : Int64)))])) t → Steps p.tables e below (s₁.setTop (entryFrame m #[(.long v)] 5)) t := by
    intro t kt
    refine pre0 _ ?_
    show Steps p.tables e below (s₁.setTop (mkF m 0 #[.val (.long v), .second, .unset, .unset, .unset] [])) _
    refine XS.lloadN X0.here hx rfl (hb hby d4_0) rfl ?_
    show Steps p.tables e below (s₁.setTop (mkF m 1 #[.val (.long v), .second, .unset, .unset, .unset] [(.long v)])) _
    refine XS.lconst X0.here hx rfl (hb hby d4_1) ?_
    show Steps p.tables e below (s₁.setTop (mkF m 2 #[.val (.long v), .second, .unset, .unset, .unset] [(.long (0 : Int64)), (.long v)])) _
    refine XT.lcmp X0.here hx rfl (hb hby d4_2) rfl ?_
    show Steps p.tables e below (s₁.setTop (mkF m 3 #[.val (.long v), .second, .unset, .unset, .unset] [(.int (XT.cmpL v (0 : Int64)))])) _
    refine XS.ifNo X0.here hx rfl (hb hby d4_3) rfl (XT.ll_ge_f hneg) ?_
    show Steps p.tables e below (s₁.setTop (mkF m 6 #[.val (.long v), .second, .unset, .unset, .unset] [])) _
    refine XS.lloadN X0.here hx rfl (hb hby d4_6) rfl ?_
    show Steps p.tables e below (s₁.setTop (mkF m 7 #[.val (.long v), .second, .unset, .unset, .unset] [(.long v)])) _
    refine X0.ldc2J hx hown (mvT hZ (hw _ (List.mem_of_getElem? (i := 33) rfl))) (g := (mkF m 7 #[.val (.long v), .second, .unset, .unset, .unset] [(.long v)])) rfl (hb hby d4_7) ?_
    show Steps p.tables e below (s₁.setTop (mkF m 10 #[.val (.long v), .second, .unset, .unset, .unset] [(.long (10 : Int64)), (.long v)])) _
    refine XS.ldiv X0.here hx rfl (hb hby d4_10) rfl (by decide) ?_
    show Steps p.tables e below (s₁.setTop (mkF m 11 #[.val (.long v), .second, .unset, .unset, .unset] [(.long (v / (10 : Int64)))])) _
    refine XS.lneg X0.here hx rfl (hb hby d4_11) rfl ?_
    show Steps p.tables e below (s₁.setTop (mkF m 12 #[.val (.long v), .second, .unset, .unset, .unset] [(.long (bef v))])) _
    show Steps p.tables e below (s₁.setTop (mkF m 12 #[.val (.long v), .second, .unset, .unset, .unset] [(.long (bef v))])) _
    refine XS.lstoreN X0.here hx rfl (hb hby d4_12) rfl (l' := #[.val (.long v), .second, .val (.long (bef v)), .second, .unset]) rfl ?_
    show Steps p.tables e below (s₁.setTop (mkF m 13 #[.val (.long v), .second, .val (.long (bef v)), .second, .unset] [])) _
    refine XS.lloadN X0.here hx rfl (hb hby d4_13) rfl ?_
    show Steps p.tables e below (s₁.setTop (mkF m 14 #[.val (.long v), .second, .val (.long (bef v)), .second, .unset] [(.long (bef v))])) _
    refine XS.lconst X0.here hx rfl (hb hby d4_14) ?_
    show Steps p.tables e below (s₁.setTop (mkF m 15 #[.val (.long v), .second, .val (.long (bef v)), .second, .unset] [(.long (0 : Int64)), (.long (bef v))])) _
    refine XT.lcmp X0.here hx rfl (hb hby d4_15) rfl ?_
    exact kt
  by_cases hc16_2 : (bef v) = (0 : Int64)
  · have pre3 : ∀ t, Steps p.tables e below (s₁.setTop (mkF m 29 #[.val (.long v), .second, .val (.long (bef v)), .second, .unset] [(.int (2 : Int32))])) t → Steps p.tables e below (s₁.setTop (entryFrame m #[(.long v)] 5)) t := by
      intro t kt
      refine pre1 _ ?_
      show Steps p.tables e below (s₁.setTop (mkF m 16 #[.val (.long v), .second, .val (.long (bef v)), .second, .unset] [(.int (XT.cmpL (bef v) (0 : Int64)))])) _
      refine XS.ifNo X0.here hx rfl (hb hby d4_16) rfl (XT.ll_ne_f hc16_2) ?_
      show Steps p.tables e below (s₁.setTop (mkF m 19 #[.val (.long v), .second, .val (.long (bef v)), .second, .unset] [])) _
      refine XS.iconst X0.here hx rfl (hb hby d4_19) ?_
      show Steps p.tables e below (s₁.setTop (mkF m 20 #[.val (.long v), .second, .val (.long (bef v)), .second, .unset] [(.int (2 : Int32))])) _
      refine XS.goto X0.here hx rfl (pc0 := 20) (pc' := 29) rfl (hb hby d4_20) (by decide) (by decide) ?_
      exact kt
    obtain ⟨fs, hr, hrun, hended, hW, hsame⟩ := X0.leave (v := some (.int (2 : Int32))) (fun h => by rw [Bd.returns] at h; cases h)
    refine ⟨_, _, pre3 _ ?_, hrun, hended, _, _, rfl, ?_, ⟨_, rfl⟩, hW, hsame.mono (by decide) (by decide)⟩
    · show Steps p.tables e below (s₁.setTop (mkF m 29 #[.val (.long v), .second, .val (.long (bef v)), .second, .unset] [(.int (2 : Int32))])) _
      exact retI X0 hx Bd.returns (hb hby d4_29) hr
    · show Q1 Z (.int (cntF v)) h0 n0 _ s₁.heap _
      rw [e0]
      exact ⟨by simp only [cntF, hneg, hc16_2, if_true, if_false], N0, rfl⟩
  · obtain ⟨_, _, ⟨T4, L4, k4, n4⟩, -, X4, ⟨Lc4, hQ4, l4, y4, z4⟩, st4⟩ := Jvm.LawKit.callS X0 hx (y := (⟨"crestline/WholeDigits", "count", "(J)I"⟩ : MethodName)) hown (mvT hZ (hw _ (List.mem_of_getElem? (i := 35) rfl))) (mvT hZ (hw _ (List.mem_of_getElem? (i := 1) rfl))) (mvT hZ (hw _ (List.mem_of_getElem? (i := 2) rfl))) (mvT hZ (hw _ (List.mem_of_getElem? (i := 3) rfl))) (by decide) (backOf (W := 1) (rm3 l Z a0 hw [] (bef v) pa cl h0 n0 Z0 S_P Ar hlen El1 El2 El3 El4 El5 El6 El7 El8 El9 El10 El11 El12 El13 El14 El15 El16 El17 El18 hb_) hZ (hw _ (List.mem_of_getElem? (i := 3) rfl)) (hw _ (List.mem_of_getElem? (i := 2) rfl)) (by decide) (by decide)) (g := (mkF m 25 #[.val (.long v), .second, .val (.long (bef v)), .second, .unset] [(.long (bef v)), (.int (2 : Int32))])) rfl (by rw [hml]; rfl) (argsL := [(.long (bef v))]) (rest := [(.int (2 : Int32))]) (lenOf pd4_0 rfl) rfl (by show 2 * 0 + _ ≤ _; exact Nat.le_of_eq rfl) (hb hby d4_25) (fun _ _ => ⟨rfl, e0, (by decide : 0 + 0 ≤ _), (by decide : 0 + 0 ≤ _)⟩)
    dsimp only [Pt.U, Pt.locs, Pt.cells, Pt.slots] at X4 l4 y4 z4 st4 hQ4
    subst l4 y4 z4
    obtain ⟨rfl, N4q, e4⟩ := hQ4
    have N4 := Fr.app N0 N4q
    have pre5 : ∀ t, Steps p.tables e below (T4.setTop (mkF m 29 #[.val (.long v), .second, .val (.long (bef v)), .second, .unset] [(.int ((2 : Int32) + (cnt (bef v).toInt)))])) t → Steps p.tables e below (s₁.setTop (entryFrame m #[(.long v)] 5)) t := by
      intro t kt
      refine pre1 _ ?_
      show Steps p.tables e below (s₁.setTop (mkF m 16 #[.val (.long v), .second, .val (.long (bef v)), .second, .unset] [(.int (XT.cmpL (bef v) (0 : Int64)))])) _
      refine XS.ifYes X0.here hx rfl (pc0 := 16) (pc' := 23) rfl (hb hby d4_16) rfl (XT.ll_ne_t hc16_2) (by decide) (by decide) ?_
      show Steps p.tables e below (s₁.setTop (mkF m 23 #[.val (.long v), .second, .val (.long (bef v)), .second, .unset] [])) _
      refine XS.iconst X0.here hx rfl (hb hby d4_23) ?_
      show Steps p.tables e below (s₁.setTop (mkF m 24 #[.val (.long v), .second, .val (.long (bef v)), .second, .unset] [(.int (2 : Int32))])) _
      refine XS.lloadN X0.here hx rfl (hb hby d4_24) rfl ?_
      show Steps p.tables e below (s₁.setTop (mkF m 25 #[.val (.long v), .second, .val (.long (bef v)), .second, .unset] [(.long (bef v)), (.int (2 : Int32))])) _
      refine st4 _ ?_
      show Steps p.tables e below (T4.setTop (mkF m 28 #[.val (.long v), .second, .val (.long (bef v)), .second, .unset] [(.int (cnt (bef v).toInt)), (.int (2 : Int32))])) _
      refine XS.iadd X4.here hx rfl (hb hby d4_28) rfl ?_
      exact kt
    obtain ⟨fs, hr, hrun, hended, hW, hsame⟩ := X4.leave (v := some (.int ((2 : Int32) + (cnt (bef v).toInt)))) (fun h => by rw [Bd.returns] at h; cases h)
    refine ⟨_, _, pre5 _ ?_, hrun, hended, _, _, rfl, ?_, ⟨_, rfl⟩, hW, hsame.mono (by decide) (by decide)⟩
    · show Steps p.tables e below (T4.setTop (mkF m 29 #[.val (.long v), .second, .val (.long (bef v)), .second, .unset] [(.int ((2 : Int32) + (cnt (bef v).toInt)))])) _
      exact retI X4 hx Bd.returns (hb hby d4_29) hr
    · show Q1 Z (.int (cntF v)) h0 n0 _ T4.heap _
      rw [e4]
      exact ⟨by simp only [cntF, hneg, hc16_2, if_true, if_false], N4, rfl⟩
theorem d5_0 : decode prog_75_method_2_code 0 = .ok (.lload_n 0, 1) := by decide +kernel
theorem d5_1 : decode prog_75_method_2_code 1 = .ok (.lconst 0, 1) := by decide +kernel
theorem d5_2 : decode prog_75_method_2_code 2 = .ok (.lcmp, 1) := by decide +kernel
theorem d5_3 : decode prog_75_method_2_code 3 = .ok (.ifCond .ge 27, 3) := by decide +kernel
theorem d5_30 : decode prog_75_method_2_code 30 = .ok (.iconst 1, 1) := by decide +kernel
theorem d5_31 : decode prog_75_method_2_code 31 = .ok (.istore_n 2, 1) := by decide +kernel
theorem d5_32 : decode prog_75_method_2_code 32 = .ok (.getstatic 15, 3) := by decide +kernel
theorem d5_35 : decode prog_75_method_2_code 35 = .ok (.arraylength, 1) := by decide +kernel
theorem d5_36 : decode prog_75_method_2_code 36 = .ok (.istore_n 3, 1) := by decide +kernel
theorem d5_37 : decode prog_75_method_2_code 37 = .ok (.iload_n 2, 1) := by decide +kernel
theorem d5_38 : decode prog_75_method_2_code 38 = .ok (.iload_n 3, 1) := by decide +kernel
theorem d5_39 : decode prog_75_method_2_code 39 = .ok (.if_icmp .ge 35, 3) := by decide +kernel
theorem d5_42 : decode prog_75_method_2_code 42 = .ok (.iload_n 2, 1) := by decide +kernel
theorem d5_43 : decode prog_75_method_2_code 43 = .ok (.iload_n 3, 1) := by decide +kernel
theorem d5_44 : decode prog_75_method_2_code 44 = .ok (.iadd, 1) := by decide +kernel
theorem d5_45 : decode prog_75_method_2_code 45 = .ok (.iconst 1, 1) := by decide +kernel
theorem d5_46 : decode prog_75_method_2_code 46 = .ok (.iushr, 1) := by decide +kernel
theorem d5_47 : decode prog_75_method_2_code 47 = .ok (.istore 4, 2) := by decide +kernel
theorem d5_49 : decode prog_75_method_2_code 49 = .ok (.lload_n 0, 1) := by decide +kernel
theorem d5_50 : decode prog_75_method_2_code 50 = .ok (.getstatic 15, 3) := by decide +kernel
theorem d5_53 : decode prog_75_method_2_code 53 = .ok (.iload 4, 2) := by decide +kernel
theorem d5_55 : decode prog_75_method_2_code 55 = .ok (.laload, 1) := by decide +kernel
theorem d5_56 : decode prog_75_method_2_code 56 = .ok (.lcmp, 1) := by decide +kernel
theorem d5_57 : decode prog_75_method_2_code 57 = .ok (.ifCond .lt 11, 3) := by decide +kernel
theorem d5_60 : decode prog_75_method_2_code 60 = .ok (.iload 4, 2) := by decide +kernel
theorem d5_62 : decode prog_75_method_2_code 62 = .ok (.iconst 1, 1) := by decide +kernel
theorem d5_63 : decode prog_75_method_2_code 63 = .ok (.iadd, 1) := by decide +kernel
theorem d5_64 : decode prog_75_method_2_code 64 = .ok (.istore_n 2, 1) := by decide +kernel
theorem d5_65 : decode prog_75_method_2_code 65 = .ok (.goto 6, 3) := by decide +kernel
theorem d5_68 : decode prog_75_method_2_code 68 = .ok (.iload 4, 2) := by decide +kernel
theorem d5_70 : decode prog_75_method_2_code 70 = .ok (.istore_n 3, 1) := by decide +kernel
theorem d5_71 : decode prog_75_method_2_code 71 = .ok (.goto (-34), 3) := by decide +kernel
theorem d5_74 : decode prog_75_method_2_code 74 = .ok (.iload_n 2, 1) := by decide +kernel
theorem d5_75 : decode prog_75_method_2_code 75 = .ok (.ireturn, 1) := by decide +kernel
theorem pn5 : plainName "crestline/WholeDigits" = true := by first | (simp [plainName, overriddenIn]; done) | decide +kernel
theorem ef5 (m : MethodId) (x0 : Int64) : entryFrame m #[(.long x0)] 5 = mkF m 0 #[.val (.long x0), .second, .unset, .unset, .unset] [] := by first | (simp [entryFrame, mkF, argsToLocals, Value.category]; done) | rfl
set_option maxRecDepth 65536 in
set_option maxHeartbeats 40000000 in
theorem rm5 (l : Launch) (Z : State) (a0 : Array Value) (hw : ∀ d ∈ tables_1, d.before a0 Z = true) (ws : List Jvm.Cond) (v : Int64) (pa : Addr) (cl : Cell) (h0 : Heap) (n0 : Nat) (Z0 : n0 ≤ h0.size) (S_P : Sta Z h0 "crestline/WholeDigits" "POWERS_OF_TEN" "[J" (.ref pa)) (Ar : Arr Z h0 pa cl .long) (hlen : cl.slots.size.toInt32 = 19) (El1 : ElJ cl 1 10) (El2 : ElJ cl 2 100) (El3 : ElJ cl 3 1000) (El4 : ElJ cl 4 10000) (El5 : ElJ cl 5 100000) (El6 : ElJ cl 6 1000000) (El7 : ElJ cl 7 10000000) (El8 : ElJ cl 8 100000000) (El9 : ElJ cl 9 1000000000) (El10 : ElJ cl 10 10000000000) (El11 : ElJ cl 11 100000000000) (El12 : ElJ cl 12 1000000000000) (El13 : ElJ cl 13 10000000000000) (El14 : ElJ cl 14 100000000000000) (El15 : ElJ cl 15 1000000000000000) (El16 : ElJ cl 16 10000000000000000) (El17 : ElJ cl 17 100000000000000000) (El18 : ElJ cl 18 1000000000000000000) (hpos : ¬ v < (0 : Int64)) :
    MetFree l (⟨"crestline/WholeDigits", "count", "(J)I"⟩ : MethodName) (head1 (Jvm.Cond.code (⟨"crestline/WholeDigits", "count", "(J)I"⟩ : MethodName) prog_75_method_2_code 5 (some .int) :: ws) ({ frames := 1, cells := 0, slots := 0, locals := 17 } : Room)) (fun aa_ U => aa_ = #[(.long v)] ∧ Z.Warmed39 U.vm ∧ U.heap = h0) (fun _ _ _ _ _ => True) (fun _ U o U' => ∃ vv_ LL_, o = .returned vv_ ∧ Q1 Z (.int (cntF v)) h0 n0 vv_ U'.heap LL_ ∧ FrameEnd U o U' LL_ ({ frames := 1, cells := 0, slots := 0, locals := 17 } : Room).cells ({ frames := 1, cells := 0, slots := 0, locals := 17 } : Room).slots) := by
  refine MetFree.of_bodySF (plainFor_of_name pn5) hisR ?_
  intro p e s m args below meth c s₁ Bd hml0 hP hK
  obtain ⟨rfl, hZ, hh⟩ := hP
  have hx := Bd.exec
  have hby := Bd.bytes
  have hml : c.maxLocals = 5 := hml0
  have hown : s.vm.findClass "crestline/WholeDigits" = some m.cls := findClass_of_methodNamed Bd.named
  have hnm := (name_of_methodNamed Bd.named Bd.method).1
  have X0 : Stand p l e ({ frames := 1, cells := 0, slots := 0, locals := 17 } : Room) s m #[(.long v)] below meth c s₁ [] 0 0 := Stand.of_body Bd
  have e0 : s₁.heap = h0 := by rw [← hh, Bd.state]; rfl
  have N0 := Fr.nil n0
  have pre0 : ∀ t, Steps p.tables e below (s₁.setTop (mkF m 0 #[.val (.long v), .second, .unset, .unset, .unset] [])) t → Steps p.tables e below (s₁.setTop (entryFrame m #[(.long v)] 5)) t := fun t kt => castTop (ef5 m v) kt
  obtain ⟨T1, X1, e1, st1⟩ := getS2 X0 hx hZ hown (host := "") (Or.inl (hw _ (List.mem_of_getElem? (i := 4) rfl))) Via.refl e0 S_P (g := (mkF m 32 #[.val (.long v), .second, .val (.int (1 : Int32)), .unset, .unset] [])) rfl (hb hby d5_32)
  obtain ⟨T2, X2, e2, st2⟩ := getS2 X1 hx hZ hown (host := "") (Or.inl (hw _ (List.mem_of_getElem? (i := 4) rfl))) Via.refl e1 S_P (g := (mkF m 50 #[.val (.long v), .second, .val (.int (1 : Int32)), .val (.int (19 : Int32)), .val (.int (10 : Int32))] [(.long v)])) rfl (hb hby d5_50)
  have pre3 : ∀ t, Steps p.tables e below (T2.setTop (mkF m 57 #[.val (.long v), .second, .val (.int (1 : Int32)), .val (.int (19 : Int32)), .val (.int (10 : Int32))] [(.int (XT.cmpL v (10000000000 : Int64)))])) t → Steps p.tables e below (s₁.setTop (entryFrame m #[(.long v)] 5)) t := by
    intro t kt
    refine pre0 _ ?_
    show Steps p.tables e below (s₁.setTop (mkF m 0 #[.val (.long v), .second, .unset, .unset, .unset] [])) _
    refine XS.lloadN X0.here hx rfl (hb hby d5_0) rfl ?_
    show Steps p.tables e below (s₁.setTop (mkF m 1 #[.val (.long v), .second, .unset, .unset, .unset] [(.long v)])) _
    refine XS.lconst X0.here hx rfl (hb hby d5_1) ?_
    show Steps p.tables e below (s₁.setTop (mkF m 2 #[.val (.long v), .second, .unset, .unset, .unset] [(.long (0 : Int64)), (.long v)])) _
    refine XT.lcmp X0.here hx rfl (hb hby d5_2) rfl ?_
    show Steps p.tables e below (s₁.setTop (mkF m 3 #[.val (.long v), .second, .unset, .unset, .unset] [(.int (XT.cmpL v (0 : Int64)))])) _
    refine XS.ifYes X0.here hx rfl (pc0 := 3) (pc' := 30) rfl (hb hby d5_3) rfl (XT.ll_ge_t hpos) (by decide) (by decide) ?_
    show Steps p.tables e below (s₁.setTop (mkF m 30 #[.val (.long v), .second, .unset, .unset, .unset] [])) _
    refine XS.iconst X0.here hx rfl (hb hby d5_30) ?_
    show Steps p.tables e below (s₁.setTop (mkF m 31 #[.val (.long v), .second, .unset, .unset, .unset] [(.int (1 : Int32))])) _
    refine XS.istoreN X0.here hx rfl (hb hby d5_31) rfl (l' := #[.val (.long v), .second, .val (.int (1 : Int32)), .unset, .unset]) rfl ?_
    show Steps p.tables e below (s₁.setTop (mkF m 32 #[.val (.long v), .second, .val (.int (1 : Int32)), .unset, .unset] [])) _
    refine st1 _ ?_
    show Steps p.tables e below (T1.setTop (mkF m 35 #[.val (.long v), .second, .val (.int (1 : Int32)), .unset, .unset] [(.ref pa)])) _
    refine X1.arraylength hx (by rw [e1]; exact Ar.1) (State.isArrayOf_alike hZ.alike Ar.2.1) (g := (mkF m 35 #[.val (.long v), .second, .val (.int (1 : Int32)), .unset, .unset] [(.ref pa)])) rfl rfl (hb hby d5_35) _ ?_
    rw [hlen]
    show Steps p.tables e below (T1.setTop (mkF m 36 #[.val (.long v), .second, .val (.int (1 : Int32)), .unset, .unset] [(.int (19 : Int32))])) _
    refine XS.istoreN X1.here hx rfl (hb hby d5_36) rfl (l' := #[.val (.long v), .second, .val (.int (1 : Int32)), .val (.int (19 : Int32)), .unset]) rfl ?_
    show Steps p.tables e below (T1.setTop (mkF m 37 #[.val (.long v), .second, .val (.int (1 : Int32)), .val (.int (19 : Int32)), .unset] [])) _
    refine XS.iloadN X1.here hx rfl (hb hby d5_37) rfl ?_
    show Steps p.tables e below (T1.setTop (mkF m 38 #[.val (.long v), .second, .val (.int (1 : Int32)), .val (.int (19 : Int32)), .unset] [(.int (1 : Int32))])) _
    refine XS.iloadN X1.here hx rfl (hb hby d5_38) rfl ?_
    show Steps p.tables e below (T1.setTop (mkF m 39 #[.val (.long v), .second, .val (.int (1 : Int32)), .val (.int (19 : Int32)), .unset] [(.int (19 : Int32)), (.int (1 : Int32))])) _
    refine XS.icmpNo X1.here hx rfl (hb hby d5_39) rfl (XT.ii_ge_f (by decide)) ?_
    show Steps p.tables e below (T1.setTop (mkF m 42 #[.val (.long v), .second, .val (.int (1 : Int32)), .val (.int (19 : Int32)), .unset] [])) _
    refine XS.iloadN X1.here hx rfl (hb hby d5_42) rfl ?_
    show Steps p.tables e below (T1.setTop (mkF m 43 #[.val (.long v), .second, .val (.int (1 : Int32)), .val (.int (19 : Int32)), .unset] [(.int (1 : Int32))])) _
    refine XS.iloadN X1.here hx rfl (hb hby d5_43) rfl ?_
    show Steps p.tables e below (T1.setTop (mkF m 44 #[.val (.long v), .second, .val (.int (1 : Int32)), .val (.int (19 : Int32)), .unset] [(.int (19 : Int32)), (.int (1 : Int32))])) _
    refine XS.iadd X1.here hx rfl (hb hby d5_44) rfl ?_
    rw [show ((1 : Int32) + (19 : Int32)) = (20 : Int32) from rfl]
    show Steps p.tables e below (T1.setTop (mkF m 45 #[.val (.long v), .second, .val (.int (1 : Int32)), .val (.int (19 : Int32)), .unset] [(.int (20 : Int32))])) _
    refine XS.iconst X1.here hx rfl (hb hby d5_45) ?_
    show Steps p.tables e below (T1.setTop (mkF m 46 #[.val (.long v), .second, .val (.int (1 : Int32)), .val (.int (19 : Int32)), .unset] [(.int (1 : Int32)), (.int (20 : Int32))])) _
    refine XT.iushr X1.here hx rfl (hb hby d5_46) rfl ?_
    rw [show XT.ushr (20 : Int32) (1 : Int32) = (10 : Int32) from by decide]
    show Steps p.tables e below (T1.setTop (mkF m 47 #[.val (.long v), .second, .val (.int (1 : Int32)), .val (.int (19 : Int32)), .unset] [(.int (10 : Int32))])) _
    refine XS.istore X1.here hx rfl (hb hby d5_47) rfl (l' := #[.val (.long v), .second, .val (.int (1 : Int32)), .val (.int (19 : Int32)), .val (.int (10 : Int32))]) rfl ?_
    show Steps p.tables e below (T1.setTop (mkF m 49 #[.val (.long v), .second, .val (.int (1 : Int32)), .val (.int (19 : Int32)), .val (.int (10 : Int32))] [])) _
    refine XS.lloadN X1.here hx rfl (hb hby d5_49) rfl ?_
    show Steps p.tables e below (T1.setTop (mkF m 50 #[.val (.long v), .second, .val (.int (1 : Int32)), .val (.int (19 : Int32)), .val (.int (10 : Int32))] [(.long v)])) _
    refine st2 _ ?_
    show Steps p.tables e below (T2.setTop (mkF m 53 #[.val (.long v), .second, .val (.int (1 : Int32)), .val (.int (19 : Int32)), .val (.int (10 : Int32))] [(.ref pa), (.long v)])) _
    refine XS.iload X2.here hx rfl (hb hby d5_53) rfl ?_
    show Steps p.tables e below (T2.setTop (mkF m 55 #[.val (.long v), .second, .val (.int (1 : Int32)), .val (.int (19 : Int32)), .val (.int (10 : Int32))] [(.int (10 : Int32)), (.ref pa), (.long v)])) _
    refine X2.laload hx (j := (10 : Int32)) (v := (.long (10000000000 : Int64))) (by rw [e2]; exact Ar.1) (State.isArrayOf_alike hZ.alike Ar.2.1) Ar.2.2 El10.1 El10.2 (g := (mkF m 55 #[.val (.long v), .second, .val (.int (1 : Int32)), .val (.int (19 : Int32)), .val (.int (10 : Int32))] [(.int (10 : Int32)), (.ref pa), (.long v)])) rfl rfl (hb hby d5_55) _ ?_
    show Steps p.tables e below (T2.setTop (mkF m 56 #[.val (.long v), .second, .val (.int (1 : Int32)), .val (.int (19 : Int32)), .val (.int (10 : Int32))] [(.long (10000000000 : Int64)), (.long v)])) _
    refine XT.lcmp X2.here hx rfl (hb hby d5_56) rfl ?_
    exact kt
  by_cases hc57_4 : v < (10000000000 : Int64)
  · obtain ⟨T5, X5, e5, st5⟩ := getS2 X2 hx hZ hown (host := "") (Or.inl (hw _ (List.mem_of_getElem? (i := 4) rfl))) Via.refl e2 S_P (g := (mkF m 50 #[.val (.long v), .second, .val (.int (1 : Int32)), .val (.int (10 : Int32)), .val (.int (5 : Int32))] [(.long v)])) rfl (hb hby d5_50)
    have pre6 : ∀ t, Steps p.tables e below (T5.setTop (mkF m 57 #[.val (.long v), .second, .val (.int (1 : Int32)), .val (.int (10 : Int32)), .val (.int (5 : Int32))] [(.int (XT.cmpL v (100000 : Int64)))])) t → Steps p.tables e below (s₁.setTop (entryFrame m #[(.long v)] 5)) t := by
      intro t kt
      refine pre3 _ ?_
      show Steps p.tables e below (T2.setTop (mkF m 57 #[.val (.long v), .second, .val (.int (1 : Int32)), .val (.int (19 : Int32)), .val (.int (10 : Int32))] [(.int (XT.cmpL v (10000000000 : Int64)))])) _
      refine XS.ifYes X2.here hx rfl (pc0 := 57) (pc' := 68) rfl (hb hby d5_57) rfl (XT.ll_lt_t hc57_4) (by decide) (by decide) ?_
      show Steps p.tables e below (T2.setTop (mkF m 68 #[.val (.long v), .second, .val (.int (1 : Int32)), .val (.int (19 : Int32)), .val (.int (10 : Int32))] [])) _
      refine XS.iload X2.here hx rfl (hb hby d5_68) rfl ?_
      show Steps p.tables e below (T2.setTop (mkF m 70 #[.val (.long v), .second, .val (.int (1 : Int32)), .val (.int (19 : Int32)), .val (.int (10 : Int32))] [(.int (10 : Int32))])) _
      refine XS.istoreN X2.here hx rfl (hb hby d5_70) rfl (l' := #[.val (.long v), .second, .val (.int (1 : Int32)), .val (.int (10 : Int32)), .val (.int (10 : Int32))]) rfl ?_
      show Steps p.tables e below (T2.setTop (mkF m 71 #[.val (.long v), .second, .val (.int (1 : Int32)), .val (.int (10 : Int32)), .val (.int (10 : Int32))] [])) _
      refine XS.goto X2.here hx rfl (pc0 := 71) (pc' := 37) rfl (hb hby d5_71) (by decide) (by decide) ?_
      show Steps p.tables e below (T2.setTop (mkF m 37 #[.val (.long v), .second, .val (.int (1 : Int32)), .val (.int (10 : Int32)), .val (.int (10 : Int32))] [])) _
      refine XS.iloadN X2.here hx rfl (hb hby d5_37) rfl ?_
      show Steps p.tables e below (T2.setTop (mkF m 38 #[.val (.long v), .second, .val (.int (1 : Int32)), .val (.int (10 : Int32)), .val (.int (10 : Int32))] [(.int (1 : Int32))])) _
      refine XS.iloadN X2.here hx rfl (hb hby d5_38) rfl ?_
      show Steps p.tables e below (T2.setTop (mkF m 39 #[.val (.long v), .second, .val (.int (1 : Int32)), .val (.int (10 : Int32)), .val (.int (10 : Int32))] [(.int (10 : Int32)), (.int (1 : Int32))])) _
      refine XS.icmpNo X2.here hx rfl (hb hby d5_39) rfl (XT.ii_ge_f (by decide)) ?_
      show Steps p.tables e below (T2.setTop (mkF m 42 #[.val (.long v), .second, .val (.int (1 : Int32)), .val (.int (10 : Int32)), .val (.int (10 : Int32))] [])) _
      refine XS.iloadN X2.here hx rfl (hb hby d5_42) rfl ?_
      show Steps p.tables e below (T2.setTop (mkF m 43 #[.val (.long v), .second, .val (.int (1 : Int32)), .val (.int (10 : Int32)), .val (.int (10 : Int32))] [(.int (1 : Int32))])) _
      refine XS.iloadN X2.here hx rfl (hb hby d5_43) rfl ?_
      show Steps p.tables e below (T2.setTop (mkF m 44 #[.val (.long v), .second, .val (.int (1 : Int32)), .val (.int (10 : Int32)), .val (.int (10 : Int32))] [(.int (10 : Int32)), (.int (1 : Int32))])) _
      refine XS.iadd X2.here hx rfl (hb hby d5_44) rfl ?_
      rw [show ((1 : Int32) + (10 : Int32)) = (11 : Int32) from rfl]
      show Steps p.tables e below (T2.setTop (mkF m 45 #[.val (.long v), .second, .val (.int (1 : Int32)), .val (.int (10 : Int32)), .val (.int (10 : Int32))] [(.int (11 : Int32))])) _
      refine XS.iconst X2.here hx rfl (hb hby d5_45) ?_
      show Steps p.tables e below (T2.setTop (mkF m 46 #[.val (.long v), .second, .val (.int (1 : Int32)), .val (.int (10 : Int32)), .val (.int (10 : Int32))] [(.int (1 : Int32)), (.int (11 : Int32))])) _
      refine XT.iushr X2.here hx rfl (hb hby d5_46) rfl ?_
      rw [show XT.ushr (11 : Int32) (1 : Int32) = (5 : Int32) from by decide]
      show Steps p.tables e below (T2.setTop (mkF m 47 #[.val (.long v), .second, .val (.int (1 : Int32)), .val (.int (10 : Int32)), .val (.int (10 : Int32))] [(.int (5 : Int32))])) _
      refine XS.istore X2.here hx rfl (hb hby d5_47) rfl (l' := #[.val (.long v), .second, .val (.int (1 : Int32)), .val (.int (10 : Int32)), .val (.int (5 : Int32))]) rfl ?_
      show Steps p.tables e below (T2.setTop (mkF m 49 #[.val (.long v), .second, .val (.int (1 : Int32)), .val (.int (10 : Int32)), .val (.int (5 : Int32))] [])) _
      refine XS.lloadN X2.here hx rfl (hb hby d5_49) rfl ?_
      show Steps p.tables e below (T2.setTop (mkF m 50 #[.val (.long v), .second, .val (.int (1 : Int32)), .val (.int (10 : Int32)), .val (.int (5 : Int32))] [(.long v)])) _
      refine st5 _ ?_
      show Steps p.tables e below (T5.setTop (mkF m 53 #[.val (.long v), .second, .val (.int (1 : Int32)), .val (.int (10 : Int32)), .val (.int (5 : Int32))] [(.ref pa), (.long v)])) _
      refine XS.iload X5.here hx rfl (hb hby d5_53) rfl ?_
      show Steps p.tables e below (T5.setTop (mkF m 55 #[.val (.long v), .second, .val (.int (1 : Int32)), .val (.int (10 : Int32)), .val (.int (5 : Int32))] [(.int (5 : Int32)), (.ref pa), (.long v)])) _
      refine X5.laload hx (j := (5 : Int32)) (v := (.long (100000 : Int64))) (by rw [e5]; exact Ar.1) (State.isArrayOf_alike hZ.alike Ar.2.1) Ar.2.2 El5.1 El5.2 (g := (mkF m 55 #[.val (.long v), .second, .val (.int (1 : Int32)), .val (.int (10 : Int32)), .val (.int (5 : Int32))] [(.int (5 : Int32)), (.ref pa), (.long v)])) rfl rfl (hb hby d5_55) _ ?_
      show Steps p.tables e below (T5.setTop (mkF m 56 #[.val (.long v), .second, .val (.int (1 : Int32)), .val (.int (10 : Int32)), .val (.int (5 : Int32))] [(.long (100000 : Int64)), (.long v)])) _
      refine XT.lcmp X5.here hx rfl (hb hby d5_56) rfl ?_
      exact kt
    by_cases hc57_7 : v < (100000 : Int64)
    · obtain ⟨T8, X8, e8, st8⟩ := getS2 X5 hx hZ hown (host := "") (Or.inl (hw _ (List.mem_of_getElem? (i := 4) rfl))) Via.refl e5 S_P (g := (mkF m 50 #[.val (.long v), .second, .val (.int (1 : Int32)), .val (.int (5 : Int32)), .val (.int (3 : Int32))] [(.long v)])) rfl (hb hby d5_50)
      have pre9 : ∀ t, Steps p.tables e below (T8.setTop (mkF m 57 #[.val (.long v), .second, .val (.int (1 : Int32)), .val (.int (5 : Int32)), .val (.int (3 : Int32))] [(.int (XT.cmpL v (1000 : Int64)))])) t → Steps p.tables e below (s₁.setTop (entryFrame m #[(.long v)] 5)) t := by
        intro t kt
        refine pre6 _ ?_
        show Steps p.tables e below (T5.setTop (mkF m 57 #[.val (.long v), .second, .val (.int (1 : Int32)), .val (.int (10 : Int32)), .val (.int (5 : Int32))] [(.int (XT.cmpL v (100000 : Int64)))])) _
        refine XS.ifYes X5.here hx rfl (pc0 := 57) (pc' := 68) rfl (hb hby d5_57) rfl (XT.ll_lt_t hc57_7) (by decide) (by decide) ?_
        show Steps p.tables e below (T5.setTop (mkF m 68 #[.val (.long v), .second, .val (.int (1 : Int32)), .val (.int (10 : Int32)), .val (.int (5 : Int32))] [])) _
        refine XS.iload X5.here hx rfl (hb hby d5_68) rfl ?_
        show Steps p.tables e below (T5.setTop (mkF m 70 #[.val (.long v), .second, .val (.int (1 : Int32)), .val (.int (10 : Int32)), .val (.int (5 : Int32))] [(.int (5 : Int32))])) _
        refine XS.istoreN X5.here hx rfl (hb hby d5_70) rfl (l' := #[.val (.long v), .second, .val (.int (1 : Int32)), .val (.int (5 : Int32)), .val (.int (5 : Int32))]) rfl ?_
        show Steps p.tables e below (T5.setTop (mkF m 71 #[.val (.long v), .second, .val (.int (1 : Int32)), .val (.int (5 : Int32)), .val (.int (5 : Int32))] [])) _
        refine XS.goto X5.here hx rfl (pc0 := 71) (pc' := 37) rfl (hb hby d5_71) (by decide) (by decide) ?_
        show Steps p.tables e below (T5.setTop (mkF m 37 #[.val (.long v), .second, .val (.int (1 : Int32)), .val (.int (5 : Int32)), .val (.int (5 : Int32))] [])) _
        refine XS.iloadN X5.here hx rfl (hb hby d5_37) rfl ?_
        show Steps p.tables e below (T5.setTop (mkF m 38 #[.val (.long v), .second, .val (.int (1 : Int32)), .val (.int (5 : Int32)), .val (.int (5 : Int32))] [(.int (1 : Int32))])) _
        refine XS.iloadN X5.here hx rfl (hb hby d5_38) rfl ?_
        show Steps p.tables e below (T5.setTop (mkF m 39 #[.val (.long v), .second, .val (.int (1 : Int32)), .val (.int (5 : Int32)), .val (.int (5 : Int32))] [(.int (5 : Int32)), (.int (1 : Int32))])) _
        refine XS.icmpNo X5.here hx rfl (hb hby d5_39) rfl (XT.ii_ge_f (by decide)) ?_
        show Steps p.tables e below (T5.setTop (mkF m 42 #[.val (.long v), .second, .val (.int (1 : Int32)), .val (.int (5 : Int32)), .val (.int (5 : Int32))] [])) _
        refine XS.iloadN X5.here hx rfl (hb hby d5_42) rfl ?_
        show Steps p.tables e below (T5.setTop (mkF m 43 #[.val (.long v), .second, .val (.int (1 : Int32)), .val (.int (5 : Int32)), .val (.int (5 : Int32))] [(.int (1 : Int32))])) _
        refine XS.iloadN X5.here hx rfl (hb hby d5_43) rfl ?_
        show Steps p.tables e below (T5.setTop (mkF m 44 #[.val (.long v), .second, .val (.int (1 : Int32)), .val (.int (5 : Int32)), .val (.int (5 : Int32))] [(.int (5 : Int32)), (.int (1 : Int32))])) _
        refine XS.iadd X5.here hx rfl (hb hby d5_44) rfl ?_
        rw [show ((1 : Int32) + (5 : Int32)) = (6 : Int32) from rfl]
        show Steps p.tables e below (T5.setTop (mkF m 45 #[.val (.long v), .second, .val (.int (1 : Int32)), .val (.int (5 : Int32)), .val (.int (5 : Int32))] [(.int (6 : Int32))])) _
        refine XS.iconst X5.here hx rfl (hb hby d5_45) ?_
        show Steps p.tables e below (T5.setTop (mkF m 46 #[.val (.long v), .second, .val (.int (1 : Int32)), .val (.int (5 : Int32)), .val (.int (5 : Int32))] [(.int (1 : Int32)), (.int (6 : Int32))])) _
        refine XT.iushr X5.here hx rfl (hb hby d5_46) rfl ?_
        rw [show XT.ushr (6 : Int32) (1 : Int32) = (3 : Int32) from by decide]
        show Steps p.tables e below (T5.setTop (mkF m 47 #[.val (.long v), .second, .val (.int (1 : Int32)), .val (.int (5 : Int32)), .val (.int (5 : Int32))] [(.int (3 : Int32))])) _
        refine XS.istore X5.here hx rfl (hb hby d5_47) rfl (l' := #[.val (.long v), .second, .val (.int (1 : Int32)), .val (.int (5 : Int32)), .val (.int (3 : Int32))]) rfl ?_
        show Steps p.tables e below (T5.setTop (mkF m 49 #[.val (.long v), .second, .val (.int (1 : Int32)), .val (.int (5 : Int32)), .val (.int (3 : Int32))] [])) _
        refine XS.lloadN X5.here hx rfl (hb hby d5_49) rfl ?_
        show Steps p.tables e below (T5.setTop (mkF m 50 #[.val (.long v), .second, .val (.int (1 : Int32)), .val (.int (5 : Int32)), .val (.int (3 : Int32))] [(.long v)])) _
        refine st8 _ ?_
        show Steps p.tables e below (T8.setTop (mkF m 53 #[.val (.long v), .second, .val (.int (1 : Int32)), .val (.int (5 : Int32)), .val (.int (3 : Int32))] [(.ref pa), (.long v)])) _
        refine XS.iload X8.here hx rfl (hb hby d5_53) rfl ?_
        show Steps p.tables e below (T8.setTop (mkF m 55 #[.val (.long v), .second, .val (.int (1 : Int32)), .val (.int (5 : Int32)), .val (.int (3 : Int32))] [(.int (3 : Int32)), (.ref pa), (.long v)])) _
        refine X8.laload hx (j := (3 : Int32)) (v := (.long (1000 : Int64))) (by rw [e8]; exact Ar.1) (State.isArrayOf_alike hZ.alike Ar.2.1) Ar.2.2 El3.1 El3.2 (g := (mkF m 55 #[.val (.long v), .second, .val (.int (1 : Int32)), .val (.int (5 : Int32)), .val (.int (3 : Int32))] [(.int (3 : Int32)), (.ref pa), (.long v)])) rfl rfl (hb hby d5_55) _ ?_
        show Steps p.tables e below (T8.setTop (mkF m 56 #[.val (.long v), .second, .val (.int (1 : Int32)), .val (.int (5 : Int32)), .val (.int (3 : Int32))] [(.long (1000 : Int64)), (.long v)])) _
        refine XT.lcmp X8.here hx rfl (hb hby d5_56) rfl ?_
        exact kt
      by_cases hc57_10 : v < (1000 : Int64)
      · obtain ⟨T11, X11, e11, st11⟩ := getS2 X8 hx hZ hown (host := "") (Or.inl (hw _ (List.mem_of_getElem? (i := 4) rfl))) Via.refl e8 S_P (g := (mkF m 50 #[.val (.long v), .second, .val (.int (1 : Int32)), .val (.int (3 : Int32)), .val (.int (2 : Int32))] [(.long v)])) rfl (hb hby d5_50)
        have pre12 : ∀ t, Steps p.tables e below (T11.setTop (mkF m 57 #[.val (.long v), .second, .val (.int (1 : Int32)), .val (.int (3 : Int32)), .val (.int (2 : Int32))] [(.int (XT.cmpL v (100 : Int64)))])) t → Steps p.tables e below (s₁.setTop (entryFrame m #[(.long v)] 5)) t := by
          intro t kt
          refine pre9 _ ?_
          show Steps p.tables e below (T8.setTop (mkF m 57 #[.val (.long v), .second, .val (.int (1 : Int32)), .val (.int (5 : Int32)), .val (.int (3 : Int32))] [(.int (XT.cmpL v (1000 : Int64)))])) _
          refine XS.ifYes X8.here hx rfl (pc0 := 57) (pc' := 68) rfl (hb hby d5_57) rfl (XT.ll_lt_t hc57_10) (by decide) (by decide) ?_
          show Steps p.tables e below (T8.setTop (mkF m 68 #[.val (.long v), .second, .val (.int (1 : Int32)), .val (.int (5 : Int32)), .val (.int (3 : Int32))] [])) _
          refine XS.iload X8.here hx rfl (hb hby d5_68) rfl ?_
          show Steps p.tables e below (T8.setTop (mkF m 70 #[.val (.long v), .second, .val (.int (1 : Int32)), .val (.int (5 : Int32)), .val (.int (3 : Int32))] [(.int (3 : Int32))])) _
          refine XS.istoreN X8.here hx rfl (hb hby d5_70) rfl (l' := #[.val (.long v), .second, .val (.int (1 : Int32)), .val (.int (3 : Int32)), .val (.int (3 : Int32))]) rfl ?_
          show Steps p.tables e below (T8.setTop (mkF m 71 #[.val (.long v), .second, .val (.int (1 : Int32)), .val (.int (3 : Int32)), .val (.int (3 : Int32))] [])) _
          refine XS.goto X8.here hx rfl (pc0 := 71) (pc' := 37) rfl (hb hby d5_71) (by decide) (by decide) ?_
          show Steps p.tables e below (T8.setTop (mkF m 37 #[.val (.long v), .second, .val (.int (1 : Int32)), .val (.int (3 : Int32)), .val (.int (3 : Int32))] [])) _
          refine XS.iloadN X8.here hx rfl (hb hby d5_37) rfl ?_
          show Steps p.tables e below (T8.setTop (mkF m 38 #[.val (.long v), .second, .val (.int (1 : Int32)), .val (.int (3 : Int32)), .val (.int (3 : Int32))] [(.int (1 : Int32))])) _
          refine XS.iloadN X8.here hx rfl (hb hby d5_38) rfl ?_
          show Steps p.tables e below (T8.setTop (mkF m 39 #[.val (.long v), .second, .val (.int (1 : Int32)), .val (.int (3 : Int32)), .val (.int (3 : Int32))] [(.int (3 : Int32)), (.int (1 : Int32))])) _
          refine XS.icmpNo X8.here hx rfl (hb hby d5_39) rfl (XT.ii_ge_f (by decide)) ?_
          show Steps p.tables e below (T8.setTop (mkF m 42 #[.val (.long v), .second, .val (.int (1 : Int32)), .val (.int (3 : Int32)), .val (.int (3 : Int32))] [])) _
          refine XS.iloadN X8.here hx rfl (hb hby d5_42) rfl ?_
          show Steps p.tables e below (T8.setTop (mkF m 43 #[.val (.long v), .second, .val (.int (1 : Int32)), .val (.int (3 : Int32)), .val (.int (3 : Int32))] [(.int (1 : Int32))])) _
          refine XS.iloadN X8.here hx rfl (hb hby d5_43) rfl ?_
          show Steps p.tables e below (T8.setTop (mkF m 44 #[.val (.long v), .second, .val (.int (1 : Int32)), .val (.int (3 : Int32)), .val (.int (3 : Int32))] [(.int (3 : Int32)), (.int (1 : Int32))])) _
          refine XS.iadd X8.here hx rfl (hb hby d5_44) rfl ?_
          rw [show ((1 : Int32) + (3 : Int32)) = (4 : Int32) from rfl]
          show Steps p.tables e below (T8.setTop (mkF m 45 #[.val (.long v), .second, .val (.int (1 : Int32)), .val (.int (3 : Int32)), .val (.int (3 : Int32))] [(.int (4 : Int32))])) _
          refine XS.iconst X8.here hx rfl (hb hby d5_45) ?_
          show Steps p.tables e below (T8.setTop (mkF m 46 #[.val (.long v), .second, .val (.int (1 : Int32)), .val (.int (3 : Int32)), .val (.int (3 : Int32))] [(.int (1 : Int32)), (.int (4 : Int32))])) _
          refine XT.iushr X8.here hx rfl (hb hby d5_46) rfl ?_
          rw [show XT.ushr (4 : Int32) (1 : Int32) = (2 : Int32) from by decide]
          show Steps p.tables e below (T8.setTop (mkF m 47 #[.val (.long v), .second, .val (.int (1 : Int32)), .val (.int (3 : Int32)), .val (.int (3 : Int32))] [(.int (2 : Int32))])) _
          refine XS.istore X8.here hx rfl (hb hby d5_47) rfl (l' := #[.val (.long v), .second, .val (.int (1 : Int32)), .val (.int (3 : Int32)), .val (.int (2 : Int32))]) rfl ?_
          show Steps p.tables e below (T8.setTop (mkF m 49 #[.val (.long v), .second, .val (.int (1 : Int32)), .val (.int (3 : Int32)), .val (.int (2 : Int32))] [])) _
          refine XS.lloadN X8.here hx rfl (hb hby d5_49) rfl ?_
          show Steps p.tables e below (T8.setTop (mkF m 50 #[.val (.long v), .second, .val (.int (1 : Int32)), .val (.int (3 : Int32)), .val (.int (2 : Int32))] [(.long v)])) _
          refine st11 _ ?_
          show Steps p.tables e below (T11.setTop (mkF m 53 #[.val (.long v), .second, .val (.int (1 : Int32)), .val (.int (3 : Int32)), .val (.int (2 : Int32))] [(.ref pa), (.long v)])) _
          refine XS.iload X11.here hx rfl (hb hby d5_53) rfl ?_
          show Steps p.tables e below (T11.setTop (mkF m 55 #[.val (.long v), .second, .val (.int (1 : Int32)), .val (.int (3 : Int32)), .val (.int (2 : Int32))] [(.int (2 : Int32)), (.ref pa), (.long v)])) _
          refine X11.laload hx (j := (2 : Int32)) (v := (.long (100 : Int64))) (by rw [e11]; exact Ar.1) (State.isArrayOf_alike hZ.alike Ar.2.1) Ar.2.2 El2.1 El2.2 (g := (mkF m 55 #[.val (.long v), .second, .val (.int (1 : Int32)), .val (.int (3 : Int32)), .val (.int (2 : Int32))] [(.int (2 : Int32)), (.ref pa), (.long v)])) rfl rfl (hb hby d5_55) _ ?_
          show Steps p.tables e below (T11.setTop (mkF m 56 #[.val (.long v), .second, .val (.int (1 : Int32)), .val (.int (3 : Int32)), .val (.int (2 : Int32))] [(.long (100 : Int64)), (.long v)])) _
          refine XT.lcmp X11.here hx rfl (hb hby d5_56) rfl ?_
          exact kt
        by_cases hc57_13 : v < (100 : Int64)
        · obtain ⟨T14, X14, e14, st14⟩ := getS2 X11 hx hZ hown (host := "") (Or.inl (hw _ (List.mem_of_getElem? (i := 4) rfl))) Via.refl e11 S_P (g := (mkF m 50 #[.val (.long v), .second, .val (.int (1 : Int32)), .val (.int (2 : Int32)), .val (.int (1 : Int32))] [(.long v)])) rfl (hb hby d5_50)
          have pre15 : ∀ t, Steps p.tables e below (T14.setTop (mkF m 57 #[.val (.long v), .second, .val (.int (1 : Int32)), .val (.int (2 : Int32)), .val (.int (1 : Int32))] [(.int (XT.cmpL v (10 : Int64)))])) t → Steps p.tables e below (s₁.setTop (entryFrame m #[(.long v)] 5)) t := by
            intro t kt
            refine pre12 _ ?_
            show Steps p.tables e below (T11.setTop (mkF m 57 #[.val (.long v), .second, .val (.int (1 : Int32)), .val (.int (3 : Int32)), .val (.int (2 : Int32))] [(.int (XT.cmpL v (100 : Int64)))])) _
            refine XS.ifYes X11.here hx rfl (pc0 := 57) (pc' := 68) rfl (hb hby d5_57) rfl (XT.ll_lt_t hc57_13) (by decide) (by decide) ?_
            show Steps p.tables e below (T11.setTop (mkF m 68 #[.val (.long v), .second, .val (.int (1 : Int32)), .val (.int (3 : Int32)), .val (.int (2 : Int32))] [])) _
            refine XS.iload X11.here hx rfl (hb hby d5_68) rfl ?_
            show Steps p.tables e below (T11.setTop (mkF m 70 #[.val (.long v), .second, .val (.int (1 : Int32)), .val (.int (3 : Int32)), .val (.int (2 : Int32))] [(.int (2 : Int32))])) _
            refine XS.istoreN X11.here hx rfl (hb hby d5_70) rfl (l' := #[.val (.long v), .second, .val (.int (1 : Int32)), .val (.int (2 : Int32)), .val (.int (2 : Int32))]) rfl ?_
            show Steps p.tables e below (T11.setTop (mkF m 71 #[.val (.long v), .second, .val (.int (1 : Int32)), .val (.int (2 : Int32)), .val (.int (2 : Int32))] [])) _
            refine XS.goto X11.here hx rfl (pc0 := 71) (pc' := 37) rfl (hb hby d5_71) (by decide) (by decide) ?_
            show Steps p.tables e below (T11.setTop (mkF m 37 #[.val (.long v), .second, .val (.int (1 : Int32)), .val (.int (2 : Int32)), .val (.int (2 : Int32))] [])) _
            refine XS.iloadN X11.here hx rfl (hb hby d5_37) rfl ?_
            show Steps p.tables e below (T11.setTop (mkF m 38 #[.val (.long v), .second, .val (.int (1 : Int32)), .val (.int (2 : Int32)), .val (.int (2 : Int32))] [(.int (1 : Int32))])) _
            refine XS.iloadN X11.here hx rfl (hb hby d5_38) rfl ?_
            show Steps p.tables e below (T11.setTop (mkF m 39 #[.val (.long v), .second, .val (.int (1 : Int32)), .val (.int (2 : Int32)), .val (.int (2 : Int32))] [(.int (2 : Int32)), (.int (1 : Int32))])) _
            refine XS.icmpNo X11.here hx rfl (hb hby d5_39) rfl (XT.ii_ge_f (by decide)) ?_
            show Steps p.tables e below (T11.setTop (mkF m 42 #[.val (.long v), .second, .val (.int (1 : Int32)), .val (.int (2 : Int32)), .val (.int (2 : Int32))] [])) _
            refine XS.iloadN X11.here hx rfl (hb hby d5_42) rfl ?_
            show Steps p.tables e below (T11.setTop (mkF m 43 #[.val (.long v), .second, .val (.int (1 : Int32)), .val (.int (2 : Int32)), .val (.int (2 : Int32))] [(.int (1 : Int32))])) _
            refine XS.iloadN X11.here hx rfl (hb hby d5_43) rfl ?_
            show Steps p.tables e below (T11.setTop (mkF m 44 #[.val (.long v), .second, .val (.int (1 : Int32)), .val (.int (2 : Int32)), .val (.int (2 : Int32))] [(.int (2 : Int32)), (.int (1 : Int32))])) _
            refine XS.iadd X11.here hx rfl (hb hby d5_44) rfl ?_
            rw [show ((1 : Int32) + (2 : Int32)) = (3 : Int32) from rfl]
            show Steps p.tables e below (T11.setTop (mkF m 45 #[.val (.long v), .second, .val (.int (1 : Int32)), .val (.int (2 : Int32)), .val (.int (2 : Int32))] [(.int (3 : Int32))])) _
            refine XS.iconst X11.here hx rfl (hb hby d5_45) ?_
            show Steps p.tables e below (T11.setTop (mkF m 46 #[.val (.long v), .second, .val (.int (1 : Int32)), .val (.int (2 : Int32)), .val (.int (2 : Int32))] [(.int (1 : Int32)), (.int (3 : Int32))])) _
            refine XT.iushr X11.here hx rfl (hb hby d5_46) rfl ?_
            rw [show XT.ushr (3 : Int32) (1 : Int32) = (1 : Int32) from by decide]
            show Steps p.tables e below (T11.setTop (mkF m 47 #[.val (.long v), .second, .val (.int (1 : Int32)), .val (.int (2 : Int32)), .val (.int (2 : Int32))] [(.int (1 : Int32))])) _
            refine XS.istore X11.here hx rfl (hb hby d5_47) rfl (l' := #[.val (.long v), .second, .val (.int (1 : Int32)), .val (.int (2 : Int32)), .val (.int (1 : Int32))]) rfl ?_
            show Steps p.tables e below (T11.setTop (mkF m 49 #[.val (.long v), .second, .val (.int (1 : Int32)), .val (.int (2 : Int32)), .val (.int (1 : Int32))] [])) _
            refine XS.lloadN X11.here hx rfl (hb hby d5_49) rfl ?_
            show Steps p.tables e below (T11.setTop (mkF m 50 #[.val (.long v), .second, .val (.int (1 : Int32)), .val (.int (2 : Int32)), .val (.int (1 : Int32))] [(.long v)])) _
            refine st14 _ ?_
            show Steps p.tables e below (T14.setTop (mkF m 53 #[.val (.long v), .second, .val (.int (1 : Int32)), .val (.int (2 : Int32)), .val (.int (1 : Int32))] [(.ref pa), (.long v)])) _
            refine XS.iload X14.here hx rfl (hb hby d5_53) rfl ?_
            show Steps p.tables e below (T14.setTop (mkF m 55 #[.val (.long v), .second, .val (.int (1 : Int32)), .val (.int (2 : Int32)), .val (.int (1 : Int32))] [(.int (1 : Int32)), (.ref pa), (.long v)])) _
            refine X14.laload hx (j := (1 : Int32)) (v := (.long (10 : Int64))) (by rw [e14]; exact Ar.1) (State.isArrayOf_alike hZ.alike Ar.2.1) Ar.2.2 El1.1 El1.2 (g := (mkF m 55 #[.val (.long v), .second, .val (.int (1 : Int32)), .val (.int (2 : Int32)), .val (.int (1 : Int32))] [(.int (1 : Int32)), (.ref pa), (.long v)])) rfl rfl (hb hby d5_55) _ ?_
            show Steps p.tables e below (T14.setTop (mkF m 56 #[.val (.long v), .second, .val (.int (1 : Int32)), .val (.int (2 : Int32)), .val (.int (1 : Int32))] [(.long (10 : Int64)), (.long v)])) _
            refine XT.lcmp X14.here hx rfl (hb hby d5_56) rfl ?_
            exact kt
          by_cases hc57_16 : v < (10 : Int64)
          · have pre17 : ∀ t, Steps p.tables e below (T14.setTop (mkF m 75 #[.val (.long v), .second, .val (.int (1 : Int32)), .val (.int (1 : Int32)), .val (.int (1 : Int32))] [(.int (1 : Int32))])) t → Steps p.tables e below (s₁.setTop (entryFrame m #[(.long v)] 5)) t := by
              intro t kt
              refine pre15 _ ?_
              show Steps p.tables e below (T14.setTop (mkF m 57 #[.val (.long v), .second, .val (.int (1 : Int32)), .val (.int (2 : Int32)), .val (.int (1 : Int32))] [(.int (XT.cmpL v (10 : Int64)))])) _
              refine XS.ifYes X14.here hx rfl (pc0 := 57) (pc' := 68) rfl (hb hby d5_57) rfl (XT.ll_lt_t hc57_16) (by decide) (by decide) ?_
              show Steps p.tables e below (T14.setTop (mkF m 68 #[.val (.long v), .second, .val (.int (1 : Int32)), .val (.int (2 : Int32)), .val (.int (1 : Int32))] [])) _
              refine XS.iload X14.here hx rfl (hb hby d5_68) rfl ?_
              show Steps p.tables e below (T14.setTop (mkF m 70 #[.val (.long v), .second, .val (.int (1 : Int32)), .val (.int (2 : Int32)), .val (.int (1 : Int32))] [(.int (1 : Int32))])) _
              refine XS.istoreN X14.here hx rfl (hb hby d5_70) rfl (l' := #[.val (.long v), .second, .val (.int (1 : Int32)), .val (.int (1 : Int32)), .val (.int (1 : Int32))]) rfl ?_
              show Steps p.tables e below (T14.setTop (mkF m 71 #[.val (.long v), .second, .val (.int (1 : Int32)), .val (.int (1 : Int32)), .val (.int (1 : Int32))] [])) _
              refine XS.goto X14.here hx rfl (pc0 := 71) (pc' := 37) rfl (hb hby d5_71) (by decide) (by decide) ?_
              show Steps p.tables e below (T14.setTop (mkF m 37 #[.val (.long v), .second, .val (.int (1 : Int32)), .val (.int (1 : Int32)), .val (.int (1 : Int32))] [])) _
              refine XS.iloadN X14.here hx rfl (hb hby d5_37) rfl ?_
              show Steps p.tables e below (T14.setTop (mkF m 38 #[.val (.long v), .second, .val (.int (1 : Int32)), .val (.int (1 : Int32)), .val (.int (1 : Int32))] [(.int (1 : Int32))])) _
              refine XS.iloadN X14.here hx rfl (hb hby d5_38) rfl ?_
              show Steps p.tables e below (T14.setTop (mkF m 39 #[.val (.long v), .second, .val (.int (1 : Int32)), .val (.int (1 : Int32)), .val (.int (1 : Int32))] [(.int (1 : Int32)), (.int (1 : Int32))])) _
              refine XS.icmpYes X14.here hx rfl (pc0 := 39) (pc' := 74) rfl (hb hby d5_39) rfl (XT.ii_ge_t (by decide)) (by decide) (by decide) ?_
              show Steps p.tables e below (T14.setTop (mkF m 74 #[.val (.long v), .second, .val (.int (1 : Int32)), .val (.int (1 : Int32)), .val (.int (1 : Int32))] [])) _
              refine XS.iloadN X14.here hx rfl (hb hby d5_74) rfl ?_
              exact kt
            obtain ⟨fs, hr, hrun, hended, hW, hsame⟩ := X14.leave (v := some (.int (1 : Int32))) (fun h => by rw [Bd.returns] at h; cases h)
            refine ⟨_, _, pre17 _ ?_, hrun, hended, _, _, rfl, ?_, ⟨_, rfl⟩, hW, hsame.mono (by decide) (by decide)⟩
            · show Steps p.tables e below (T14.setTop (mkF m 75 #[.val (.long v), .second, .val (.int (1 : Int32)), .val (.int (1 : Int32)), .val (.int (1 : Int32))] [(.int (1 : Int32))])) _
              exact retI X14 hx Bd.returns (hb hby d5_75) hr
            · show Q1 Z (.int (cntF v)) h0 n0 _ T14.heap _
              rw [e14]
              exact ⟨by rw [cntF, if_neg hpos, cnt_1 (own_lt hc57_16 rfl)], N0, rfl⟩
          · have pre18 : ∀ t, Steps p.tables e below (T14.setTop (mkF m 75 #[.val (.long v), .second, .val (.int (2 : Int32)), .val (.int (2 : Int32)), .val (.int (1 : Int32))] [(.int (2 : Int32))])) t → Steps p.tables e below (s₁.setTop (entryFrame m #[(.long v)] 5)) t := by
              intro t kt
              refine pre15 _ ?_
              show Steps p.tables e below (T14.setTop (mkF m 57 #[.val (.long v), .second, .val (.int (1 : Int32)), .val (.int (2 : Int32)), .val (.int (1 : Int32))] [(.int (XT.cmpL v (10 : Int64)))])) _
              refine XS.ifNo X14.here hx rfl (hb hby d5_57) rfl (XT.ll_lt_f hc57_16) ?_
              show Steps p.tables e below (T14.setTop (mkF m 60 #[.val (.long v), .second, .val (.int (1 : Int32)), .val (.int (2 : Int32)), .val (.int (1 : Int32))] [])) _
              refine XS.iload X14.here hx rfl (hb hby d5_60) rfl ?_
              show Steps p.tables e below (T14.setTop (mkF m 62 #[.val (.long v), .second, .val (.int (1 : Int32)), .val (.int (2 : Int32)), .val (.int (1 : Int32))] [(.int (1 : Int32))])) _
              refine XS.iconst X14.here hx rfl (hb hby d5_62) ?_
              show Steps p.tables e below (T14.setTop (mkF m 63 #[.val (.long v), .second, .val (.int (1 : Int32)), .val (.int (2 : Int32)), .val (.int (1 : Int32))] [(.int (1 : Int32)), (.int (1 : Int32))])) _
              refine XS.iadd X14.here hx rfl (hb hby d5_63) rfl ?_
              rw [show ((1 : Int32) + (1 : Int32)) = (2 : Int32) from rfl]
              show Steps p.tables e below (T14.setTop (mkF m 64 #[.val (.long v), .second, .val (.int (1 : Int32)), .val (.int (2 : Int32)), .val (.int (1 : Int32))] [(.int (2 : Int32))])) _
              refine XS.istoreN X14.here hx rfl (hb hby d5_64) rfl (l' := #[.val (.long v), .second, .val (.int (2 : Int32)), .val (.int (2 : Int32)), .val (.int (1 : Int32))]) rfl ?_
              show Steps p.tables e below (T14.setTop (mkF m 65 #[.val (.long v), .second, .val (.int (2 : Int32)), .val (.int (2 : Int32)), .val (.int (1 : Int32))] [])) _
              refine XS.goto X14.here hx rfl (pc0 := 65) (pc' := 71) rfl (hb hby d5_65) (by decide) (by decide) ?_
              show Steps p.tables e below (T14.setTop (mkF m 71 #[.val (.long v), .second, .val (.int (2 : Int32)), .val (.int (2 : Int32)), .val (.int (1 : Int32))] [])) _
              refine XS.goto X14.here hx rfl (pc0 := 71) (pc' := 37) rfl (hb hby d5_71) (by decide) (by decide) ?_
              show Steps p.tables e below (T14.setTop (mkF m 37 #[.val (.long v), .second, .val (.int (2 : Int32)), .val (.int (2 : Int32)), .val (.int (1 : Int32))] [])) _
              refine XS.iloadN X14.here hx rfl (hb hby d5_37) rfl ?_
              show Steps p.tables e below (T14.setTop (mkF m 38 #[.val (.long v), .second, .val (.int (2 : Int32)), .val (.int (2 : Int32)), .val (.int (1 : Int32))] [(.int (2 : Int32))])) _
              refine XS.iloadN X14.here hx rfl (hb hby d5_38) rfl ?_
              show Steps p.tables e below (T14.setTop (mkF m 39 #[.val (.long v), .second, .val (.int (2 : Int32)), .val (.int (2 : Int32)), .val (.int (1 : Int32))] [(.int (2 : Int32)), (.int (2 : Int32))])) _
              refine XS.icmpYes X14.here hx rfl (pc0 := 39) (pc' := 74) rfl (hb hby d5_39) rfl (XT.ii_ge_t (by decide)) (by decide) (by decide) ?_
              show Steps p.tables e below (T14.setTop (mkF m 74 #[.val (.long v), .second, .val (.int (2 : Int32)), .val (.int (2 : Int32)), .val (.int (1 : Int32))] [])) _
              refine XS.iloadN X14.here hx rfl (hb hby d5_74) rfl ?_
              exact kt
            obtain ⟨fs, hr, hrun, hended, hW, hsame⟩ := X14.leave (v := some (.int (2 : Int32))) (fun h => by rw [Bd.returns] at h; cases h)
            refine ⟨_, _, pre18 _ ?_, hrun, hended, _, _, rfl, ?_, ⟨_, rfl⟩, hW, hsame.mono (by decide) (by decide)⟩
            · show Steps p.tables e below (T14.setTop (mkF m 75 #[.val (.long v), .second, .val (.int (2 : Int32)), .val (.int (2 : Int32)), .val (.int (1 : Int32))] [(.int (2 : Int32))])) _
              exact retI X14 hx Bd.returns (hb hby d5_75) hr
            · show Q1 Z (.int (cntF v)) h0 n0 _ T14.heap _
              rw [e14]
              exact ⟨by rw [cntF, if_neg hpos, cnt_2 (own_ge hc57_16 rfl) (own_lt hc57_13 rfl)], N0, rfl⟩
        · have pre19 : ∀ t, Steps p.tables e below (T11.setTop (mkF m 75 #[.val (.long v), .second, .val (.int (3 : Int32)), .val (.int (3 : Int32)), .val (.int (2 : Int32))] [(.int (3 : Int32))])) t → Steps p.tables e below (s₁.setTop (entryFrame m #[(.long v)] 5)) t := by
            intro t kt
            refine pre12 _ ?_
            show Steps p.tables e below (T11.setTop (mkF m 57 #[.val (.long v), .second, .val (.int (1 : Int32)), .val (.int (3 : Int32)), .val (.int (2 : Int32))] [(.int (XT.cmpL v (100 : Int64)))])) _
            refine XS.ifNo X11.here hx rfl (hb hby d5_57) rfl (XT.ll_lt_f hc57_13) ?_
            show Steps p.tables e below (T11.setTop (mkF m 60 #[.val (.long v), .second, .val (.int (1 : Int32)), .val (.int (3 : Int32)), .val (.int (2 : Int32))] [])) _
            refine XS.iload X11.here hx rfl (hb hby d5_60) rfl ?_
            show Steps p.tables e below (T11.setTop (mkF m 62 #[.val (.long v), .second, .val (.int (1 : Int32)), .val (.int (3 : Int32)), .val (.int (2 : Int32))] [(.int (2 : Int32))])) _
            refine XS.iconst X11.here hx rfl (hb hby d5_62) ?_
            show Steps p.tables e below (T11.setTop (mkF m 63 #[.val (.long v), .second, .val (.int (1 : Int32)), .val (.int (3 : Int32)), .val (.int (2 : Int32))] [(.int (1 : Int32)), (.int (2 : Int32))])) _
            refine XS.iadd X11.here hx rfl (hb hby d5_63) rfl ?_
            rw [show ((2 : Int32) + (1 : Int32)) = (3 : Int32) from rfl]
            show Steps p.tables e below (T11.setTop (mkF m 64 #[.val (.long v), .second, .val (.int (1 : Int32)), .val (.int (3 : Int32)), .val (.int (2 : Int32))] [(.int (3 : Int32))])) _
            refine XS.istoreN X11.here hx rfl (hb hby d5_64) rfl (l' := #[.val (.long v), .second, .val (.int (3 : Int32)), .val (.int (3 : Int32)), .val (.int (2 : Int32))]) rfl ?_
            show Steps p.tables e below (T11.setTop (mkF m 65 #[.val (.long v), .second, .val (.int (3 : Int32)), .val (.int (3 : Int32)), .val (.int (2 : Int32))] [])) _
            refine XS.goto X11.here hx rfl (pc0 := 65) (pc' := 71) rfl (hb hby d5_65) (by decide) (by decide) ?_
            show Steps p.tables e below (T11.setTop (mkF m 71 #[.val (.long v), .second, .val (.int (3 : Int32)), .val (.int (3 : Int32)), .val (.int (2 : Int32))] [])) _
            refine XS.goto X11.here hx rfl (pc0 := 71) (pc' := 37) rfl (hb hby d5_71) (by decide) (by decide) ?_
            show Steps p.tables e below (T11.setTop (mkF m 37 #[.val (.long v), .second, .val (.int (3 : Int32)), .val (.int (3 : Int32)), .val (.int (2 : Int32))] [])) _
            refine XS.iloadN X11.here hx rfl (hb hby d5_37) rfl ?_
            show Steps p.tables e below (T11.setTop (mkF m 38 #[.val (.long v), .second, .val (.int (3 : Int32)), .val (.int (3 : Int32)), .val (.int (2 : Int32))] [(.int (3 : Int32))])) _
            refine XS.iloadN X11.here hx rfl (hb hby d5_38) rfl ?_
            show Steps p.tables e below (T11.setTop (mkF m 39 #[.val (.long v), .second, .val (.int (3 : Int32)), .val (.int (3 : Int32)), .val (.int (2 : Int32))] [(.int (3 : Int32)), (.int (3 : Int32))])) _
            refine XS.icmpYes X11.here hx rfl (pc0 := 39) (pc' := 74) rfl (hb hby d5_39) rfl (XT.ii_ge_t (by decide)) (by decide) (by decide) ?_
            show Steps p.tables e below (T11.setTop (mkF m 74 #[.val (.long v), .second, .val (.int (3 : Int32)), .val (.int (3 : Int32)), .val (.int (2 : Int32))] [])) _
            refine XS.iloadN X11.here hx rfl (hb hby d5_74) rfl ?_
            exact kt
          obtain ⟨fs, hr, hrun, hended, hW, hsame⟩ := X11.leave (v := some (.int (3 : Int32))) (fun h => by rw [Bd.returns] at h; cases h)
          refine ⟨_, _, pre19 _ ?_, hrun, hended, _, _, rfl, ?_, ⟨_, rfl⟩, hW, hsame.mono (by decide) (by decide)⟩
          · show Steps p.tables e below (T11.setTop (mkF m 75 #[.val (.long v), .second, .val (.int (3 : Int32)), .val (.int (3 : Int32)), .val (.int (2 : Int32))] [(.int (3 : Int32))])) _
            exact retI X11 hx Bd.returns (hb hby d5_75) hr
          · show Q1 Z (.int (cntF v)) h0 n0 _ T11.heap _
            rw [e11]
            exact ⟨by rw [cntF, if_neg hpos, cnt_3 (own_ge hc57_13 rfl) (own_lt hc57_10 rfl)], N0, rfl⟩
      · obtain ⟨T20, X20, e20, st20⟩ := getS2 X8 hx hZ hown (host := "") (Or.inl (hw _ (List.mem_of_getElem? (i := 4) rfl))) Via.refl e8 S_P (g := (mkF m 50 #[.val (.long v), .second, .val (.int (4 : Int32)), .val (.int (5 : Int32)), .val (.int (4 : Int32))] [(.long v)])) rfl (hb hby d5_50)
        have pre21 : ∀ t, Steps p.tables e below (T20.setTop (mkF m 57 #[.val (.long v), .second, .val (.int (4 : Int32)), .val (.int (5 : Int32)), .val (.int (4 : Int32))] [(.int (XT.cmpL v (10000 : Int64)))])) t → Steps p.tables e below (s₁.setTop (entryFrame m #[(.long v)] 5)) t := by
          intro t kt
          refine pre9 _ ?_
          show Steps p.tables e below (T8.setTop (mkF m 57 #[.val (.long v), .second, .val (.int (1 : Int32)), .val (.int (5 : Int32)), .val (.int (3 : Int32))] [(.int (XT.cmpL v (1000 : Int64)))])) _
          refine XS.ifNo X8.here hx rfl (hb hby d5_57) rfl (XT.ll_lt_f hc57_10) ?_
          show Steps p.tables e below (T8.setTop (mkF m 60 #[.val (.long v), .second, .val (.int (1 : Int32)), .val (.int (5 : Int32)), .val (.int (3 : Int32))] [])) _
          refine XS.iload X8.here hx rfl (hb hby d5_60) rfl ?_
          show Steps p.tables e below (T8.setTop (mkF m 62 #[.val (.long v), .second, .val (.int (1 : Int32)), .val (.int (5 : Int32)), .val (.int (3 : Int32))] [(.int (3 : Int32))])) _
          refine XS.iconst X8.here hx rfl (hb hby d5_62) ?_
          show Steps p.tables e below (T8.setTop (mkF m 63 #[.val (.long v), .second, .val (.int (1 : Int32)), .val (.int (5 : Int32)), .val (.int (3 : Int32))] [(.int (1 : Int32)), (.int (3 : Int32))])) _
          refine XS.iadd X8.here hx rfl (hb hby d5_63) rfl ?_
          rw [show ((3 : Int32) + (1 : Int32)) = (4 : Int32) from rfl]
          show Steps p.tables e below (T8.setTop (mkF m 64 #[.val (.long v), .second, .val (.int (1 : Int32)), .val (.int (5 : Int32)), .val (.int (3 : Int32))] [(.int (4 : Int32))])) _
          refine XS.istoreN X8.here hx rfl (hb hby d5_64) rfl (l' := #[.val (.long v), .second, .val (.int (4 : Int32)), .val (.int (5 : Int32)), .val (.int (3 : Int32))]) rfl ?_
          show Steps p.tables e below (T8.setTop (mkF m 65 #[.val (.long v), .second, .val (.int (4 : Int32)), .val (.int (5 : Int32)), .val (.int (3 : Int32))] [])) _
          refine XS.goto X8.here hx rfl (pc0 := 65) (pc' := 71) rfl (hb hby d5_65) (by decide) (by decide) ?_
          show Steps p.tables e below (T8.setTop (mkF m 71 #[.val (.long v), .second, .val (.int (4 : Int32)), .val (.int (5 : Int32)), .val (.int (3 : Int32))] [])) _
          refine XS.goto X8.here hx rfl (pc0 := 71) (pc' := 37) rfl (hb hby d5_71) (by decide) (by decide) ?_
          show Steps p.tables e below (T8.setTop (mkF m 37 #[.val (.long v), .second, .val (.int (4 : Int32)), .val (.int (5 : Int32)), .val (.int (3 : Int32))] [])) _
          refine XS.iloadN X8.here hx rfl (hb hby d5_37) rfl ?_
          show Steps p.tables e below (T8.setTop (mkF m 38 #[.val (.long v), .second, .val (.int (4 : Int32)), .val (.int (5 : Int32)), .val (.int (3 : Int32))] [(.int (4 : Int32))])) _
          refine XS.iloadN X8.here hx rfl (hb hby d5_38) rfl ?_
          show Steps p.tables e below (T8.setTop (mkF m 39 #[.val (.long v), .second, .val (.int (4 : Int32)), .val (.int (5 : Int32)), .val (.int (3 : Int32))] [(.int (5 : Int32)), (.int (4 : Int32))])) _
          refine XS.icmpNo X8.here hx rfl (hb hby d5_39) rfl (XT.ii_ge_f (by decide)) ?_
          show Steps p.tables e below (T8.setTop (mkF m 42 #[.val (.long v), .second, .val (.int (4 : Int32)), .val (.int (5 : Int32)), .val (.int (3 : Int32))] [])) _
          refine XS.iloadN X8.here hx rfl (hb hby d5_42) rfl ?_
          show Steps p.tables e below (T8.setTop (mkF m 43 #[.val (.long v), .second, .val (.int (4 : Int32)), .val (.int (5 : Int32)), .val (.int (3 : Int32))] [(.int (4 : Int32))])) _
          refine XS.iloadN X8.here hx rfl (hb hby d5_43) rfl ?_
          show Steps p.tables e below (T8.setTop (mkF m 44 #[.val (.long v), .second, .val (.int (4 : Int32)), .val (.int (5 : Int32)), .val (.int (3 : Int32))] [(.int (5 : Int32)), (.int (4 : Int32))])) _
          refine XS.iadd X8.here hx rfl (hb hby d5_44) rfl ?_
          rw [show ((4 : Int32) + (5 : Int32)) = (9 : Int32) from rfl]
          show Steps p.tables e below (T8.setTop (mkF m 45 #[.val (.long v), .second, .val (.int (4 : Int32)), .val (.int (5 : Int32)), .val (.int (3 : Int32))] [(.int (9 : Int32))])) _
          refine XS.iconst X8.here hx rfl (hb hby d5_45) ?_
          show Steps p.tables e below (T8.setTop (mkF m 46 #[.val (.long v), .second, .val (.int (4 : Int32)), .val (.int (5 : Int32)), .val (.int (3 : Int32))] [(.int (1 : Int32)), (.int (9 : Int32))])) _
          refine XT.iushr X8.here hx rfl (hb hby d5_46) rfl ?_
          rw [show XT.ushr (9 : Int32) (1 : Int32) = (4 : Int32) from by decide]
          show Steps p.tables e below (T8.setTop (mkF m 47 #[.val (.long v), .second, .val (.int (4 : Int32)), .val (.int (5 : Int32)), .val (.int (3 : Int32))] [(.int (4 : Int32))])) _
          refine XS.istore X8.here hx rfl (hb hby d5_47) rfl (l' := #[.val (.long v), .second, .val (.int (4 : Int32)), .val (.int (5 : Int32)), .val (.int (4 : Int32))]) rfl ?_
          show Steps p.tables e below (T8.setTop (mkF m 49 #[.val (.long v), .second, .val (.int (4 : Int32)), .val (.int (5 : Int32)), .val (.int (4 : Int32))] [])) _
          refine XS.lloadN X8.here hx rfl (hb hby d5_49) rfl ?_
          show Steps p.tables e below (T8.setTop (mkF m 50 #[.val (.long v), .second, .val (.int (4 : Int32)), .val (.int (5 : Int32)), .val (.int (4 : Int32))] [(.long v)])) _
          refine st20 _ ?_
          show Steps p.tables e below (T20.setTop (mkF m 53 #[.val (.long v), .second, .val (.int (4 : Int32)), .val (.int (5 : Int32)), .val (.int (4 : Int32))] [(.ref pa), (.long v)])) _
          refine XS.iload X20.here hx rfl (hb hby d5_53) rfl ?_
          show Steps p.tables e below (T20.setTop (mkF m 55 #[.val (.long v), .second, .val (.int (4 : Int32)), .val (.int (5 : Int32)), .val (.int (4 : Int32))] [(.int (4 : Int32)), (.ref pa), (.long v)])) _
          refine X20.laload hx (j := (4 : Int32)) (v := (.long (10000 : Int64))) (by rw [e20]; exact Ar.1) (State.isArrayOf_alike hZ.alike Ar.2.1) Ar.2.2 El4.1 El4.2 (g := (mkF m 55 #[.val (.long v), .second, .val (.int (4 : Int32)), .val (.int (5 : Int32)), .val (.int (4 : Int32))] [(.int (4 : Int32)), (.ref pa), (.long v)])) rfl rfl (hb hby d5_55) _ ?_
          show Steps p.tables e below (T20.setTop (mkF m 56 #[.val (.long v), .second, .val (.int (4 : Int32)), .val (.int (5 : Int32)), .val (.int (4 : Int32))] [(.long (10000 : Int64)), (.long v)])) _
          refine XT.lcmp X20.here hx rfl (hb hby d5_56) rfl ?_
          exact kt
        by_cases hc57_22 : v < (10000 : Int64)
        · have pre23 : ∀ t, Steps p.tables e below (T20.setTop (mkF m 75 #[.val (.long v), .second, .val (.int (4 : Int32)), .val (.int (4 : Int32)), .val (.int (4 : Int32))] [(.int (4 : Int32))])) t → Steps p.tables e below (s₁.setTop (entryFrame m #[(.long v)] 5)) t := by
            intro t kt
            refine pre21 _ ?_
            show Steps p.tables e below (T20.setTop (mkF m 57 #[.val (.long v), .second, .val (.int (4 : Int32)), .val (.int (5 : Int32)), .val (.int (4 : Int32))] [(.int (XT.cmpL v (10000 : Int64)))])) _
            refine XS.ifYes X20.here hx rfl (pc0 := 57) (pc' := 68) rfl (hb hby d5_57) rfl (XT.ll_lt_t hc57_22) (by decide) (by decide) ?_
            show Steps p.tables e below (T20.setTop (mkF m 68 #[.val (.long v), .second, .val (.int (4 : Int32)), .val (.int (5 : Int32)), .val (.int (4 : Int32))] [])) _
            refine XS.iload X20.here hx rfl (hb hby d5_68) rfl ?_
            show Steps p.tables e below (T20.setTop (mkF m 70 #[.val (.long v), .second, .val (.int (4 : Int32)), .val (.int (5 : Int32)), .val (.int (4 : Int32))] [(.int (4 : Int32))])) _
            refine XS.istoreN X20.here hx rfl (hb hby d5_70) rfl (l' := #[.val (.long v), .second, .val (.int (4 : Int32)), .val (.int (4 : Int32)), .val (.int (4 : Int32))]) rfl ?_
            show Steps p.tables e below (T20.setTop (mkF m 71 #[.val (.long v), .second, .val (.int (4 : Int32)), .val (.int (4 : Int32)), .val (.int (4 : Int32))] [])) _
            refine XS.goto X20.here hx rfl (pc0 := 71) (pc' := 37) rfl (hb hby d5_71) (by decide) (by decide) ?_
            show Steps p.tables e below (T20.setTop (mkF m 37 #[.val (.long v), .second, .val (.int (4 : Int32)), .val (.int (4 : Int32)), .val (.int (4 : Int32))] [])) _
            refine XS.iloadN X20.here hx rfl (hb hby d5_37) rfl ?_
            show Steps p.tables e below (T20.setTop (mkF m 38 #[.val (.long v), .second, .val (.int (4 : Int32)), .val (.int (4 : Int32)), .val (.int (4 : Int32))] [(.int (4 : Int32))])) _
            refine XS.iloadN X20.here hx rfl (hb hby d5_38) rfl ?_
            show Steps p.tables e below (T20.setTop (mkF m 39 #[.val (.long v), .second, .val (.int (4 : Int32)), .val (.int (4 : Int32)), .val (.int (4 : Int32))] [(.int (4 : Int32)), (.int (4 : Int32))])) _
            refine XS.icmpYes X20.here hx rfl (pc0 := 39) (pc' := 74) rfl (hb hby d5_39) rfl (XT.ii_ge_t (by decide)) (by decide) (by decide) ?_
            show Steps p.tables e below (T20.setTop (mkF m 74 #[.val (.long v), .second, .val (.int (4 : Int32)), .val (.int (4 : Int32)), .val (.int (4 : Int32))] [])) _
            refine XS.iloadN X20.here hx rfl (hb hby d5_74) rfl ?_
            exact kt
          obtain ⟨fs, hr, hrun, hended, hW, hsame⟩ := X20.leave (v := some (.int (4 : Int32))) (fun h => by rw [Bd.returns] at h; cases h)
          refine ⟨_, _, pre23 _ ?_, hrun, hended, _, _, rfl, ?_, ⟨_, rfl⟩, hW, hsame.mono (by decide) (by decide)⟩
          · show Steps p.tables e below (T20.setTop (mkF m 75 #[.val (.long v), .second, .val (.int (4 : Int32)), .val (.int (4 : Int32)), .val (.int (4 : Int32))] [(.int (4 : Int32))])) _
            exact retI X20 hx Bd.returns (hb hby d5_75) hr
          · show Q1 Z (.int (cntF v)) h0 n0 _ T20.heap _
            rw [e20]
            exact ⟨by rw [cntF, if_neg hpos, cnt_4 (own_ge hc57_10 rfl) (own_lt hc57_22 rfl)], N0, rfl⟩
        · have pre24 : ∀ t, Steps p.tables e below (T20.setTop (mkF m 75 #[.val (.long v), .second, .val (.int (5 : Int32)), .val (.int (5 : Int32)), .val (.int (4 : Int32))] [(.int (5 : Int32))])) t → Steps p.tables e below (s₁.setTop (entryFrame m #[(.long v)] 5)) t := by
            intro t kt
            refine pre21 _ ?_
            show Steps p.tables e below (T20.setTop (mkF m 57 #[.val (.long v), .second, .val (.int (4 : Int32)), .val (.int (5 : Int32)), .val (.int (4 : Int32))] [(.int (XT.cmpL v (10000 : Int64)))])) _
            refine XS.ifNo X20.here hx rfl (hb hby d5_57) rfl (XT.ll_lt_f hc57_22) ?_
            show Steps p.tables e below (T20.setTop (mkF m 60 #[.val (.long v), .second, .val (.int (4 : Int32)), .val (.int (5 : Int32)), .val (.int (4 : Int32))] [])) _
            refine XS.iload X20.here hx rfl (hb hby d5_60) rfl ?_
            show Steps p.tables e below (T20.setTop (mkF m 62 #[.val (.long v), .second, .val (.int (4 : Int32)), .val (.int (5 : Int32)), .val (.int (4 : Int32))] [(.int (4 : Int32))])) _
            refine XS.iconst X20.here hx rfl (hb hby d5_62) ?_
            show Steps p.tables e below (T20.setTop (mkF m 63 #[.val (.long v), .second, .val (.int (4 : Int32)), .val (.int (5 : Int32)), .val (.int (4 : Int32))] [(.int (1 : Int32)), (.int (4 : Int32))])) _
            refine XS.iadd X20.here hx rfl (hb hby d5_63) rfl ?_
            rw [show ((4 : Int32) + (1 : Int32)) = (5 : Int32) from rfl]
            show Steps p.tables e below (T20.setTop (mkF m 64 #[.val (.long v), .second, .val (.int (4 : Int32)), .val (.int (5 : Int32)), .val (.int (4 : Int32))] [(.int (5 : Int32))])) _
            refine XS.istoreN X20.here hx rfl (hb hby d5_64) rfl (l' := #[.val (.long v), .second, .val (.int (5 : Int32)), .val (.int (5 : Int32)), .val (.int (4 : Int32))]) rfl ?_
            show Steps p.tables e below (T20.setTop (mkF m 65 #[.val (.long v), .second, .val (.int (5 : Int32)), .val (.int (5 : Int32)), .val (.int (4 : Int32))] [])) _
            refine XS.goto X20.here hx rfl (pc0 := 65) (pc' := 71) rfl (hb hby d5_65) (by decide) (by decide) ?_
            show Steps p.tables e below (T20.setTop (mkF m 71 #[.val (.long v), .second, .val (.int (5 : Int32)), .val (.int (5 : Int32)), .val (.int (4 : Int32))] [])) _
            refine XS.goto X20.here hx rfl (pc0 := 71) (pc' := 37) rfl (hb hby d5_71) (by decide) (by decide) ?_
            show Steps p.tables e below (T20.setTop (mkF m 37 #[.val (.long v), .second, .val (.int (5 : Int32)), .val (.int (5 : Int32)), .val (.int (4 : Int32))] [])) _
            refine XS.iloadN X20.here hx rfl (hb hby d5_37) rfl ?_
            show Steps p.tables e below (T20.setTop (mkF m 38 #[.val (.long v), .second, .val (.int (5 : Int32)), .val (.int (5 : Int32)), .val (.int (4 : Int32))] [(.int (5 : Int32))])) _
            refine XS.iloadN X20.here hx rfl (hb hby d5_38) rfl ?_
            show Steps p.tables e below (T20.setTop (mkF m 39 #[.val (.long v), .second, .val (.int (5 : Int32)), .val (.int (5 : Int32)), .val (.int (4 : Int32))] [(.int (5 : Int32)), (.int (5 : Int32))])) _
            refine XS.icmpYes X20.here hx rfl (pc0 := 39) (pc' := 74) rfl (hb hby d5_39) rfl (XT.ii_ge_t (by decide)) (by decide) (by decide) ?_
            show Steps p.tables e below (T20.setTop (mkF m 74 #[.val (.long v), .second, .val (.int (5 : Int32)), .val (.int (5 : Int32)), .val (.int (4 : Int32))] [])) _
            refine XS.iloadN X20.here hx rfl (hb hby d5_74) rfl ?_
            exact kt
          obtain ⟨fs, hr, hrun, hended, hW, hsame⟩ := X20.leave (v := some (.int (5 : Int32))) (fun h => by rw [Bd.returns] at h; cases h)
          refine ⟨_, _, pre24 _ ?_, hrun, hended, _, _, rfl, ?_, ⟨_, rfl⟩, hW, hsame.mono (by decide) (by decide)⟩
          · show Steps p.tables e below (T20.setTop (mkF m 75 #[.val (.long v), .second, .val (.int (5 : Int32)), .val (.int (5 : Int32)), .val (.int (4 : Int32))] [(.int (5 : Int32))])) _
            exact retI X20 hx Bd.returns (hb hby d5_75) hr
          · show Q1 Z (.int (cntF v)) h0 n0 _ T20.heap _
            rw [e20]
            exact ⟨by rw [cntF, if_neg hpos, cnt_5 (own_ge hc57_22 rfl) (own_lt hc57_7 rfl)], N0, rfl⟩
    · obtain ⟨T25, X25, e25, st25⟩ := getS2 X5 hx hZ hown (host := "") (Or.inl (hw _ (List.mem_of_getElem? (i := 4) rfl))) Via.refl e5 S_P (g := (mkF m 50 #[.val (.long v), .second, .val (.int (6 : Int32)), .val (.int (10 : Int32)), .val (.int (8 : Int32))] [(.long v)])) rfl (hb hby d5_50)
      have pre26 : ∀ t, Steps p.tables e below (T25.setTop (mkF m 57 #[.val (.long v), .second, .val (.int (6 : Int32)), .val (.int (10 : Int32)), .val (.int (8 : Int32))] [(.int (XT.cmpL v (100000000 : Int64)))])) t → Steps p.tables e below (s₁.setTop (entryFrame m #[(.long v)] 5)) t := by
        intro t kt
        refine pre6 _ ?_
        show Steps p.tables e below (T5.setTop (mkF m 57 #[.val (.long v), .second, .val (.int (1 : Int32)), .val (.int (10 : Int32)), .val (.int (5 : Int32))] [(.int (XT.cmpL v (100000 : Int64)))])) _
        refine XS.ifNo X5.here hx rfl (hb hby d5_57) rfl (XT.ll_lt_f hc57_7) ?_
        show Steps p.tables e below (T5.setTop (mkF m 60 #[.val (.long v), .second, .val (.int (1 : Int32)), .val (.int (10 : Int32)), .val (.int (5 : Int32))] [])) _
        refine XS.iload X5.here hx rfl (hb hby d5_60) rfl ?_
        show Steps p.tables e below (T5.setTop (mkF m 62 #[.val (.long v), .second, .val (.int (1 : Int32)), .val (.int (10 : Int32)), .val (.int (5 : Int32))] [(.int (5 : Int32))])) _
        refine XS.iconst X5.here hx rfl (hb hby d5_62) ?_
        show Steps p.tables e below (T5.setTop (mkF m 63 #[.val (.long v), .second, .val (.int (1 : Int32)), .val (.int (10 : Int32)), .val (.int (5 : Int32))] [(.int (1 : Int32)), (.int (5 : Int32))])) _
        refine XS.iadd X5.here hx rfl (hb hby d5_63) rfl ?_
        rw [show ((5 : Int32) + (1 : Int32)) = (6 : Int32) from rfl]
        show Steps p.tables e below (T5.setTop (mkF m 64 #[.val (.long v), .second, .val (.int (1 : Int32)), .val (.int (10 : Int32)), .val (.int (5 : Int32))] [(.int (6 : Int32))])) _
        refine XS.istoreN X5.here hx rfl (hb hby d5_64) rfl (l' := #[.val (.long v), .second, .val (.int (6 : Int32)), .val (.int (10 : Int32)), .val (.int (5 : Int32))]) rfl ?_
        show Steps p.tables e below (T5.setTop (mkF m 65 #[.val (.long v), .second, .val (.int (6 : Int32)), .val (.int (10 : Int32)), .val (.int (5 : Int32))] [])) _
        refine XS.goto X5.here hx rfl (pc0 := 65) (pc' := 71) rfl (hb hby d5_65) (by decide) (by decide) ?_
        show Steps p.tables e below (T5.setTop (mkF m 71 #[.val (.long v), .second, .val (.int (6 : Int32)), .val (.int (10 : Int32)), .val (.int (5 : Int32))] [])) _
        refine XS.goto X5.here hx rfl (pc0 := 71) (pc' := 37) rfl (hb hby d5_71) (by decide) (by decide) ?_
        show Steps p.tables e below (T5.setTop (mkF m 37 #[.val (.long v), .second, .val (.int (6 : Int32)), .val (.int (10 : Int32)), .val (.int (5 : Int32))] [])) _
        refine XS.iloadN X5.here hx rfl (hb hby d5_37) rfl ?_
        show Steps p.tables e below (T5.setTop (mkF m 38 #[.val (.long v), .second, .val (.int (6 : Int32)), .val (.int (10 : Int32)), .val (.int (5 : Int32))] [(.int (6 : Int32))])) _
        refine XS.iloadN X5.here hx rfl (hb hby d5_38) rfl ?_
        show Steps p.tables e below (T5.setTop (mkF m 39 #[.val (.long v), .second, .val (.int (6 : Int32)), .val (.int (10 : Int32)), .val (.int (5 : Int32))] [(.int (10 : Int32)), (.int (6 : Int32))])) _
        refine XS.icmpNo X5.here hx rfl (hb hby d5_39) rfl (XT.ii_ge_f (by decide)) ?_
        show Steps p.tables e below (T5.setTop (mkF m 42 #[.val (.long v), .second, .val (.int (6 : Int32)), .val (.int (10 : Int32)), .val (.int (5 : Int32))] [])) _
        refine XS.iloadN X5.here hx rfl (hb hby d5_42) rfl ?_
        show Steps p.tables e below (T5.setTop (mkF m 43 #[.val (.long v), .second, .val (.int (6 : Int32)), .val (.int (10 : Int32)), .val (.int (5 : Int32))] [(.int (6 : Int32))])) _
        refine XS.iloadN X5.here hx rfl (hb hby d5_43) rfl ?_
        show Steps p.tables e below (T5.setTop (mkF m 44 #[.val (.long v), .second, .val (.int (6 : Int32)), .val (.int (10 : Int32)), .val (.int (5 : Int32))] [(.int (10 : Int32)), (.int (6 : Int32))])) _
        refine XS.iadd X5.here hx rfl (hb hby d5_44) rfl ?_
        rw [show ((6 : Int32) + (10 : Int32)) = (16 : Int32) from rfl]
        show Steps p.tables e below (T5.setTop (mkF m 45 #[.val (.long v), .second, .val (.int (6 : Int32)), .val (.int (10 : Int32)), .val (.int (5 : Int32))] [(.int (16 : Int32))])) _
        refine XS.iconst X5.here hx rfl (hb hby d5_45) ?_
        show Steps p.tables e below (T5.setTop (mkF m 46 #[.val (.long v), .second, .val (.int (6 : Int32)), .val (.int (10 : Int32)), .val (.int (5 : Int32))] [(.int (1 : Int32)), (.int (16 : Int32))])) _
        refine XT.iushr X5.here hx rfl (hb hby d5_46) rfl ?_
        rw [show XT.ushr (16 : Int32) (1 : Int32) = (8 : Int32) from by decide]
        show Steps p.tables e below (T5.setTop (mkF m 47 #[.val (.long v), .second, .val (.int (6 : Int32)), .val (.int (10 : Int32)), .val (.int (5 : Int32))] [(.int (8 : Int32))])) _
        refine XS.istore X5.here hx rfl (hb hby d5_47) rfl (l' := #[.val (.long v), .second, .val (.int (6 : Int32)), .val (.int (10 : Int32)), .val (.int (8 : Int32))]) rfl ?_
        show Steps p.tables e below (T5.setTop (mkF m 49 #[.val (.long v), .second, .val (.int (6 : Int32)), .val (.int (10 : Int32)), .val (.int (8 : Int32))] [])) _
        refine XS.lloadN X5.here hx rfl (hb hby d5_49) rfl ?_
        show Steps p.tables e below (T5.setTop (mkF m 50 #[.val (.long v), .second, .val (.int (6 : Int32)), .val (.int (10 : Int32)), .val (.int (8 : Int32))] [(.long v)])) _
        refine st25 _ ?_
        show Steps p.tables e below (T25.setTop (mkF m 53 #[.val (.long v), .second, .val (.int (6 : Int32)), .val (.int (10 : Int32)), .val (.int (8 : Int32))] [(.ref pa), (.long v)])) _
        refine XS.iload X25.here hx rfl (hb hby d5_53) rfl ?_
        show Steps p.tables e below (T25.setTop (mkF m 55 #[.val (.long v), .second, .val (.int (6 : Int32)), .val (.int (10 : Int32)), .val (.int (8 : Int32))] [(.int (8 : Int32)), (.ref pa), (.long v)])) _
        refine X25.laload hx (j := (8 : Int32)) (v := (.long (100000000 : Int64))) (by rw [e25]; exact Ar.1) (State.isArrayOf_alike hZ.alike Ar.2.1) Ar.2.2 El8.1 El8.2 (g := (mkF m 55 #[.val (.long v), .second, .val (.int (6 : Int32)), .val (.int (10 : Int32)), .val (.int (8 : Int32))] [(.int (8 : Int32)), (.ref pa), (.long v)])) rfl rfl (hb hby d5_55) _ ?_
        show Steps p.tables e below (T25.setTop (mkF m 56 #[.val (.long v), .second, .val (.int (6 : Int32)), .val (.int (10 : Int32)), .val (.int (8 : Int32))] [(.long (100000000 : Int64)), (.long v)])) _
        refine XT.lcmp X25.here hx rfl (hb hby d5_56) rfl ?_
        exact kt
      by_cases hc57_27 : v < (100000000 : Int64)
      · obtain ⟨T28, X28, e28, st28⟩ := getS2 X25 hx hZ hown (host := "") (Or.inl (hw _ (List.mem_of_getElem? (i := 4) rfl))) Via.refl e25 S_P (g := (mkF m 50 #[.val (.long v), .second, .val (.int (6 : Int32)), .val (.int (8 : Int32)), .val (.int (7 : Int32))] [(.long v)])) rfl (hb hby d5_50)
        have pre29 : ∀ t, Steps p.tables e below (T28.setTop (mkF m 57 #[.val (.long v), .second, .val (.int (6 : Int32)), .val (.int (8 : Int32)), .val (.int (7 : Int32))] [(.int (XT.cmpL v (10000000 : Int64)))])) t → Steps p.tables e below (s₁.setTop (entryFrame m #[(.long v)] 5)) t := by
          intro t kt
          refine pre26 _ ?_
          show Steps p.tables e below (T25.setTop (mkF m 57 #[.val (.long v), .second, .val (.int (6 : Int32)), .val (.int (10 : Int32)), .val (.int (8 : Int32))] [(.int (XT.cmpL v (100000000 : Int64)))])) _
          refine XS.ifYes X25.here hx rfl (pc0 := 57) (pc' := 68) rfl (hb hby d5_57) rfl (XT.ll_lt_t hc57_27) (by decide) (by decide) ?_
          show Steps p.tables e below (T25.setTop (mkF m 68 #[.val (.long v), .second, .val (.int (6 : Int32)), .val (.int (10 : Int32)), .val (.int (8 : Int32))] [])) _
          refine XS.iload X25.here hx rfl (hb hby d5_68) rfl ?_
          show Steps p.tables e below (T25.setTop (mkF m 70 #[.val (.long v), .second, .val (.int (6 : Int32)), .val (.int (10 : Int32)), .val (.int (8 : Int32))] [(.int (8 : Int32))])) _
          refine XS.istoreN X25.here hx rfl (hb hby d5_70) rfl (l' := #[.val (.long v), .second, .val (.int (6 : Int32)), .val (.int (8 : Int32)), .val (.int (8 : Int32))]) rfl ?_
          show Steps p.tables e below (T25.setTop (mkF m 71 #[.val (.long v), .second, .val (.int (6 : Int32)), .val (.int (8 : Int32)), .val (.int (8 : Int32))] [])) _
          refine XS.goto X25.here hx rfl (pc0 := 71) (pc' := 37) rfl (hb hby d5_71) (by decide) (by decide) ?_
          show Steps p.tables e below (T25.setTop (mkF m 37 #[.val (.long v), .second, .val (.int (6 : Int32)), .val (.int (8 : Int32)), .val (.int (8 : Int32))] [])) _
          refine XS.iloadN X25.here hx rfl (hb hby d5_37) rfl ?_
          show Steps p.tables e below (T25.setTop (mkF m 38 #[.val (.long v), .second, .val (.int (6 : Int32)), .val (.int (8 : Int32)), .val (.int (8 : Int32))] [(.int (6 : Int32))])) _
          refine XS.iloadN X25.here hx rfl (hb hby d5_38) rfl ?_
          show Steps p.tables e below (T25.setTop (mkF m 39 #[.val (.long v), .second, .val (.int (6 : Int32)), .val (.int (8 : Int32)), .val (.int (8 : Int32))] [(.int (8 : Int32)), (.int (6 : Int32))])) _
          refine XS.icmpNo X25.here hx rfl (hb hby d5_39) rfl (XT.ii_ge_f (by decide)) ?_
          show Steps p.tables e below (T25.setTop (mkF m 42 #[.val (.long v), .second, .val (.int (6 : Int32)), .val (.int (8 : Int32)), .val (.int (8 : Int32))] [])) _
          refine XS.iloadN X25.here hx rfl (hb hby d5_42) rfl ?_
          show Steps p.tables e below (T25.setTop (mkF m 43 #[.val (.long v), .second, .val (.int (6 : Int32)), .val (.int (8 : Int32)), .val (.int (8 : Int32))] [(.int (6 : Int32))])) _
          refine XS.iloadN X25.here hx rfl (hb hby d5_43) rfl ?_
          show Steps p.tables e below (T25.setTop (mkF m 44 #[.val (.long v), .second, .val (.int (6 : Int32)), .val (.int (8 : Int32)), .val (.int (8 : Int32))] [(.int (8 : Int32)), (.int (6 : Int32))])) _
          refine XS.iadd X25.here hx rfl (hb hby d5_44) rfl ?_
          rw [show ((6 : Int32) + (8 : Int32)) = (14 : Int32) from rfl]
          show Steps p.tables e below (T25.setTop (mkF m 45 #[.val (.long v), .second, .val (.int (6 : Int32)), .val (.int (8 : Int32)), .val (.int (8 : Int32))] [(.int (14 : Int32))])) _
          refine XS.iconst X25.here hx rfl (hb hby d5_45) ?_
          show Steps p.tables e below (T25.setTop (mkF m 46 #[.val (.long v), .second, .val (.int (6 : Int32)), .val (.int (8 : Int32)), .val (.int (8 : Int32))] [(.int (1 : Int32)), (.int (14 : Int32))])) _
          refine XT.iushr X25.here hx rfl (hb hby d5_46) rfl ?_
          rw [show XT.ushr (14 : Int32) (1 : Int32) = (7 : Int32) from by decide]
          show Steps p.tables e below (T25.setTop (mkF m 47 #[.val (.long v), .second, .val (.int (6 : Int32)), .val (.int (8 : Int32)), .val (.int (8 : Int32))] [(.int (7 : Int32))])) _
          refine XS.istore X25.here hx rfl (hb hby d5_47) rfl (l' := #[.val (.long v), .second, .val (.int (6 : Int32)), .val (.int (8 : Int32)), .val (.int (7 : Int32))]) rfl ?_
          show Steps p.tables e below (T25.setTop (mkF m 49 #[.val (.long v), .second, .val (.int (6 : Int32)), .val (.int (8 : Int32)), .val (.int (7 : Int32))] [])) _
          refine XS.lloadN X25.here hx rfl (hb hby d5_49) rfl ?_
          show Steps p.tables e below (T25.setTop (mkF m 50 #[.val (.long v), .second, .val (.int (6 : Int32)), .val (.int (8 : Int32)), .val (.int (7 : Int32))] [(.long v)])) _
          refine st28 _ ?_
          show Steps p.tables e below (T28.setTop (mkF m 53 #[.val (.long v), .second, .val (.int (6 : Int32)), .val (.int (8 : Int32)), .val (.int (7 : Int32))] [(.ref pa), (.long v)])) _
          refine XS.iload X28.here hx rfl (hb hby d5_53) rfl ?_
          show Steps p.tables e below (T28.setTop (mkF m 55 #[.val (.long v), .second, .val (.int (6 : Int32)), .val (.int (8 : Int32)), .val (.int (7 : Int32))] [(.int (7 : Int32)), (.ref pa), (.long v)])) _
          refine X28.laload hx (j := (7 : Int32)) (v := (.long (10000000 : Int64))) (by rw [e28]; exact Ar.1) (State.isArrayOf_alike hZ.alike Ar.2.1) Ar.2.2 El7.1 El7.2 (g := (mkF m 55 #[.val (.long v), .second, .val (.int (6 : Int32)), .val (.int (8 : Int32)), .val (.int (7 : Int32))] [(.int (7 : Int32)), (.ref pa), (.long v)])) rfl rfl (hb hby d5_55) _ ?_
          show Steps p.tables e below (T28.setTop (mkF m 56 #[.val (.long v), .second, .val (.int (6 : Int32)), .val (.int (8 : Int32)), .val (.int (7 : Int32))] [(.long (10000000 : Int64)), (.long v)])) _
          refine XT.lcmp X28.here hx rfl (hb hby d5_56) rfl ?_
          exact kt
        by_cases hc57_30 : v < (10000000 : Int64)
        · obtain ⟨T31, X31, e31, st31⟩ := getS2 X28 hx hZ hown (host := "") (Or.inl (hw _ (List.mem_of_getElem? (i := 4) rfl))) Via.refl e28 S_P (g := (mkF m 50 #[.val (.long v), .second, .val (.int (6 : Int32)), .val (.int (7 : Int32)), .val (.int (6 : Int32))] [(.long v)])) rfl (hb hby d5_50)
          have pre32 : ∀ t, Steps p.tables e below (T31.setTop (mkF m 57 #[.val (.long v), .second, .val (.int (6 : Int32)), .val (.int (7 : Int32)), .val (.int (6 : Int32))] [(.int (XT.cmpL v (1000000 : Int64)))])) t → Steps p.tables e below (s₁.setTop (entryFrame m #[(.long v)] 5)) t := by
            intro t kt
            refine pre29 _ ?_
            show Steps p.tables e below (T28.setTop (mkF m 57 #[.val (.long v), .second, .val (.int (6 : Int32)), .val (.int (8 : Int32)), .val (.int (7 : Int32))] [(.int (XT.cmpL v (10000000 : Int64)))])) _
            refine XS.ifYes X28.here hx rfl (pc0 := 57) (pc' := 68) rfl (hb hby d5_57) rfl (XT.ll_lt_t hc57_30) (by decide) (by decide) ?_
            show Steps p.tables e below (T28.setTop (mkF m 68 #[.val (.long v), .second, .val (.int (6 : Int32)), .val (.int (8 : Int32)), .val (.int (7 : Int32))] [])) _
            refine XS.iload X28.here hx rfl (hb hby d5_68) rfl ?_
            show Steps p.tables e below (T28.setTop (mkF m 70 #[.val (.long v), .second, .val (.int (6 : Int32)), .val (.int (8 : Int32)), .val (.int (7 : Int32))] [(.int (7 : Int32))])) _
            refine XS.istoreN X28.here hx rfl (hb hby d5_70) rfl (l' := #[.val (.long v), .second, .val (.int (6 : Int32)), .val (.int (7 : Int32)), .val (.int (7 : Int32))]) rfl ?_
            show Steps p.tables e below (T28.setTop (mkF m 71 #[.val (.long v), .second, .val (.int (6 : Int32)), .val (.int (7 : Int32)), .val (.int (7 : Int32))] [])) _
            refine XS.goto X28.here hx rfl (pc0 := 71) (pc' := 37) rfl (hb hby d5_71) (by decide) (by decide) ?_
            show Steps p.tables e below (T28.setTop (mkF m 37 #[.val (.long v), .second, .val (.int (6 : Int32)), .val (.int (7 : Int32)), .val (.int (7 : Int32))] [])) _
            refine XS.iloadN X28.here hx rfl (hb hby d5_37) rfl ?_
            show Steps p.tables e below (T28.setTop (mkF m 38 #[.val (.long v), .second, .val (.int (6 : Int32)), .val (.int (7 : Int32)), .val (.int (7 : Int32))] [(.int (6 : Int32))])) _
            refine XS.iloadN X28.here hx rfl (hb hby d5_38) rfl ?_
            show Steps p.tables e below (T28.setTop (mkF m 39 #[.val (.long v), .second, .val (.int (6 : Int32)), .val (.int (7 : Int32)), .val (.int (7 : Int32))] [(.int (7 : Int32)), (.int (6 : Int32))])) _
            refine XS.icmpNo X28.here hx rfl (hb hby d5_39) rfl (XT.ii_ge_f (by decide)) ?_
            show Steps p.tables e below (T28.setTop (mkF m 42 #[.val (.long v), .second, .val (.int (6 : Int32)), .val (.int (7 : Int32)), .val (.int (7 : Int32))] [])) _
            refine XS.iloadN X28.here hx rfl (hb hby d5_42) rfl ?_
            show Steps p.tables e below (T28.setTop (mkF m 43 #[.val (.long v), .second, .val (.int (6 : Int32)), .val (.int (7 : Int32)), .val (.int (7 : Int32))] [(.int (6 : Int32))])) _
            refine XS.iloadN X28.here hx rfl (hb hby d5_43) rfl ?_
            show Steps p.tables e below (T28.setTop (mkF m 44 #[.val (.long v), .second, .val (.int (6 : Int32)), .val (.int (7 : Int32)), .val (.int (7 : Int32))] [(.int (7 : Int32)), (.int (6 : Int32))])) _
            refine XS.iadd X28.here hx rfl (hb hby d5_44) rfl ?_
            rw [show ((6 : Int32) + (7 : Int32)) = (13 : Int32) from rfl]
            show Steps p.tables e below (T28.setTop (mkF m 45 #[.val (.long v), .second, .val (.int (6 : Int32)), .val (.int (7 : Int32)), .val (.int (7 : Int32))] [(.int (13 : Int32))])) _
            refine XS.iconst X28.here hx rfl (hb hby d5_45) ?_
            show Steps p.tables e below (T28.setTop (mkF m 46 #[.val (.long v), .second, .val (.int (6 : Int32)), .val (.int (7 : Int32)), .val (.int (7 : Int32))] [(.int (1 : Int32)), (.int (13 : Int32))])) _
            refine XT.iushr X28.here hx rfl (hb hby d5_46) rfl ?_
            rw [show XT.ushr (13 : Int32) (1 : Int32) = (6 : Int32) from by decide]
            show Steps p.tables e below (T28.setTop (mkF m 47 #[.val (.long v), .second, .val (.int (6 : Int32)), .val (.int (7 : Int32)), .val (.int (7 : Int32))] [(.int (6 : Int32))])) _
            refine XS.istore X28.here hx rfl (hb hby d5_47) rfl (l' := #[.val (.long v), .second, .val (.int (6 : Int32)), .val (.int (7 : Int32)), .val (.int (6 : Int32))]) rfl ?_
            show Steps p.tables e below (T28.setTop (mkF m 49 #[.val (.long v), .second, .val (.int (6 : Int32)), .val (.int (7 : Int32)), .val (.int (6 : Int32))] [])) _
            refine XS.lloadN X28.here hx rfl (hb hby d5_49) rfl ?_
            show Steps p.tables e below (T28.setTop (mkF m 50 #[.val (.long v), .second, .val (.int (6 : Int32)), .val (.int (7 : Int32)), .val (.int (6 : Int32))] [(.long v)])) _
            refine st31 _ ?_
            show Steps p.tables e below (T31.setTop (mkF m 53 #[.val (.long v), .second, .val (.int (6 : Int32)), .val (.int (7 : Int32)), .val (.int (6 : Int32))] [(.ref pa), (.long v)])) _
            refine XS.iload X31.here hx rfl (hb hby d5_53) rfl ?_
            show Steps p.tables e below (T31.setTop (mkF m 55 #[.val (.long v), .second, .val (.int (6 : Int32)), .val (.int (7 : Int32)), .val (.int (6 : Int32))] [(.int (6 : Int32)), (.ref pa), (.long v)])) _
            refine X31.laload hx (j := (6 : Int32)) (v := (.long (1000000 : Int64))) (by rw [e31]; exact Ar.1) (State.isArrayOf_alike hZ.alike Ar.2.1) Ar.2.2 El6.1 El6.2 (g := (mkF m 55 #[.val (.long v), .second, .val (.int (6 : Int32)), .val (.int (7 : Int32)), .val (.int (6 : Int32))] [(.int (6 : Int32)), (.ref pa), (.long v)])) rfl rfl (hb hby d5_55) _ ?_
            show Steps p.tables e below (T31.setTop (mkF m 56 #[.val (.long v), .second, .val (.int (6 : Int32)), .val (.int (7 : Int32)), .val (.int (6 : Int32))] [(.long (1000000 : Int64)), (.long v)])) _
            refine XT.lcmp X31.here hx rfl (hb hby d5_56) rfl ?_
            exact kt
          by_cases hc57_33 : v < (1000000 : Int64)
          · have pre34 : ∀ t, Steps p.tables e below (T31.setTop (mkF m 75 #[.val (.long v), .second, .val (.int (6 : Int32)), .val (.int (6 : Int32)), .val (.int (6 : Int32))] [(.int (6 : Int32))])) t → Steps p.tables e below (s₁.setTop (entryFrame m #[(.long v)] 5)) t := by
              intro t kt
              refine pre32 _ ?_
              show Steps p.tables e below (T31.setTop (mkF m 57 #[.val (.long v), .second, .val (.int (6 : Int32)), .val (.int (7 : Int32)), .val (.int (6 : Int32))] [(.int (XT.cmpL v (1000000 : Int64)))])) _
              refine XS.ifYes X31.here hx rfl (pc0 := 57) (pc' := 68) rfl (hb hby d5_57) rfl (XT.ll_lt_t hc57_33) (by decide) (by decide) ?_
              show Steps p.tables e below (T31.setTop (mkF m 68 #[.val (.long v), .second, .val (.int (6 : Int32)), .val (.int (7 : Int32)), .val (.int (6 : Int32))] [])) _
              refine XS.iload X31.here hx rfl (hb hby d5_68) rfl ?_
              show Steps p.tables e below (T31.setTop (mkF m 70 #[.val (.long v), .second, .val (.int (6 : Int32)), .val (.int (7 : Int32)), .val (.int (6 : Int32))] [(.int (6 : Int32))])) _
              refine XS.istoreN X31.here hx rfl (hb hby d5_70) rfl (l' := #[.val (.long v), .second, .val (.int (6 : Int32)), .val (.int (6 : Int32)), .val (.int (6 : Int32))]) rfl ?_
              show Steps p.tables e below (T31.setTop (mkF m 71 #[.val (.long v), .second, .val (.int (6 : Int32)), .val (.int (6 : Int32)), .val (.int (6 : Int32))] [])) _
              refine XS.goto X31.here hx rfl (pc0 := 71) (pc' := 37) rfl (hb hby d5_71) (by decide) (by decide) ?_
              show Steps p.tables e below (T31.setTop (mkF m 37 #[.val (.long v), .second, .val (.int (6 : Int32)), .val (.int (6 : Int32)), .val (.int (6 : Int32))] [])) _
              refine XS.iloadN X31.here hx rfl (hb hby d5_37) rfl ?_
              show Steps p.tables e below (T31.setTop (mkF m 38 #[.val (.long v), .second, .val (.int (6 : Int32)), .val (.int (6 : Int32)), .val (.int (6 : Int32))] [(.int (6 : Int32))])) _
              refine XS.iloadN X31.here hx rfl (hb hby d5_38) rfl ?_
              show Steps p.tables e below (T31.setTop (mkF m 39 #[.val (.long v), .second, .val (.int (6 : Int32)), .val (.int (6 : Int32)), .val (.int (6 : Int32))] [(.int (6 : Int32)), (.int (6 : Int32))])) _
              refine XS.icmpYes X31.here hx rfl (pc0 := 39) (pc' := 74) rfl (hb hby d5_39) rfl (XT.ii_ge_t (by decide)) (by decide) (by decide) ?_
              show Steps p.tables e below (T31.setTop (mkF m 74 #[.val (.long v), .second, .val (.int (6 : Int32)), .val (.int (6 : Int32)), .val (.int (6 : Int32))] [])) _
              refine XS.iloadN X31.here hx rfl (hb hby d5_74) rfl ?_
              exact kt
            obtain ⟨fs, hr, hrun, hended, hW, hsame⟩ := X31.leave (v := some (.int (6 : Int32))) (fun h => by rw [Bd.returns] at h; cases h)
            refine ⟨_, _, pre34 _ ?_, hrun, hended, _, _, rfl, ?_, ⟨_, rfl⟩, hW, hsame.mono (by decide) (by decide)⟩
            · show Steps p.tables e below (T31.setTop (mkF m 75 #[.val (.long v), .second, .val (.int (6 : Int32)), .val (.int (6 : Int32)), .val (.int (6 : Int32))] [(.int (6 : Int32))])) _
              exact retI X31 hx Bd.returns (hb hby d5_75) hr
            · show Q1 Z (.int (cntF v)) h0 n0 _ T31.heap _
              rw [e31]
              exact ⟨by rw [cntF, if_neg hpos, cnt_6 (own_ge hc57_7 rfl) (own_lt hc57_33 rfl)], N0, rfl⟩
          · have pre35 : ∀ t, Steps p.tables e below (T31.setTop (mkF m 75 #[.val (.long v), .second, .val (.int (7 : Int32)), .val (.int (7 : Int32)), .val (.int (6 : Int32))] [(.int (7 : Int32))])) t → Steps p.tables e below (s₁.setTop (entryFrame m #[(.long v)] 5)) t := by
              intro t kt
              refine pre32 _ ?_
              show Steps p.tables e below (T31.setTop (mkF m 57 #[.val (.long v), .second, .val (.int (6 : Int32)), .val (.int (7 : Int32)), .val (.int (6 : Int32))] [(.int (XT.cmpL v (1000000 : Int64)))])) _
              refine XS.ifNo X31.here hx rfl (hb hby d5_57) rfl (XT.ll_lt_f hc57_33) ?_
              show Steps p.tables e below (T31.setTop (mkF m 60 #[.val (.long v), .second, .val (.int (6 : Int32)), .val (.int (7 : Int32)), .val (.int (6 : Int32))] [])) _
              refine XS.iload X31.here hx rfl (hb hby d5_60) rfl ?_
              show Steps p.tables e below (T31.setTop (mkF m 62 #[.val (.long v), .second, .val (.int (6 : Int32)), .val (.int (7 : Int32)), .val (.int (6 : Int32))] [(.int (6 : Int32))])) _
              refine XS.iconst X31.here hx rfl (hb hby d5_62) ?_
              show Steps p.tables e below (T31.setTop (mkF m 63 #[.val (.long v), .second, .val (.int (6 : Int32)), .val (.int (7 : Int32)), .val (.int (6 : Int32))] [(.int (1 : Int32)), (.int (6 : Int32))])) _
              refine XS.iadd X31.here hx rfl (hb hby d5_63) rfl ?_
              rw [show ((6 : Int32) + (1 : Int32)) = (7 : Int32) from rfl]
              show Steps p.tables e below (T31.setTop (mkF m 64 #[.val (.long v), .second, .val (.int (6 : Int32)), .val (.int (7 : Int32)), .val (.int (6 : Int32))] [(.int (7 : Int32))])) _
              refine XS.istoreN X31.here hx rfl (hb hby d5_64) rfl (l' := #[.val (.long v), .second, .val (.int (7 : Int32)), .val (.int (7 : Int32)), .val (.int (6 : Int32))]) rfl ?_
              show Steps p.tables e below (T31.setTop (mkF m 65 #[.val (.long v), .second, .val (.int (7 : Int32)), .val (.int (7 : Int32)), .val (.int (6 : Int32))] [])) _
              refine XS.goto X31.here hx rfl (pc0 := 65) (pc' := 71) rfl (hb hby d5_65) (by decide) (by decide) ?_
              show Steps p.tables e below (T31.setTop (mkF m 71 #[.val (.long v), .second, .val (.int (7 : Int32)), .val (.int (7 : Int32)), .val (.int (6 : Int32))] [])) _
              refine XS.goto X31.here hx rfl (pc0 := 71) (pc' := 37) rfl (hb hby d5_71) (by decide) (by decide) ?_
              show Steps p.tables e below (T31.setTop (mkF m 37 #[.val (.long v), .second, .val (.int (7 : Int32)), .val (.int (7 : Int32)), .val (.int (6 : Int32))] [])) _
              refine XS.iloadN X31.here hx rfl (hb hby d5_37) rfl ?_
              show Steps p.tables e below (T31.setTop (mkF m 38 #[.val (.long v), .second, .val (.int (7 : Int32)), .val (.int (7 : Int32)), .val (.int (6 : Int32))] [(.int (7 : Int32))])) _
              refine XS.iloadN X31.here hx rfl (hb hby d5_38) rfl ?_
              show Steps p.tables e below (T31.setTop (mkF m 39 #[.val (.long v), .second, .val (.int (7 : Int32)), .val (.int (7 : Int32)), .val (.int (6 : Int32))] [(.int (7 : Int32)), (.int (7 : Int32))])) _
              refine XS.icmpYes X31.here hx rfl (pc0 := 39) (pc' := 74) rfl (hb hby d5_39) rfl (XT.ii_ge_t (by decide)) (by decide) (by decide) ?_
              show Steps p.tables e below (T31.setTop (mkF m 74 #[.val (.long v), .second, .val (.int (7 : Int32)), .val (.int (7 : Int32)), .val (.int (6 : Int32))] [])) _
              refine XS.iloadN X31.here hx rfl (hb hby d5_74) rfl ?_
              exact kt
            obtain ⟨fs, hr, hrun, hended, hW, hsame⟩ := X31.leave (v := some (.int (7 : Int32))) (fun h => by rw [Bd.returns] at h; cases h)
            refine ⟨_, _, pre35 _ ?_, hrun, hended, _, _, rfl, ?_, ⟨_, rfl⟩, hW, hsame.mono (by decide) (by decide)⟩
            · show Steps p.tables e below (T31.setTop (mkF m 75 #[.val (.long v), .second, .val (.int (7 : Int32)), .val (.int (7 : Int32)), .val (.int (6 : Int32))] [(.int (7 : Int32))])) _
              exact retI X31 hx Bd.returns (hb hby d5_75) hr
            · show Q1 Z (.int (cntF v)) h0 n0 _ T31.heap _
              rw [e31]
              exact ⟨by rw [cntF, if_neg hpos, cnt_7 (own_ge hc57_33 rfl) (own_lt hc57_30 rfl)], N0, rfl⟩
        · have pre36 : ∀ t, Steps p.tables e below (T28.setTop (mkF m 75 #[.val (.long v), .second, .val (.int (8 : Int32)), .val (.int (8 : Int32)), .val (.int (7 : Int32))] [(.int (8 : Int32))])) t → Steps p.tables e below (s₁.setTop (entryFrame m #[(.long v)] 5)) t := by
            intro t kt
            refine pre29 _ ?_
            show Steps p.tables e below (T28.setTop (mkF m 57 #[.val (.long v), .second, .val (.int (6 : Int32)), .val (.int (8 : Int32)), .val (.int (7 : Int32))] [(.int (XT.cmpL v (10000000 : Int64)))])) _
            refine XS.ifNo X28.here hx rfl (hb hby d5_57) rfl (XT.ll_lt_f hc57_30) ?_
            show Steps p.tables e below (T28.setTop (mkF m 60 #[.val (.long v), .second, .val (.int (6 : Int32)), .val (.int (8 : Int32)), .val (.int (7 : Int32))] [])) _
            refine XS.iload X28.here hx rfl (hb hby d5_60) rfl ?_
            show Steps p.tables e below (T28.setTop (mkF m 62 #[.val (.long v), .second, .val (.int (6 : Int32)), .val (.int (8 : Int32)), .val (.int (7 : Int32))] [(.int (7 : Int32))])) _
            refine XS.iconst X28.here hx rfl (hb hby d5_62) ?_
            show Steps p.tables e below (T28.setTop (mkF m 63 #[.val (.long v), .second, .val (.int (6 : Int32)), .val (.int (8 : Int32)), .val (.int (7 : Int32))] [(.int (1 : Int32)), (.int (7 : Int32))])) _
            refine XS.iadd X28.here hx rfl (hb hby d5_63) rfl ?_
            rw [show ((7 : Int32) + (1 : Int32)) = (8 : Int32) from rfl]
            show Steps p.tables e below (T28.setTop (mkF m 64 #[.val (.long v), .second, .val (.int (6 : Int32)), .val (.int (8 : Int32)), .val (.int (7 : Int32))] [(.int (8 : Int32))])) _
            refine XS.istoreN X28.here hx rfl (hb hby d5_64) rfl (l' := #[.val (.long v), .second, .val (.int (8 : Int32)), .val (.int (8 : Int32)), .val (.int (7 : Int32))]) rfl ?_
            show Steps p.tables e below (T28.setTop (mkF m 65 #[.val (.long v), .second, .val (.int (8 : Int32)), .val (.int (8 : Int32)), .val (.int (7 : Int32))] [])) _
            refine XS.goto X28.here hx rfl (pc0 := 65) (pc' := 71) rfl (hb hby d5_65) (by decide) (by decide) ?_
            show Steps p.tables e below (T28.setTop (mkF m 71 #[.val (.long v), .second, .val (.int (8 : Int32)), .val (.int (8 : Int32)), .val (.int (7 : Int32))] [])) _
            refine XS.goto X28.here hx rfl (pc0 := 71) (pc' := 37) rfl (hb hby d5_71) (by decide) (by decide) ?_
            show Steps p.tables e below (T28.setTop (mkF m 37 #[.val (.long v), .second, .val (.int (8 : Int32)), .val (.int (8 : Int32)), .val (.int (7 : Int32))] [])) _
            refine XS.iloadN X28.here hx rfl (hb hby d5_37) rfl ?_
            show Steps p.tables e below (T28.setTop (mkF m 38 #[.val (.long v), .second, .val (.int (8 : Int32)), .val (.int (8 : Int32)), .val (.int (7 : Int32))] [(.int (8 : Int32))])) _
            refine XS.iloadN X28.here hx rfl (hb hby d5_38) rfl ?_
            show Steps p.tables e below (T28.setTop (mkF m 39 #[.val (.long v), .second, .val (.int (8 : Int32)), .val (.int (8 : Int32)), .val (.int (7 : Int32))] [(.int (8 : Int32)), (.int (8 : Int32))])) _
            refine XS.icmpYes X28.here hx rfl (pc0 := 39) (pc' := 74) rfl (hb hby d5_39) rfl (XT.ii_ge_t (by decide)) (by decide) (by decide) ?_
            show Steps p.tables e below (T28.setTop (mkF m 74 #[.val (.long v), .second, .val (.int (8 : Int32)), .val (.int (8 : Int32)), .val (.int (7 : Int32))] [])) _
            refine XS.iloadN X28.here hx rfl (hb hby d5_74) rfl ?_
            exact kt
          obtain ⟨fs, hr, hrun, hended, hW, hsame⟩ := X28.leave (v := some (.int (8 : Int32))) (fun h => by rw [Bd.returns] at h; cases h)
          refine ⟨_, _, pre36 _ ?_, hrun, hended, _, _, rfl, ?_, ⟨_, rfl⟩, hW, hsame.mono (by decide) (by decide)⟩
          · show Steps p.tables e below (T28.setTop (mkF m 75 #[.val (.long v), .second, .val (.int (8 : Int32)), .val (.int (8 : Int32)), .val (.int (7 : Int32))] [(.int (8 : Int32))])) _
            exact retI X28 hx Bd.returns (hb hby d5_75) hr
          · show Q1 Z (.int (cntF v)) h0 n0 _ T28.heap _
            rw [e28]
            exact ⟨by rw [cntF, if_neg hpos, cnt_8 (own_ge hc57_30 rfl) (own_lt hc57_27 rfl)], N0, rfl⟩
      · obtain ⟨T37, X37, e37, st37⟩ := getS2 X25 hx hZ hown (host := "") (Or.inl (hw _ (List.mem_of_getElem? (i := 4) rfl))) Via.refl e25 S_P (g := (mkF m 50 #[.val (.long v), .second, .val (.int (9 : Int32)), .val (.int (10 : Int32)), .val (.int (9 : Int32))] [(.long v)])) rfl (hb hby d5_50)
        have pre38 : ∀ t, Steps p.tables e below (T37.setTop (mkF m 57 #[.val (.long v), .second, .val (.int (9 : Int32)), .val (.int (10 : Int32)), .val (.int (9 : Int32))] [(.int (XT.cmpL v (1000000000 : Int64)))])) t → Steps p.tables e below (s₁.setTop (entryFrame m #[(.long v)] 5)) t := by
          intro t kt
          refine pre26 _ ?_
          show Steps p.tables e below (T25.setTop (mkF m 57 #[.val (.long v), .second, .val (.int (6 : Int32)), .val (.int (10 : Int32)), .val (.int (8 : Int32))] [(.int (XT.cmpL v (100000000 : Int64)))])) _
          refine XS.ifNo X25.here hx rfl (hb hby d5_57) rfl (XT.ll_lt_f hc57_27) ?_
          show Steps p.tables e below (T25.setTop (mkF m 60 #[.val (.long v), .second, .val (.int (6 : Int32)), .val (.int (10 : Int32)), .val (.int (8 : Int32))] [])) _
          refine XS.iload X25.here hx rfl (hb hby d5_60) rfl ?_
          show Steps p.tables e below (T25.setTop (mkF m 62 #[.val (.long v), .second, .val (.int (6 : Int32)), .val (.int (10 : Int32)), .val (.int (8 : Int32))] [(.int (8 : Int32))])) _
          refine XS.iconst X25.here hx rfl (hb hby d5_62) ?_
          show Steps p.tables e below (T25.setTop (mkF m 63 #[.val (.long v), .second, .val (.int (6 : Int32)), .val (.int (10 : Int32)), .val (.int (8 : Int32))] [(.int (1 : Int32)), (.int (8 : Int32))])) _
          refine XS.iadd X25.here hx rfl (hb hby d5_63) rfl ?_
          rw [show ((8 : Int32) + (1 : Int32)) = (9 : Int32) from rfl]
          show Steps p.tables e below (T25.setTop (mkF m 64 #[.val (.long v), .second, .val (.int (6 : Int32)), .val (.int (10 : Int32)), .val (.int (8 : Int32))] [(.int (9 : Int32))])) _
          refine XS.istoreN X25.here hx rfl (hb hby d5_64) rfl (l' := #[.val (.long v), .second, .val (.int (9 : Int32)), .val (.int (10 : Int32)), .val (.int (8 : Int32))]) rfl ?_
          show Steps p.tables e below (T25.setTop (mkF m 65 #[.val (.long v), .second, .val (.int (9 : Int32)), .val (.int (10 : Int32)), .val (.int (8 : Int32))] [])) _
          refine XS.goto X25.here hx rfl (pc0 := 65) (pc' := 71) rfl (hb hby d5_65) (by decide) (by decide) ?_
          show Steps p.tables e below (T25.setTop (mkF m 71 #[.val (.long v), .second, .val (.int (9 : Int32)), .val (.int (10 : Int32)), .val (.int (8 : Int32))] [])) _
          refine XS.goto X25.here hx rfl (pc0 := 71) (pc' := 37) rfl (hb hby d5_71) (by decide) (by decide) ?_
          show Steps p.tables e below (T25.setTop (mkF m 37 #[.val (.long v), .second, .val (.int (9 : Int32)), .val (.int (10 : Int32)), .val (.int (8 : Int32))] [])) _
          refine XS.iloadN X25.here hx rfl (hb hby d5_37) rfl ?_
          show Steps p.tables e below (T25.setTop (mkF m 38 #[.val (.long v), .second, .val (.int (9 : Int32)), .val (.int (10 : Int32)), .val (.int (8 : Int32))] [(.int (9 : Int32))])) _
          refine XS.iloadN X25.here hx rfl (hb hby d5_38) rfl ?_
          show Steps p.tables e below (T25.setTop (mkF m 39 #[.val (.long v), .second, .val (.int (9 : Int32)), .val (.int (10 : Int32)), .val (.int (8 : Int32))] [(.int (10 : Int32)), (.int (9 : Int32))])) _
          refine XS.icmpNo X25.here hx rfl (hb hby d5_39) rfl (XT.ii_ge_f (by decide)) ?_
          show Steps p.tables e below (T25.setTop (mkF m 42 #[.val (.long v), .second, .val (.int (9 : Int32)), .val (.int (10 : Int32)), .val (.int (8 : Int32))] [])) _
          refine XS.iloadN X25.here hx rfl (hb hby d5_42) rfl ?_
          show Steps p.tables e below (T25.setTop (mkF m 43 #[.val (.long v), .second, .val (.int (9 : Int32)), .val (.int (10 : Int32)), .val (.int (8 : Int32))] [(.int (9 : Int32))])) _
          refine XS.iloadN X25.here hx rfl (hb hby d5_43) rfl ?_
          show Steps p.tables e below (T25.setTop (mkF m 44 #[.val (.long v), .second, .val (.int (9 : Int32)), .val (.int (10 : Int32)), .val (.int (8 : Int32))] [(.int (10 : Int32)), (.int (9 : Int32))])) _
          refine XS.iadd X25.here hx rfl (hb hby d5_44) rfl ?_
          rw [show ((9 : Int32) + (10 : Int32)) = (19 : Int32) from rfl]
          show Steps p.tables e below (T25.setTop (mkF m 45 #[.val (.long v), .second, .val (.int (9 : Int32)), .val (.int (10 : Int32)), .val (.int (8 : Int32))] [(.int (19 : Int32))])) _
          refine XS.iconst X25.here hx rfl (hb hby d5_45) ?_
          show Steps p.tables e below (T25.setTop (mkF m 46 #[.val (.long v), .second, .val (.int (9 : Int32)), .val (.int (10 : Int32)), .val (.int (8 : Int32))] [(.int (1 : Int32)), (.int (19 : Int32))])) _
          refine XT.iushr X25.here hx rfl (hb hby d5_46) rfl ?_
          rw [show XT.ushr (19 : Int32) (1 : Int32) = (9 : Int32) from by decide]
          show Steps p.tables e below (T25.setTop (mkF m 47 #[.val (.long v), .second, .val (.int (9 : Int32)), .val (.int (10 : Int32)), .val (.int (8 : Int32))] [(.int (9 : Int32))])) _
          refine XS.istore X25.here hx rfl (hb hby d5_47) rfl (l' := #[.val (.long v), .second, .val (.int (9 : Int32)), .val (.int (10 : Int32)), .val (.int (9 : Int32))]) rfl ?_
          show Steps p.tables e below (T25.setTop (mkF m 49 #[.val (.long v), .second, .val (.int (9 : Int32)), .val (.int (10 : Int32)), .val (.int (9 : Int32))] [])) _
          refine XS.lloadN X25.here hx rfl (hb hby d5_49) rfl ?_
          show Steps p.tables e below (T25.setTop (mkF m 50 #[.val (.long v), .second, .val (.int (9 : Int32)), .val (.int (10 : Int32)), .val (.int (9 : Int32))] [(.long v)])) _
          refine st37 _ ?_
          show Steps p.tables e below (T37.setTop (mkF m 53 #[.val (.long v), .second, .val (.int (9 : Int32)), .val (.int (10 : Int32)), .val (.int (9 : Int32))] [(.ref pa), (.long v)])) _
          refine XS.iload X37.here hx rfl (hb hby d5_53) rfl ?_
          show Steps p.tables e below (T37.setTop (mkF m 55 #[.val (.long v), .second, .val (.int (9 : Int32)), .val (.int (10 : Int32)), .val (.int (9 : Int32))] [(.int (9 : Int32)), (.ref pa), (.long v)])) _
          refine X37.laload hx (j := (9 : Int32)) (v := (.long (1000000000 : Int64))) (by rw [e37]; exact Ar.1) (State.isArrayOf_alike hZ.alike Ar.2.1) Ar.2.2 El9.1 El9.2 (g := (mkF m 55 #[.val (.long v), .second, .val (.int (9 : Int32)), .val (.int (10 : Int32)), .val (.int (9 : Int32))] [(.int (9 : Int32)), (.ref pa), (.long v)])) rfl rfl (hb hby d5_55) _ ?_
          show Steps p.tables e below (T37.setTop (mkF m 56 #[.val (.long v), .second, .val (.int (9 : Int32)), .val (.int (10 : Int32)), .val (.int (9 : Int32))] [(.long (1000000000 : Int64)), (.long v)])) _
          refine XT.lcmp X37.here hx rfl (hb hby d5_56) rfl ?_
          exact kt
        by_cases hc57_39 : v < (1000000000 : Int64)
        · have pre40 : ∀ t, Steps p.tables e below (T37.setTop (mkF m 75 #[.val (.long v), .second, .val (.int (9 : Int32)), .val (.int (9 : Int32)), .val (.int (9 : Int32))] [(.int (9 : Int32))])) t → Steps p.tables e below (s₁.setTop (entryFrame m #[(.long v)] 5)) t := by
            intro t kt
            refine pre38 _ ?_
            show Steps p.tables e below (T37.setTop (mkF m 57 #[.val (.long v), .second, .val (.int (9 : Int32)), .val (.int (10 : Int32)), .val (.int (9 : Int32))] [(.int (XT.cmpL v (1000000000 : Int64)))])) _
            refine XS.ifYes X37.here hx rfl (pc0 := 57) (pc' := 68) rfl (hb hby d5_57) rfl (XT.ll_lt_t hc57_39) (by decide) (by decide) ?_
            show Steps p.tables e below (T37.setTop (mkF m 68 #[.val (.long v), .second, .val (.int (9 : Int32)), .val (.int (10 : Int32)), .val (.int (9 : Int32))] [])) _
            refine XS.iload X37.here hx rfl (hb hby d5_68) rfl ?_
            show Steps p.tables e below (T37.setTop (mkF m 70 #[.val (.long v), .second, .val (.int (9 : Int32)), .val (.int (10 : Int32)), .val (.int (9 : Int32))] [(.int (9 : Int32))])) _
            refine XS.istoreN X37.here hx rfl (hb hby d5_70) rfl (l' := #[.val (.long v), .second, .val (.int (9 : Int32)), .val (.int (9 : Int32)), .val (.int (9 : Int32))]) rfl ?_
            show Steps p.tables e below (T37.setTop (mkF m 71 #[.val (.long v), .second, .val (.int (9 : Int32)), .val (.int (9 : Int32)), .val (.int (9 : Int32))] [])) _
            refine XS.goto X37.here hx rfl (pc0 := 71) (pc' := 37) rfl (hb hby d5_71) (by decide) (by decide) ?_
            show Steps p.tables e below (T37.setTop (mkF m 37 #[.val (.long v), .second, .val (.int (9 : Int32)), .val (.int (9 : Int32)), .val (.int (9 : Int32))] [])) _
            refine XS.iloadN X37.here hx rfl (hb hby d5_37) rfl ?_
            show Steps p.tables e below (T37.setTop (mkF m 38 #[.val (.long v), .second, .val (.int (9 : Int32)), .val (.int (9 : Int32)), .val (.int (9 : Int32))] [(.int (9 : Int32))])) _
            refine XS.iloadN X37.here hx rfl (hb hby d5_38) rfl ?_
            show Steps p.tables e below (T37.setTop (mkF m 39 #[.val (.long v), .second, .val (.int (9 : Int32)), .val (.int (9 : Int32)), .val (.int (9 : Int32))] [(.int (9 : Int32)), (.int (9 : Int32))])) _
            refine XS.icmpYes X37.here hx rfl (pc0 := 39) (pc' := 74) rfl (hb hby d5_39) rfl (XT.ii_ge_t (by decide)) (by decide) (by decide) ?_
            show Steps p.tables e below (T37.setTop (mkF m 74 #[.val (.long v), .second, .val (.int (9 : Int32)), .val (.int (9 : Int32)), .val (.int (9 : Int32))] [])) _
            refine XS.iloadN X37.here hx rfl (hb hby d5_74) rfl ?_
            exact kt
          obtain ⟨fs, hr, hrun, hended, hW, hsame⟩ := X37.leave (v := some (.int (9 : Int32))) (fun h => by rw [Bd.returns] at h; cases h)
          refine ⟨_, _, pre40 _ ?_, hrun, hended, _, _, rfl, ?_, ⟨_, rfl⟩, hW, hsame.mono (by decide) (by decide)⟩
          · show Steps p.tables e below (T37.setTop (mkF m 75 #[.val (.long v), .second, .val (.int (9 : Int32)), .val (.int (9 : Int32)), .val (.int (9 : Int32))] [(.int (9 : Int32))])) _
            exact retI X37 hx Bd.returns (hb hby d5_75) hr
          · show Q1 Z (.int (cntF v)) h0 n0 _ T37.heap _
            rw [e37]
            exact ⟨by rw [cntF, if_neg hpos, cnt_9 (own_ge hc57_27 rfl) (own_lt hc57_39 rfl)], N0, rfl⟩
        · have pre41 : ∀ t, Steps p.tables e below (T37.setTop (mkF m 75 #[.val (.long v), .second, .val (.int (10 : Int32)), .val (.int (10 : Int32)), .val (.int (9 : Int32))] [(.int (10 : Int32))])) t → Steps p.tables e below (s₁.setTop (entryFrame m #[(.long v)] 5)) t := by
            intro t kt
            refine pre38 _ ?_
            show Steps p.tables e below (T37.setTop (mkF m 57 #[.val (.long v), .second, .val (.int (9 : Int32)), .val (.int (10 : Int32)), .val (.int (9 : Int32))] [(.int (XT.cmpL v (1000000000 : Int64)))])) _
            refine XS.ifNo X37.here hx rfl (hb hby d5_57) rfl (XT.ll_lt_f hc57_39) ?_
            show Steps p.tables e below (T37.setTop (mkF m 60 #[.val (.long v), .second, .val (.int (9 : Int32)), .val (.int (10 : Int32)), .val (.int (9 : Int32))] [])) _
            refine XS.iload X37.here hx rfl (hb hby d5_60) rfl ?_
            show Steps p.tables e below (T37.setTop (mkF m 62 #[.val (.long v), .second, .val (.int (9 : Int32)), .val (.int (10 : Int32)), .val (.int (9 : Int32))] [(.int (9 : Int32))])) _
            refine XS.iconst X37.here hx rfl (hb hby d5_62) ?_
            show Steps p.tables e below (T37.setTop (mkF m 63 #[.val (.long v), .second, .val (.int (9 : Int32)), .val (.int (10 : Int32)), .val (.int (9 : Int32))] [(.int (1 : Int32)), (.int (9 : Int32))])) _
            refine XS.iadd X37.here hx rfl (hb hby d5_63) rfl ?_
            rw [show ((9 : Int32) + (1 : Int32)) = (10 : Int32) from rfl]
            show Steps p.tables e below (T37.setTop (mkF m 64 #[.val (.long v), .second, .val (.int (9 : Int32)), .val (.int (10 : Int32)), .val (.int (9 : Int32))] [(.int (10 : Int32))])) _
            refine XS.istoreN X37.here hx rfl (hb hby d5_64) rfl (l' := #[.val (.long v), .second, .val (.int (10 : Int32)), .val (.int (10 : Int32)), .val (.int (9 : Int32))]) rfl ?_
            show Steps p.tables e below (T37.setTop (mkF m 65 #[.val (.long v), .second, .val (.int (10 : Int32)), .val (.int (10 : Int32)), .val (.int (9 : Int32))] [])) _
            refine XS.goto X37.here hx rfl (pc0 := 65) (pc' := 71) rfl (hb hby d5_65) (by decide) (by decide) ?_
            show Steps p.tables e below (T37.setTop (mkF m 71 #[.val (.long v), .second, .val (.int (10 : Int32)), .val (.int (10 : Int32)), .val (.int (9 : Int32))] [])) _
            refine XS.goto X37.here hx rfl (pc0 := 71) (pc' := 37) rfl (hb hby d5_71) (by decide) (by decide) ?_
            show Steps p.tables e below (T37.setTop (mkF m 37 #[.val (.long v), .second, .val (.int (10 : Int32)), .val (.int (10 : Int32)), .val (.int (9 : Int32))] [])) _
            refine XS.iloadN X37.here hx rfl (hb hby d5_37) rfl ?_
            show Steps p.tables e below (T37.setTop (mkF m 38 #[.val (.long v), .second, .val (.int (10 : Int32)), .val (.int (10 : Int32)), .val (.int (9 : Int32))] [(.int (10 : Int32))])) _
            refine XS.iloadN X37.here hx rfl (hb hby d5_38) rfl ?_
            show Steps p.tables e below (T37.setTop (mkF m 39 #[.val (.long v), .second, .val (.int (10 : Int32)), .val (.int (10 : Int32)), .val (.int (9 : Int32))] [(.int (10 : Int32)), (.int (10 : Int32))])) _
            refine XS.icmpYes X37.here hx rfl (pc0 := 39) (pc' := 74) rfl (hb hby d5_39) rfl (XT.ii_ge_t (by decide)) (by decide) (by decide) ?_
            show Steps p.tables e below (T37.setTop (mkF m 74 #[.val (.long v), .second, .val (.int (10 : Int32)), .val (.int (10 : Int32)), .val (.int (9 : Int32))] [])) _
            refine XS.iloadN X37.here hx rfl (hb hby d5_74) rfl ?_
            exact kt
          obtain ⟨fs, hr, hrun, hended, hW, hsame⟩ := X37.leave (v := some (.int (10 : Int32))) (fun h => by rw [Bd.returns] at h; cases h)
          refine ⟨_, _, pre41 _ ?_, hrun, hended, _, _, rfl, ?_, ⟨_, rfl⟩, hW, hsame.mono (by decide) (by decide)⟩
          · show Steps p.tables e below (T37.setTop (mkF m 75 #[.val (.long v), .second, .val (.int (10 : Int32)), .val (.int (10 : Int32)), .val (.int (9 : Int32))] [(.int (10 : Int32))])) _
            exact retI X37 hx Bd.returns (hb hby d5_75) hr
          · show Q1 Z (.int (cntF v)) h0 n0 _ T37.heap _
            rw [e37]
            exact ⟨by rw [cntF, if_neg hpos, cnt_10 (own_ge hc57_39 rfl) (own_lt hc57_4 rfl)], N0, rfl⟩
  · obtain ⟨T42, X42, e42, st42⟩ := getS2 X2 hx hZ hown (host := "") (Or.inl (hw _ (List.mem_of_getElem? (i := 4) rfl))) Via.refl e2 S_P (g := (mkF m 50 #[.val (.long v), .second, .val (.int (11 : Int32)), .val (.int (19 : Int32)), .val (.int (15 : Int32))] [(.long v)])) rfl (hb hby d5_50)
    have pre43 : ∀ t, Steps p.tables e below (T42.setTop (mkF m 57 #[.val (.long v), .second, .val (.int (11 : Int32)), .val (.int (19 : Int32)), .val (.int (15 : Int32))] [(.int (XT.cmpL v (1000000000000000 : Int64)))])) t → Steps p.tables e below (s₁.setTop (entryFrame m #[(.long v)] 5)) t := by
      intro t kt
      refine pre3 _ ?_
      show Steps p.tables e below (T2.setTop (mkF m 57 #[.val (.long v), .second, .val (.int (1 : Int32)), .val (.int (19 : Int32)), .val (.int (10 : Int32))] [(.int (XT.cmpL v (10000000000 : Int64)))])) _
      refine XS.ifNo X2.here hx rfl (hb hby d5_57) rfl (XT.ll_lt_f hc57_4) ?_
      show Steps p.tables e below (T2.setTop (mkF m 60 #[.val (.long v), .second, .val (.int (1 : Int32)), .val (.int (19 : Int32)), .val (.int (10 : Int32))] [])) _
      refine XS.iload X2.here hx rfl (hb hby d5_60) rfl ?_
      show Steps p.tables e below (T2.setTop (mkF m 62 #[.val (.long v), .second, .val (.int (1 : Int32)), .val (.int (19 : Int32)), .val (.int (10 : Int32))] [(.int (10 : Int32))])) _
      refine XS.iconst X2.here hx rfl (hb hby d5_62) ?_
      show Steps p.tables e below (T2.setTop (mkF m 63 #[.val (.long v), .second, .val (.int (1 : Int32)), .val (.int (19 : Int32)), .val (.int (10 : Int32))] [(.int (1 : Int32)), (.int (10 : Int32))])) _
      refine XS.iadd X2.here hx rfl (hb hby d5_63) rfl ?_
      rw [show ((10 : Int32) + (1 : Int32)) = (11 : Int32) from rfl]
      show Steps p.tables e below (T2.setTop (mkF m 64 #[.val (.long v), .second, .val (.int (1 : Int32)), .val (.int (19 : Int32)), .val (.int (10 : Int32))] [(.int (11 : Int32))])) _
      refine XS.istoreN X2.here hx rfl (hb hby d5_64) rfl (l' := #[.val (.long v), .second, .val (.int (11 : Int32)), .val (.int (19 : Int32)), .val (.int (10 : Int32))]) rfl ?_
      show Steps p.tables e below (T2.setTop (mkF m 65 #[.val (.long v), .second, .val (.int (11 : Int32)), .val (.int (19 : Int32)), .val (.int (10 : Int32))] [])) _
      refine XS.goto X2.here hx rfl (pc0 := 65) (pc' := 71) rfl (hb hby d5_65) (by decide) (by decide) ?_
      show Steps p.tables e below (T2.setTop (mkF m 71 #[.val (.long v), .second, .val (.int (11 : Int32)), .val (.int (19 : Int32)), .val (.int (10 : Int32))] [])) _
      refine XS.goto X2.here hx rfl (pc0 := 71) (pc' := 37) rfl (hb hby d5_71) (by decide) (by decide) ?_
      show Steps p.tables e below (T2.setTop (mkF m 37 #[.val (.long v), .second, .val (.int (11 : Int32)), .val (.int (19 : Int32)), .val (.int (10 : Int32))] [])) _
      refine XS.iloadN X2.here hx rfl (hb hby d5_37) rfl ?_
      show Steps p.tables e below (T2.setTop (mkF m 38 #[.val (.long v), .second, .val (.int (11 : Int32)), .val (.int (19 : Int32)), .val (.int (10 : Int32))] [(.int (11 : Int32))])) _
      refine XS.iloadN X2.here hx rfl (hb hby d5_38) rfl ?_
      show Steps p.tables e below (T2.setTop (mkF m 39 #[.val (.long v), .second, .val (.int (11 : Int32)), .val (.int (19 : Int32)), .val (.int (10 : Int32))] [(.int (19 : Int32)), (.int (11 : Int32))])) _
      refine XS.icmpNo X2.here hx rfl (hb hby d5_39) rfl (XT.ii_ge_f (by decide)) ?_
      show Steps p.tables e below (T2.setTop (mkF m 42 #[.val (.long v), .second, .val (.int (11 : Int32)), .val (.int (19 : Int32)), .val (.int (10 : Int32))] [])) _
      refine XS.iloadN X2.here hx rfl (hb hby d5_42) rfl ?_
      show Steps p.tables e below (T2.setTop (mkF m 43 #[.val (.long v), .second, .val (.int (11 : Int32)), .val (.int (19 : Int32)), .val (.int (10 : Int32))] [(.int (11 : Int32))])) _
      refine XS.iloadN X2.here hx rfl (hb hby d5_43) rfl ?_
      show Steps p.tables e below (T2.setTop (mkF m 44 #[.val (.long v), .second, .val (.int (11 : Int32)), .val (.int (19 : Int32)), .val (.int (10 : Int32))] [(.int (19 : Int32)), (.int (11 : Int32))])) _
      refine XS.iadd X2.here hx rfl (hb hby d5_44) rfl ?_
      rw [show ((11 : Int32) + (19 : Int32)) = (30 : Int32) from rfl]
      show Steps p.tables e below (T2.setTop (mkF m 45 #[.val (.long v), .second, .val (.int (11 : Int32)), .val (.int (19 : Int32)), .val (.int (10 : Int32))] [(.int (30 : Int32))])) _
      refine XS.iconst X2.here hx rfl (hb hby d5_45) ?_
      show Steps p.tables e below (T2.setTop (mkF m 46 #[.val (.long v), .second, .val (.int (11 : Int32)), .val (.int (19 : Int32)), .val (.int (10 : Int32))] [(.int (1 : Int32)), (.int (30 : Int32))])) _
      refine XT.iushr X2.here hx rfl (hb hby d5_46) rfl ?_
      rw [show XT.ushr (30 : Int32) (1 : Int32) = (15 : Int32) from by decide]
      show Steps p.tables e below (T2.setTop (mkF m 47 #[.val (.long v), .second, .val (.int (11 : Int32)), .val (.int (19 : Int32)), .val (.int (10 : Int32))] [(.int (15 : Int32))])) _
      refine XS.istore X2.here hx rfl (hb hby d5_47) rfl (l' := #[.val (.long v), .second, .val (.int (11 : Int32)), .val (.int (19 : Int32)), .val (.int (15 : Int32))]) rfl ?_
      show Steps p.tables e below (T2.setTop (mkF m 49 #[.val (.long v), .second, .val (.int (11 : Int32)), .val (.int (19 : Int32)), .val (.int (15 : Int32))] [])) _
      refine XS.lloadN X2.here hx rfl (hb hby d5_49) rfl ?_
      show Steps p.tables e below (T2.setTop (mkF m 50 #[.val (.long v), .second, .val (.int (11 : Int32)), .val (.int (19 : Int32)), .val (.int (15 : Int32))] [(.long v)])) _
      refine st42 _ ?_
      show Steps p.tables e below (T42.setTop (mkF m 53 #[.val (.long v), .second, .val (.int (11 : Int32)), .val (.int (19 : Int32)), .val (.int (15 : Int32))] [(.ref pa), (.long v)])) _
      refine XS.iload X42.here hx rfl (hb hby d5_53) rfl ?_
      show Steps p.tables e below (T42.setTop (mkF m 55 #[.val (.long v), .second, .val (.int (11 : Int32)), .val (.int (19 : Int32)), .val (.int (15 : Int32))] [(.int (15 : Int32)), (.ref pa), (.long v)])) _
      refine X42.laload hx (j := (15 : Int32)) (v := (.long (1000000000000000 : Int64))) (by rw [e42]; exact Ar.1) (State.isArrayOf_alike hZ.alike Ar.2.1) Ar.2.2 El15.1 El15.2 (g := (mkF m 55 #[.val (.long v), .second, .val (.int (11 : Int32)), .val (.int (19 : Int32)), .val (.int (15 : Int32))] [(.int (15 : Int32)), (.ref pa), (.long v)])) rfl rfl (hb hby d5_55) _ ?_
      show Steps p.tables e below (T42.setTop (mkF m 56 #[.val (.long v), .second, .val (.int (11 : Int32)), .val (.int (19 : Int32)), .val (.int (15 : Int32))] [(.long (1000000000000000 : Int64)), (.long v)])) _
      refine XT.lcmp X42.here hx rfl (hb hby d5_56) rfl ?_
      exact kt
    by_cases hc57_44 : v < (1000000000000000 : Int64)
    · obtain ⟨T45, X45, e45, st45⟩ := getS2 X42 hx hZ hown (host := "") (Or.inl (hw _ (List.mem_of_getElem? (i := 4) rfl))) Via.refl e42 S_P (g := (mkF m 50 #[.val (.long v), .second, .val (.int (11 : Int32)), .val (.int (15 : Int32)), .val (.int (13 : Int32))] [(.long v)])) rfl (hb hby d5_50)
      have pre46 : ∀ t, Steps p.tables e below (T45.setTop (mkF m 57 #[.val (.long v), .second, .val (.int (11 : Int32)), .val (.int (15 : Int32)), .val (.int (13 : Int32))] [(.int (XT.cmpL v (10000000000000 : Int64)))])) t → Steps p.tables e below (s₁.setTop (entryFrame m #[(.long v)] 5)) t := by
        intro t kt
        refine pre43 _ ?_
        show Steps p.tables e below (T42.setTop (mkF m 57 #[.val (.long v), .second, .val (.int (11 : Int32)), .val (.int (19 : Int32)), .val (.int (15 : Int32))] [(.int (XT.cmpL v (1000000000000000 : Int64)))])) _
        refine XS.ifYes X42.here hx rfl (pc0 := 57) (pc' := 68) rfl (hb hby d5_57) rfl (XT.ll_lt_t hc57_44) (by decide) (by decide) ?_
        show Steps p.tables e below (T42.setTop (mkF m 68 #[.val (.long v), .second, .val (.int (11 : Int32)), .val (.int (19 : Int32)), .val (.int (15 : Int32))] [])) _
        refine XS.iload X42.here hx rfl (hb hby d5_68) rfl ?_
        show Steps p.tables e below (T42.setTop (mkF m 70 #[.val (.long v), .second, .val (.int (11 : Int32)), .val (.int (19 : Int32)), .val (.int (15 : Int32))] [(.int (15 : Int32))])) _
        refine XS.istoreN X42.here hx rfl (hb hby d5_70) rfl (l' := #[.val (.long v), .second, .val (.int (11 : Int32)), .val (.int (15 : Int32)), .val (.int (15 : Int32))]) rfl ?_
        show Steps p.tables e below (T42.setTop (mkF m 71 #[.val (.long v), .second, .val (.int (11 : Int32)), .val (.int (15 : Int32)), .val (.int (15 : Int32))] [])) _
        refine XS.goto X42.here hx rfl (pc0 := 71) (pc' := 37) rfl (hb hby d5_71) (by decide) (by decide) ?_
        show Steps p.tables e below (T42.setTop (mkF m 37 #[.val (.long v), .second, .val (.int (11 : Int32)), .val (.int (15 : Int32)), .val (.int (15 : Int32))] [])) _
        refine XS.iloadN X42.here hx rfl (hb hby d5_37) rfl ?_
        show Steps p.tables e below (T42.setTop (mkF m 38 #[.val (.long v), .second, .val (.int (11 : Int32)), .val (.int (15 : Int32)), .val (.int (15 : Int32))] [(.int (11 : Int32))])) _
        refine XS.iloadN X42.here hx rfl (hb hby d5_38) rfl ?_
        show Steps p.tables e below (T42.setTop (mkF m 39 #[.val (.long v), .second, .val (.int (11 : Int32)), .val (.int (15 : Int32)), .val (.int (15 : Int32))] [(.int (15 : Int32)), (.int (11 : Int32))])) _
        refine XS.icmpNo X42.here hx rfl (hb hby d5_39) rfl (XT.ii_ge_f (by decide)) ?_
        show Steps p.tables e below (T42.setTop (mkF m 42 #[.val (.long v), .second, .val (.int (11 : Int32)), .val (.int (15 : Int32)), .val (.int (15 : Int32))] [])) _
        refine XS.iloadN X42.here hx rfl (hb hby d5_42) rfl ?_
        show Steps p.tables e below (T42.setTop (mkF m 43 #[.val (.long v), .second, .val (.int (11 : Int32)), .val (.int (15 : Int32)), .val (.int (15 : Int32))] [(.int (11 : Int32))])) _
        refine XS.iloadN X42.here hx rfl (hb hby d5_43) rfl ?_
        show Steps p.tables e below (T42.setTop (mkF m 44 #[.val (.long v), .second, .val (.int (11 : Int32)), .val (.int (15 : Int32)), .val (.int (15 : Int32))] [(.int (15 : Int32)), (.int (11 : Int32))])) _
        refine XS.iadd X42.here hx rfl (hb hby d5_44) rfl ?_
        rw [show ((11 : Int32) + (15 : Int32)) = (26 : Int32) from rfl]
        show Steps p.tables e below (T42.setTop (mkF m 45 #[.val (.long v), .second, .val (.int (11 : Int32)), .val (.int (15 : Int32)), .val (.int (15 : Int32))] [(.int (26 : Int32))])) _
        refine XS.iconst X42.here hx rfl (hb hby d5_45) ?_
        show Steps p.tables e below (T42.setTop (mkF m 46 #[.val (.long v), .second, .val (.int (11 : Int32)), .val (.int (15 : Int32)), .val (.int (15 : Int32))] [(.int (1 : Int32)), (.int (26 : Int32))])) _
        refine XT.iushr X42.here hx rfl (hb hby d5_46) rfl ?_
        rw [show XT.ushr (26 : Int32) (1 : Int32) = (13 : Int32) from by decide]
        show Steps p.tables e below (T42.setTop (mkF m 47 #[.val (.long v), .second, .val (.int (11 : Int32)), .val (.int (15 : Int32)), .val (.int (15 : Int32))] [(.int (13 : Int32))])) _
        refine XS.istore X42.here hx rfl (hb hby d5_47) rfl (l' := #[.val (.long v), .second, .val (.int (11 : Int32)), .val (.int (15 : Int32)), .val (.int (13 : Int32))]) rfl ?_
        show Steps p.tables e below (T42.setTop (mkF m 49 #[.val (.long v), .second, .val (.int (11 : Int32)), .val (.int (15 : Int32)), .val (.int (13 : Int32))] [])) _
        refine XS.lloadN X42.here hx rfl (hb hby d5_49) rfl ?_
        show Steps p.tables e below (T42.setTop (mkF m 50 #[.val (.long v), .second, .val (.int (11 : Int32)), .val (.int (15 : Int32)), .val (.int (13 : Int32))] [(.long v)])) _
        refine st45 _ ?_
        show Steps p.tables e below (T45.setTop (mkF m 53 #[.val (.long v), .second, .val (.int (11 : Int32)), .val (.int (15 : Int32)), .val (.int (13 : Int32))] [(.ref pa), (.long v)])) _
        refine XS.iload X45.here hx rfl (hb hby d5_53) rfl ?_
        show Steps p.tables e below (T45.setTop (mkF m 55 #[.val (.long v), .second, .val (.int (11 : Int32)), .val (.int (15 : Int32)), .val (.int (13 : Int32))] [(.int (13 : Int32)), (.ref pa), (.long v)])) _
        refine X45.laload hx (j := (13 : Int32)) (v := (.long (10000000000000 : Int64))) (by rw [e45]; exact Ar.1) (State.isArrayOf_alike hZ.alike Ar.2.1) Ar.2.2 El13.1 El13.2 (g := (mkF m 55 #[.val (.long v), .second, .val (.int (11 : Int32)), .val (.int (15 : Int32)), .val (.int (13 : Int32))] [(.int (13 : Int32)), (.ref pa), (.long v)])) rfl rfl (hb hby d5_55) _ ?_
        show Steps p.tables e below (T45.setTop (mkF m 56 #[.val (.long v), .second, .val (.int (11 : Int32)), .val (.int (15 : Int32)), .val (.int (13 : Int32))] [(.long (10000000000000 : Int64)), (.long v)])) _
        refine XT.lcmp X45.here hx rfl (hb hby d5_56) rfl ?_
        exact kt
      by_cases hc57_47 : v < (10000000000000 : Int64)
      · obtain ⟨T48, X48, e48, st48⟩ := getS2 X45 hx hZ hown (host := "") (Or.inl (hw _ (List.mem_of_getElem? (i := 4) rfl))) Via.refl e45 S_P (g := (mkF m 50 #[.val (.long v), .second, .val (.int (11 : Int32)), .val (.int (13 : Int32)), .val (.int (12 : Int32))] [(.long v)])) rfl (hb hby d5_50)
        have pre49 : ∀ t, Steps p.tables e below (T48.setTop (mkF m 57 #[.val (.long v), .second, .val (.int (11 : Int32)), .val (.int (13 : Int32)), .val (.int (12 : Int32))] [(.int (XT.cmpL v (1000000000000 : Int64)))])) t → Steps p.tables e below (s₁.setTop (entryFrame m #[(.long v)] 5)) t := by
          intro t kt
          refine pre46 _ ?_
          show Steps p.tables e below (T45.setTop (mkF m 57 #[.val (.long v), .second, .val (.int (11 : Int32)), .val (.int (15 : Int32)), .val (.int (13 : Int32))] [(.int (XT.cmpL v (10000000000000 : Int64)))])) _
          refine XS.ifYes X45.here hx rfl (pc0 := 57) (pc' := 68) rfl (hb hby d5_57) rfl (XT.ll_lt_t hc57_47) (by decide) (by decide) ?_
          show Steps p.tables e below (T45.setTop (mkF m 68 #[.val (.long v), .second, .val (.int (11 : Int32)), .val (.int (15 : Int32)), .val (.int (13 : Int32))] [])) _
          refine XS.iload X45.here hx rfl (hb hby d5_68) rfl ?_
          show Steps p.tables e below (T45.setTop (mkF m 70 #[.val (.long v), .second, .val (.int (11 : Int32)), .val (.int (15 : Int32)), .val (.int (13 : Int32))] [(.int (13 : Int32))])) _
          refine XS.istoreN X45.here hx rfl (hb hby d5_70) rfl (l' := #[.val (.long v), .second, .val (.int (11 : Int32)), .val (.int (13 : Int32)), .val (.int (13 : Int32))]) rfl ?_
          show Steps p.tables e below (T45.setTop (mkF m 71 #[.val (.long v), .second, .val (.int (11 : Int32)), .val (.int (13 : Int32)), .val (.int (13 : Int32))] [])) _
          refine XS.goto X45.here hx rfl (pc0 := 71) (pc' := 37) rfl (hb hby d5_71) (by decide) (by decide) ?_
          show Steps p.tables e below (T45.setTop (mkF m 37 #[.val (.long v), .second, .val (.int (11 : Int32)), .val (.int (13 : Int32)), .val (.int (13 : Int32))] [])) _
          refine XS.iloadN X45.here hx rfl (hb hby d5_37) rfl ?_
          show Steps p.tables e below (T45.setTop (mkF m 38 #[.val (.long v), .second, .val (.int (11 : Int32)), .val (.int (13 : Int32)), .val (.int (13 : Int32))] [(.int (11 : Int32))])) _
          refine XS.iloadN X45.here hx rfl (hb hby d5_38) rfl ?_
          show Steps p.tables e below (T45.setTop (mkF m 39 #[.val (.long v), .second, .val (.int (11 : Int32)), .val (.int (13 : Int32)), .val (.int (13 : Int32))] [(.int (13 : Int32)), (.int (11 : Int32))])) _
          refine XS.icmpNo X45.here hx rfl (hb hby d5_39) rfl (XT.ii_ge_f (by decide)) ?_
          show Steps p.tables e below (T45.setTop (mkF m 42 #[.val (.long v), .second, .val (.int (11 : Int32)), .val (.int (13 : Int32)), .val (.int (13 : Int32))] [])) _
          refine XS.iloadN X45.here hx rfl (hb hby d5_42) rfl ?_
          show Steps p.tables e below (T45.setTop (mkF m 43 #[.val (.long v), .second, .val (.int (11 : Int32)), .val (.int (13 : Int32)), .val (.int (13 : Int32))] [(.int (11 : Int32))])) _
          refine XS.iloadN X45.here hx rfl (hb hby d5_43) rfl ?_
          show Steps p.tables e below (T45.setTop (mkF m 44 #[.val (.long v), .second, .val (.int (11 : Int32)), .val (.int (13 : Int32)), .val (.int (13 : Int32))] [(.int (13 : Int32)), (.int (11 : Int32))])) _
          refine XS.iadd X45.here hx rfl (hb hby d5_44) rfl ?_
          rw [show ((11 : Int32) + (13 : Int32)) = (24 : Int32) from rfl]
          show Steps p.tables e below (T45.setTop (mkF m 45 #[.val (.long v), .second, .val (.int (11 : Int32)), .val (.int (13 : Int32)), .val (.int (13 : Int32))] [(.int (24 : Int32))])) _
          refine XS.iconst X45.here hx rfl (hb hby d5_45) ?_
          show Steps p.tables e below (T45.setTop (mkF m 46 #[.val (.long v), .second, .val (.int (11 : Int32)), .val (.int (13 : Int32)), .val (.int (13 : Int32))] [(.int (1 : Int32)), (.int (24 : Int32))])) _
          refine XT.iushr X45.here hx rfl (hb hby d5_46) rfl ?_
          rw [show XT.ushr (24 : Int32) (1 : Int32) = (12 : Int32) from by decide]
          show Steps p.tables e below (T45.setTop (mkF m 47 #[.val (.long v), .second, .val (.int (11 : Int32)), .val (.int (13 : Int32)), .val (.int (13 : Int32))] [(.int (12 : Int32))])) _
          refine XS.istore X45.here hx rfl (hb hby d5_47) rfl (l' := #[.val (.long v), .second, .val (.int (11 : Int32)), .val (.int (13 : Int32)), .val (.int (12 : Int32))]) rfl ?_
          show Steps p.tables e below (T45.setTop (mkF m 49 #[.val (.long v), .second, .val (.int (11 : Int32)), .val (.int (13 : Int32)), .val (.int (12 : Int32))] [])) _
          refine XS.lloadN X45.here hx rfl (hb hby d5_49) rfl ?_
          show Steps p.tables e below (T45.setTop (mkF m 50 #[.val (.long v), .second, .val (.int (11 : Int32)), .val (.int (13 : Int32)), .val (.int (12 : Int32))] [(.long v)])) _
          refine st48 _ ?_
          show Steps p.tables e below (T48.setTop (mkF m 53 #[.val (.long v), .second, .val (.int (11 : Int32)), .val (.int (13 : Int32)), .val (.int (12 : Int32))] [(.ref pa), (.long v)])) _
          refine XS.iload X48.here hx rfl (hb hby d5_53) rfl ?_
          show Steps p.tables e below (T48.setTop (mkF m 55 #[.val (.long v), .second, .val (.int (11 : Int32)), .val (.int (13 : Int32)), .val (.int (12 : Int32))] [(.int (12 : Int32)), (.ref pa), (.long v)])) _
          refine X48.laload hx (j := (12 : Int32)) (v := (.long (1000000000000 : Int64))) (by rw [e48]; exact Ar.1) (State.isArrayOf_alike hZ.alike Ar.2.1) Ar.2.2 El12.1 El12.2 (g := (mkF m 55 #[.val (.long v), .second, .val (.int (11 : Int32)), .val (.int (13 : Int32)), .val (.int (12 : Int32))] [(.int (12 : Int32)), (.ref pa), (.long v)])) rfl rfl (hb hby d5_55) _ ?_
          show Steps p.tables e below (T48.setTop (mkF m 56 #[.val (.long v), .second, .val (.int (11 : Int32)), .val (.int (13 : Int32)), .val (.int (12 : Int32))] [(.long (1000000000000 : Int64)), (.long v)])) _
          refine XT.lcmp X48.here hx rfl (hb hby d5_56) rfl ?_
          exact kt
        by_cases hc57_50 : v < (1000000000000 : Int64)
        · obtain ⟨T51, X51, e51, st51⟩ := getS2 X48 hx hZ hown (host := "") (Or.inl (hw _ (List.mem_of_getElem? (i := 4) rfl))) Via.refl e48 S_P (g := (mkF m 50 #[.val (.long v), .second, .val (.int (11 : Int32)), .val (.int (12 : Int32)), .val (.int (11 : Int32))] [(.long v)])) rfl (hb hby d5_50)
          have pre52 : ∀ t, Steps p.tables e below (T51.setTop (mkF m 57 #[.val (.long v), .second, .val (.int (11 : Int32)), .val (.int (12 : Int32)), .val (.int (11 : Int32))] [(.int (XT.cmpL v (100000000000 : Int64)))])) t → Steps p.tables e below (s₁.setTop (entryFrame m #[(.long v)] 5)) t := by
            intro t kt
            refine pre49 _ ?_
            show Steps p.tables e below (T48.setTop (mkF m 57 #[.val (.long v), .second, .val (.int (11 : Int32)), .val (.int (13 : Int32)), .val (.int (12 : Int32))] [(.int (XT.cmpL v (1000000000000 : Int64)))])) _
            refine XS.ifYes X48.here hx rfl (pc0 := 57) (pc' := 68) rfl (hb hby d5_57) rfl (XT.ll_lt_t hc57_50) (by decide) (by decide) ?_
            show Steps p.tables e below (T48.setTop (mkF m 68 #[.val (.long v), .second, .val (.int (11 : Int32)), .val (.int (13 : Int32)), .val (.int (12 : Int32))] [])) _
            refine XS.iload X48.here hx rfl (hb hby d5_68) rfl ?_
            show Steps p.tables e below (T48.setTop (mkF m 70 #[.val (.long v), .second, .val (.int (11 : Int32)), .val (.int (13 : Int32)), .val (.int (12 : Int32))] [(.int (12 : Int32))])) _
            refine XS.istoreN X48.here hx rfl (hb hby d5_70) rfl (l' := #[.val (.long v), .second, .val (.int (11 : Int32)), .val (.int (12 : Int32)), .val (.int (12 : Int32))]) rfl ?_
            show Steps p.tables e below (T48.setTop (mkF m 71 #[.val (.long v), .second, .val (.int (11 : Int32)), .val (.int (12 : Int32)), .val (.int (12 : Int32))] [])) _
            refine XS.goto X48.here hx rfl (pc0 := 71) (pc' := 37) rfl (hb hby d5_71) (by decide) (by decide) ?_
            show Steps p.tables e below (T48.setTop (mkF m 37 #[.val (.long v), .second, .val (.int (11 : Int32)), .val (.int (12 : Int32)), .val (.int (12 : Int32))] [])) _
            refine XS.iloadN X48.here hx rfl (hb hby d5_37) rfl ?_
            show Steps p.tables e below (T48.setTop (mkF m 38 #[.val (.long v), .second, .val (.int (11 : Int32)), .val (.int (12 : Int32)), .val (.int (12 : Int32))] [(.int (11 : Int32))])) _
            refine XS.iloadN X48.here hx rfl (hb hby d5_38) rfl ?_
            show Steps p.tables e below (T48.setTop (mkF m 39 #[.val (.long v), .second, .val (.int (11 : Int32)), .val (.int (12 : Int32)), .val (.int (12 : Int32))] [(.int (12 : Int32)), (.int (11 : Int32))])) _
            refine XS.icmpNo X48.here hx rfl (hb hby d5_39) rfl (XT.ii_ge_f (by decide)) ?_
            show Steps p.tables e below (T48.setTop (mkF m 42 #[.val (.long v), .second, .val (.int (11 : Int32)), .val (.int (12 : Int32)), .val (.int (12 : Int32))] [])) _
            refine XS.iloadN X48.here hx rfl (hb hby d5_42) rfl ?_
            show Steps p.tables e below (T48.setTop (mkF m 43 #[.val (.long v), .second, .val (.int (11 : Int32)), .val (.int (12 : Int32)), .val (.int (12 : Int32))] [(.int (11 : Int32))])) _
            refine XS.iloadN X48.here hx rfl (hb hby d5_43) rfl ?_
            show Steps p.tables e below (T48.setTop (mkF m 44 #[.val (.long v), .second, .val (.int (11 : Int32)), .val (.int (12 : Int32)), .val (.int (12 : Int32))] [(.int (12 : Int32)), (.int (11 : Int32))])) _
            refine XS.iadd X48.here hx rfl (hb hby d5_44) rfl ?_
            rw [show ((11 : Int32) + (12 : Int32)) = (23 : Int32) from rfl]
            show Steps p.tables e below (T48.setTop (mkF m 45 #[.val (.long v), .second, .val (.int (11 : Int32)), .val (.int (12 : Int32)), .val (.int (12 : Int32))] [(.int (23 : Int32))])) _
            refine XS.iconst X48.here hx rfl (hb hby d5_45) ?_
            show Steps p.tables e below (T48.setTop (mkF m 46 #[.val (.long v), .second, .val (.int (11 : Int32)), .val (.int (12 : Int32)), .val (.int (12 : Int32))] [(.int (1 : Int32)), (.int (23 : Int32))])) _
            refine XT.iushr X48.here hx rfl (hb hby d5_46) rfl ?_
            rw [show XT.ushr (23 : Int32) (1 : Int32) = (11 : Int32) from by decide]
            show Steps p.tables e below (T48.setTop (mkF m 47 #[.val (.long v), .second, .val (.int (11 : Int32)), .val (.int (12 : Int32)), .val (.int (12 : Int32))] [(.int (11 : Int32))])) _
            refine XS.istore X48.here hx rfl (hb hby d5_47) rfl (l' := #[.val (.long v), .second, .val (.int (11 : Int32)), .val (.int (12 : Int32)), .val (.int (11 : Int32))]) rfl ?_
            show Steps p.tables e below (T48.setTop (mkF m 49 #[.val (.long v), .second, .val (.int (11 : Int32)), .val (.int (12 : Int32)), .val (.int (11 : Int32))] [])) _
            refine XS.lloadN X48.here hx rfl (hb hby d5_49) rfl ?_
            show Steps p.tables e below (T48.setTop (mkF m 50 #[.val (.long v), .second, .val (.int (11 : Int32)), .val (.int (12 : Int32)), .val (.int (11 : Int32))] [(.long v)])) _
            refine st51 _ ?_
            show Steps p.tables e below (T51.setTop (mkF m 53 #[.val (.long v), .second, .val (.int (11 : Int32)), .val (.int (12 : Int32)), .val (.int (11 : Int32))] [(.ref pa), (.long v)])) _
            refine XS.iload X51.here hx rfl (hb hby d5_53) rfl ?_
            show Steps p.tables e below (T51.setTop (mkF m 55 #[.val (.long v), .second, .val (.int (11 : Int32)), .val (.int (12 : Int32)), .val (.int (11 : Int32))] [(.int (11 : Int32)), (.ref pa), (.long v)])) _
            refine X51.laload hx (j := (11 : Int32)) (v := (.long (100000000000 : Int64))) (by rw [e51]; exact Ar.1) (State.isArrayOf_alike hZ.alike Ar.2.1) Ar.2.2 El11.1 El11.2 (g := (mkF m 55 #[.val (.long v), .second, .val (.int (11 : Int32)), .val (.int (12 : Int32)), .val (.int (11 : Int32))] [(.int (11 : Int32)), (.ref pa), (.long v)])) rfl rfl (hb hby d5_55) _ ?_
            show Steps p.tables e below (T51.setTop (mkF m 56 #[.val (.long v), .second, .val (.int (11 : Int32)), .val (.int (12 : Int32)), .val (.int (11 : Int32))] [(.long (100000000000 : Int64)), (.long v)])) _
            refine XT.lcmp X51.here hx rfl (hb hby d5_56) rfl ?_
            exact kt
          by_cases hc57_53 : v < (100000000000 : Int64)
          · have pre54 : ∀ t, Steps p.tables e below (T51.setTop (mkF m 75 #[.val (.long v), .second, .val (.int (11 : Int32)), .val (.int (11 : Int32)), .val (.int (11 : Int32))] [(.int (11 : Int32))])) t → Steps p.tables e below (s₁.setTop (entryFrame m #[(.long v)] 5)) t := by
              intro t kt
              refine pre52 _ ?_
              show Steps p.tables e below (T51.setTop (mkF m 57 #[.val (.long v), .second, .val (.int (11 : Int32)), .val (.int (12 : Int32)), .val (.int (11 : Int32))] [(.int (XT.cmpL v (100000000000 : Int64)))])) _
              refine XS.ifYes X51.here hx rfl (pc0 := 57) (pc' := 68) rfl (hb hby d5_57) rfl (XT.ll_lt_t hc57_53) (by decide) (by decide) ?_
              show Steps p.tables e below (T51.setTop (mkF m 68 #[.val (.long v), .second, .val (.int (11 : Int32)), .val (.int (12 : Int32)), .val (.int (11 : Int32))] [])) _
              refine XS.iload X51.here hx rfl (hb hby d5_68) rfl ?_
              show Steps p.tables e below (T51.setTop (mkF m 70 #[.val (.long v), .second, .val (.int (11 : Int32)), .val (.int (12 : Int32)), .val (.int (11 : Int32))] [(.int (11 : Int32))])) _
              refine XS.istoreN X51.here hx rfl (hb hby d5_70) rfl (l' := #[.val (.long v), .second, .val (.int (11 : Int32)), .val (.int (11 : Int32)), .val (.int (11 : Int32))]) rfl ?_
              show Steps p.tables e below (T51.setTop (mkF m 71 #[.val (.long v), .second, .val (.int (11 : Int32)), .val (.int (11 : Int32)), .val (.int (11 : Int32))] [])) _
              refine XS.goto X51.here hx rfl (pc0 := 71) (pc' := 37) rfl (hb hby d5_71) (by decide) (by decide) ?_
              show Steps p.tables e below (T51.setTop (mkF m 37 #[.val (.long v), .second, .val (.int (11 : Int32)), .val (.int (11 : Int32)), .val (.int (11 : Int32))] [])) _
              refine XS.iloadN X51.here hx rfl (hb hby d5_37) rfl ?_
              show Steps p.tables e below (T51.setTop (mkF m 38 #[.val (.long v), .second, .val (.int (11 : Int32)), .val (.int (11 : Int32)), .val (.int (11 : Int32))] [(.int (11 : Int32))])) _
              refine XS.iloadN X51.here hx rfl (hb hby d5_38) rfl ?_
              show Steps p.tables e below (T51.setTop (mkF m 39 #[.val (.long v), .second, .val (.int (11 : Int32)), .val (.int (11 : Int32)), .val (.int (11 : Int32))] [(.int (11 : Int32)), (.int (11 : Int32))])) _
              refine XS.icmpYes X51.here hx rfl (pc0 := 39) (pc' := 74) rfl (hb hby d5_39) rfl (XT.ii_ge_t (by decide)) (by decide) (by decide) ?_
              show Steps p.tables e below (T51.setTop (mkF m 74 #[.val (.long v), .second, .val (.int (11 : Int32)), .val (.int (11 : Int32)), .val (.int (11 : Int32))] [])) _
              refine XS.iloadN X51.here hx rfl (hb hby d5_74) rfl ?_
              exact kt
            obtain ⟨fs, hr, hrun, hended, hW, hsame⟩ := X51.leave (v := some (.int (11 : Int32))) (fun h => by rw [Bd.returns] at h; cases h)
            refine ⟨_, _, pre54 _ ?_, hrun, hended, _, _, rfl, ?_, ⟨_, rfl⟩, hW, hsame.mono (by decide) (by decide)⟩
            · show Steps p.tables e below (T51.setTop (mkF m 75 #[.val (.long v), .second, .val (.int (11 : Int32)), .val (.int (11 : Int32)), .val (.int (11 : Int32))] [(.int (11 : Int32))])) _
              exact retI X51 hx Bd.returns (hb hby d5_75) hr
            · show Q1 Z (.int (cntF v)) h0 n0 _ T51.heap _
              rw [e51]
              exact ⟨by rw [cntF, if_neg hpos, cnt_11 (own_ge hc57_4 rfl) (own_lt hc57_53 rfl)], N0, rfl⟩
          · have pre55 : ∀ t, Steps p.tables e below (T51.setTop (mkF m 75 #[.val (.long v), .second, .val (.int (12 : Int32)), .val (.int (12 : Int32)), .val (.int (11 : Int32))] [(.int (12 : Int32))])) t → Steps p.tables e below (s₁.setTop (entryFrame m #[(.long v)] 5)) t := by
              intro t kt
              refine pre52 _ ?_
              show Steps p.tables e below (T51.setTop (mkF m 57 #[.val (.long v), .second, .val (.int (11 : Int32)), .val (.int (12 : Int32)), .val (.int (11 : Int32))] [(.int (XT.cmpL v (100000000000 : Int64)))])) _
              refine XS.ifNo X51.here hx rfl (hb hby d5_57) rfl (XT.ll_lt_f hc57_53) ?_
              show Steps p.tables e below (T51.setTop (mkF m 60 #[.val (.long v), .second, .val (.int (11 : Int32)), .val (.int (12 : Int32)), .val (.int (11 : Int32))] [])) _
              refine XS.iload X51.here hx rfl (hb hby d5_60) rfl ?_
              show Steps p.tables e below (T51.setTop (mkF m 62 #[.val (.long v), .second, .val (.int (11 : Int32)), .val (.int (12 : Int32)), .val (.int (11 : Int32))] [(.int (11 : Int32))])) _
              refine XS.iconst X51.here hx rfl (hb hby d5_62) ?_
              show Steps p.tables e below (T51.setTop (mkF m 63 #[.val (.long v), .second, .val (.int (11 : Int32)), .val (.int (12 : Int32)), .val (.int (11 : Int32))] [(.int (1 : Int32)), (.int (11 : Int32))])) _
              refine XS.iadd X51.here hx rfl (hb hby d5_63) rfl ?_
              rw [show ((11 : Int32) + (1 : Int32)) = (12 : Int32) from rfl]
              show Steps p.tables e below (T51.setTop (mkF m 64 #[.val (.long v), .second, .val (.int (11 : Int32)), .val (.int (12 : Int32)), .val (.int (11 : Int32))] [(.int (12 : Int32))])) _
              refine XS.istoreN X51.here hx rfl (hb hby d5_64) rfl (l' := #[.val (.long v), .second, .val (.int (12 : Int32)), .val (.int (12 : Int32)), .val (.int (11 : Int32))]) rfl ?_
              show Steps p.tables e below (T51.setTop (mkF m 65 #[.val (.long v), .second, .val (.int (12 : Int32)), .val (.int (12 : Int32)), .val (.int (11 : Int32))] [])) _
              refine XS.goto X51.here hx rfl (pc0 := 65) (pc' := 71) rfl (hb hby d5_65) (by decide) (by decide) ?_
              show Steps p.tables e below (T51.setTop (mkF m 71 #[.val (.long v), .second, .val (.int (12 : Int32)), .val (.int (12 : Int32)), .val (.int (11 : Int32))] [])) _
              refine XS.goto X51.here hx rfl (pc0 := 71) (pc' := 37) rfl (hb hby d5_71) (by decide) (by decide) ?_
              show Steps p.tables e below (T51.setTop (mkF m 37 #[.val (.long v), .second, .val (.int (12 : Int32)), .val (.int (12 : Int32)), .val (.int (11 : Int32))] [])) _
              refine XS.iloadN X51.here hx rfl (hb hby d5_37) rfl ?_
              show Steps p.tables e below (T51.setTop (mkF m 38 #[.val (.long v), .second, .val (.int (12 : Int32)), .val (.int (12 : Int32)), .val (.int (11 : Int32))] [(.int (12 : Int32))])) _
              refine XS.iloadN X51.here hx rfl (hb hby d5_38) rfl ?_
              show Steps p.tables e below (T51.setTop (mkF m 39 #[.val (.long v), .second, .val (.int (12 : Int32)), .val (.int (12 : Int32)), .val (.int (11 : Int32))] [(.int (12 : Int32)), (.int (12 : Int32))])) _
              refine XS.icmpYes X51.here hx rfl (pc0 := 39) (pc' := 74) rfl (hb hby d5_39) rfl (XT.ii_ge_t (by decide)) (by decide) (by decide) ?_
              show Steps p.tables e below (T51.setTop (mkF m 74 #[.val (.long v), .second, .val (.int (12 : Int32)), .val (.int (12 : Int32)), .val (.int (11 : Int32))] [])) _
              refine XS.iloadN X51.here hx rfl (hb hby d5_74) rfl ?_
              exact kt
            obtain ⟨fs, hr, hrun, hended, hW, hsame⟩ := X51.leave (v := some (.int (12 : Int32))) (fun h => by rw [Bd.returns] at h; cases h)
            refine ⟨_, _, pre55 _ ?_, hrun, hended, _, _, rfl, ?_, ⟨_, rfl⟩, hW, hsame.mono (by decide) (by decide)⟩
            · show Steps p.tables e below (T51.setTop (mkF m 75 #[.val (.long v), .second, .val (.int (12 : Int32)), .val (.int (12 : Int32)), .val (.int (11 : Int32))] [(.int (12 : Int32))])) _
              exact retI X51 hx Bd.returns (hb hby d5_75) hr
            · show Q1 Z (.int (cntF v)) h0 n0 _ T51.heap _
              rw [e51]
              exact ⟨by rw [cntF, if_neg hpos, cnt_12 (own_ge hc57_53 rfl) (own_lt hc57_50 rfl)], N0, rfl⟩
        · have pre56 : ∀ t, Steps p.tables e below (T48.setTop (mkF m 75 #[.val (.long v), .second, .val (.int (13 : Int32)), .val (.int (13 : Int32)), .val (.int (12 : Int32))] [(.int (13 : Int32))])) t → Steps p.tables e below (s₁.setTop (entryFrame m #[(.long v)] 5)) t := by
            intro t kt
            refine pre49 _ ?_
            show Steps p.tables e below (T48.setTop (mkF m 57 #[.val (.long v), .second, .val (.int (11 : Int32)), .val (.int (13 : Int32)), .val (.int (12 : Int32))] [(.int (XT.cmpL v (1000000000000 : Int64)))])) _
            refine XS.ifNo X48.here hx rfl (hb hby d5_57) rfl (XT.ll_lt_f hc57_50) ?_
            show Steps p.tables e below (T48.setTop (mkF m 60 #[.val (.long v), .second, .val (.int (11 : Int32)), .val (.int (13 : Int32)), .val (.int (12 : Int32))] [])) _
            refine XS.iload X48.here hx rfl (hb hby d5_60) rfl ?_
            show Steps p.tables e below (T48.setTop (mkF m 62 #[.val (.long v), .second, .val (.int (11 : Int32)), .val (.int (13 : Int32)), .val (.int (12 : Int32))] [(.int (12 : Int32))])) _
            refine XS.iconst X48.here hx rfl (hb hby d5_62) ?_
            show Steps p.tables e below (T48.setTop (mkF m 63 #[.val (.long v), .second, .val (.int (11 : Int32)), .val (.int (13 : Int32)), .val (.int (12 : Int32))] [(.int (1 : Int32)), (.int (12 : Int32))])) _
            refine XS.iadd X48.here hx rfl (hb hby d5_63) rfl ?_
            rw [show ((12 : Int32) + (1 : Int32)) = (13 : Int32) from rfl]
            show Steps p.tables e below (T48.setTop (mkF m 64 #[.val (.long v), .second, .val (.int (11 : Int32)), .val (.int (13 : Int32)), .val (.int (12 : Int32))] [(.int (13 : Int32))])) _
            refine XS.istoreN X48.here hx rfl (hb hby d5_64) rfl (l' := #[.val (.long v), .second, .val (.int (13 : Int32)), .val (.int (13 : Int32)), .val (.int (12 : Int32))]) rfl ?_
            show Steps p.tables e below (T48.setTop (mkF m 65 #[.val (.long v), .second, .val (.int (13 : Int32)), .val (.int (13 : Int32)), .val (.int (12 : Int32))] [])) _
            refine XS.goto X48.here hx rfl (pc0 := 65) (pc' := 71) rfl (hb hby d5_65) (by decide) (by decide) ?_
            show Steps p.tables e below (T48.setTop (mkF m 71 #[.val (.long v), .second, .val (.int (13 : Int32)), .val (.int (13 : Int32)), .val (.int (12 : Int32))] [])) _
            refine XS.goto X48.here hx rfl (pc0 := 71) (pc' := 37) rfl (hb hby d5_71) (by decide) (by decide) ?_
            show Steps p.tables e below (T48.setTop (mkF m 37 #[.val (.long v), .second, .val (.int (13 : Int32)), .val (.int (13 : Int32)), .val (.int (12 : Int32))] [])) _
            refine XS.iloadN X48.here hx rfl (hb hby d5_37) rfl ?_
            show Steps p.tables e below (T48.setTop (mkF m 38 #[.val (.long v), .second, .val (.int (13 : Int32)), .val (.int (13 : Int32)), .val (.int (12 : Int32))] [(.int (13 : Int32))])) _
            refine XS.iloadN X48.here hx rfl (hb hby d5_38) rfl ?_
            show Steps p.tables e below (T48.setTop (mkF m 39 #[.val (.long v), .second, .val (.int (13 : Int32)), .val (.int (13 : Int32)), .val (.int (12 : Int32))] [(.int (13 : Int32)), (.int (13 : Int32))])) _
            refine XS.icmpYes X48.here hx rfl (pc0 := 39) (pc' := 74) rfl (hb hby d5_39) rfl (XT.ii_ge_t (by decide)) (by decide) (by decide) ?_
            show Steps p.tables e below (T48.setTop (mkF m 74 #[.val (.long v), .second, .val (.int (13 : Int32)), .val (.int (13 : Int32)), .val (.int (12 : Int32))] [])) _
            refine XS.iloadN X48.here hx rfl (hb hby d5_74) rfl ?_
            exact kt
          obtain ⟨fs, hr, hrun, hended, hW, hsame⟩ := X48.leave (v := some (.int (13 : Int32))) (fun h => by rw [Bd.returns] at h; cases h)
          refine ⟨_, _, pre56 _ ?_, hrun, hended, _, _, rfl, ?_, ⟨_, rfl⟩, hW, hsame.mono (by decide) (by decide)⟩
          · show Steps p.tables e below (T48.setTop (mkF m 75 #[.val (.long v), .second, .val (.int (13 : Int32)), .val (.int (13 : Int32)), .val (.int (12 : Int32))] [(.int (13 : Int32))])) _
            exact retI X48 hx Bd.returns (hb hby d5_75) hr
          · show Q1 Z (.int (cntF v)) h0 n0 _ T48.heap _
            rw [e48]
            exact ⟨by rw [cntF, if_neg hpos, cnt_13 (own_ge hc57_50 rfl) (own_lt hc57_47 rfl)], N0, rfl⟩
      · obtain ⟨T57, X57, e57, st57⟩ := getS2 X45 hx hZ hown (host := "") (Or.inl (hw _ (List.mem_of_getElem? (i := 4) rfl))) Via.refl e45 S_P (g := (mkF m 50 #[.val (.long v), .second, .val (.int (14 : Int32)), .val (.int (15 : Int32)), .val (.int (14 : Int32))] [(.long v)])) rfl (hb hby d5_50)
        have pre58 : ∀ t, Steps p.tables e below (T57.setTop (mkF m 57 #[.val (.long v), .second, .val (.int (14 : Int32)), .val (.int (15 : Int32)), .val (.int (14 : Int32))] [(.int (XT.cmpL v (100000000000000 : Int64)))])) t → Steps p.tables e below (s₁.setTop (entryFrame m #[(.long v)] 5)) t := by
          intro t kt
          refine pre46 _ ?_
          show Steps p.tables e below (T45.setTop (mkF m 57 #[.val (.long v), .second, .val (.int (11 : Int32)), .val (.int (15 : Int32)), .val (.int (13 : Int32))] [(.int (XT.cmpL v (10000000000000 : Int64)))])) _
          refine XS.ifNo X45.here hx rfl (hb hby d5_57) rfl (XT.ll_lt_f hc57_47) ?_
          show Steps p.tables e below (T45.setTop (mkF m 60 #[.val (.long v), .second, .val (.int (11 : Int32)), .val (.int (15 : Int32)), .val (.int (13 : Int32))] [])) _
          refine XS.iload X45.here hx rfl (hb hby d5_60) rfl ?_
          show Steps p.tables e below (T45.setTop (mkF m 62 #[.val (.long v), .second, .val (.int (11 : Int32)), .val (.int (15 : Int32)), .val (.int (13 : Int32))] [(.int (13 : Int32))])) _
          refine XS.iconst X45.here hx rfl (hb hby d5_62) ?_
          show Steps p.tables e below (T45.setTop (mkF m 63 #[.val (.long v), .second, .val (.int (11 : Int32)), .val (.int (15 : Int32)), .val (.int (13 : Int32))] [(.int (1 : Int32)), (.int (13 : Int32))])) _
          refine XS.iadd X45.here hx rfl (hb hby d5_63) rfl ?_
          rw [show ((13 : Int32) + (1 : Int32)) = (14 : Int32) from rfl]
          show Steps p.tables e below (T45.setTop (mkF m 64 #[.val (.long v), .second, .val (.int (11 : Int32)), .val (.int (15 : Int32)), .val (.int (13 : Int32))] [(.int (14 : Int32))])) _
          refine XS.istoreN X45.here hx rfl (hb hby d5_64) rfl (l' := #[.val (.long v), .second, .val (.int (14 : Int32)), .val (.int (15 : Int32)), .val (.int (13 : Int32))]) rfl ?_
          show Steps p.tables e below (T45.setTop (mkF m 65 #[.val (.long v), .second, .val (.int (14 : Int32)), .val (.int (15 : Int32)), .val (.int (13 : Int32))] [])) _
          refine XS.goto X45.here hx rfl (pc0 := 65) (pc' := 71) rfl (hb hby d5_65) (by decide) (by decide) ?_
          show Steps p.tables e below (T45.setTop (mkF m 71 #[.val (.long v), .second, .val (.int (14 : Int32)), .val (.int (15 : Int32)), .val (.int (13 : Int32))] [])) _
          refine XS.goto X45.here hx rfl (pc0 := 71) (pc' := 37) rfl (hb hby d5_71) (by decide) (by decide) ?_
          show Steps p.tables e below (T45.setTop (mkF m 37 #[.val (.long v), .second, .val (.int (14 : Int32)), .val (.int (15 : Int32)), .val (.int (13 : Int32))] [])) _
          refine XS.iloadN X45.here hx rfl (hb hby d5_37) rfl ?_
          show Steps p.tables e below (T45.setTop (mkF m 38 #[.val (.long v), .second, .val (.int (14 : Int32)), .val (.int (15 : Int32)), .val (.int (13 : Int32))] [(.int (14 : Int32))])) _
          refine XS.iloadN X45.here hx rfl (hb hby d5_38) rfl ?_
          show Steps p.tables e below (T45.setTop (mkF m 39 #[.val (.long v), .second, .val (.int (14 : Int32)), .val (.int (15 : Int32)), .val (.int (13 : Int32))] [(.int (15 : Int32)), (.int (14 : Int32))])) _
          refine XS.icmpNo X45.here hx rfl (hb hby d5_39) rfl (XT.ii_ge_f (by decide)) ?_
          show Steps p.tables e below (T45.setTop (mkF m 42 #[.val (.long v), .second, .val (.int (14 : Int32)), .val (.int (15 : Int32)), .val (.int (13 : Int32))] [])) _
          refine XS.iloadN X45.here hx rfl (hb hby d5_42) rfl ?_
          show Steps p.tables e below (T45.setTop (mkF m 43 #[.val (.long v), .second, .val (.int (14 : Int32)), .val (.int (15 : Int32)), .val (.int (13 : Int32))] [(.int (14 : Int32))])) _
          refine XS.iloadN X45.here hx rfl (hb hby d5_43) rfl ?_
          show Steps p.tables e below (T45.setTop (mkF m 44 #[.val (.long v), .second, .val (.int (14 : Int32)), .val (.int (15 : Int32)), .val (.int (13 : Int32))] [(.int (15 : Int32)), (.int (14 : Int32))])) _
          refine XS.iadd X45.here hx rfl (hb hby d5_44) rfl ?_
          rw [show ((14 : Int32) + (15 : Int32)) = (29 : Int32) from rfl]
          show Steps p.tables e below (T45.setTop (mkF m 45 #[.val (.long v), .second, .val (.int (14 : Int32)), .val (.int (15 : Int32)), .val (.int (13 : Int32))] [(.int (29 : Int32))])) _
          refine XS.iconst X45.here hx rfl (hb hby d5_45) ?_
          show Steps p.tables e below (T45.setTop (mkF m 46 #[.val (.long v), .second, .val (.int (14 : Int32)), .val (.int (15 : Int32)), .val (.int (13 : Int32))] [(.int (1 : Int32)), (.int (29 : Int32))])) _
          refine XT.iushr X45.here hx rfl (hb hby d5_46) rfl ?_
          rw [show XT.ushr (29 : Int32) (1 : Int32) = (14 : Int32) from by decide]
          show Steps p.tables e below (T45.setTop (mkF m 47 #[.val (.long v), .second, .val (.int (14 : Int32)), .val (.int (15 : Int32)), .val (.int (13 : Int32))] [(.int (14 : Int32))])) _
          refine XS.istore X45.here hx rfl (hb hby d5_47) rfl (l' := #[.val (.long v), .second, .val (.int (14 : Int32)), .val (.int (15 : Int32)), .val (.int (14 : Int32))]) rfl ?_
          show Steps p.tables e below (T45.setTop (mkF m 49 #[.val (.long v), .second, .val (.int (14 : Int32)), .val (.int (15 : Int32)), .val (.int (14 : Int32))] [])) _
          refine XS.lloadN X45.here hx rfl (hb hby d5_49) rfl ?_
          show Steps p.tables e below (T45.setTop (mkF m 50 #[.val (.long v), .second, .val (.int (14 : Int32)), .val (.int (15 : Int32)), .val (.int (14 : Int32))] [(.long v)])) _
          refine st57 _ ?_
          show Steps p.tables e below (T57.setTop (mkF m 53 #[.val (.long v), .second, .val (.int (14 : Int32)), .val (.int (15 : Int32)), .val (.int (14 : Int32))] [(.ref pa), (.long v)])) _
          refine XS.iload X57.here hx rfl (hb hby d5_53) rfl ?_
          show Steps p.tables e below (T57.setTop (mkF m 55 #[.val (.long v), .second, .val (.int (14 : Int32)), .val (.int (15 : Int32)), .val (.int (14 : Int32))] [(.int (14 : Int32)), (.ref pa), (.long v)])) _
          refine X57.laload hx (j := (14 : Int32)) (v := (.long (100000000000000 : Int64))) (by rw [e57]; exact Ar.1) (State.isArrayOf_alike hZ.alike Ar.2.1) Ar.2.2 El14.1 El14.2 (g := (mkF m 55 #[.val (.long v), .second, .val (.int (14 : Int32)), .val (.int (15 : Int32)), .val (.int (14 : Int32))] [(.int (14 : Int32)), (.ref pa), (.long v)])) rfl rfl (hb hby d5_55) _ ?_
          show Steps p.tables e below (T57.setTop (mkF m 56 #[.val (.long v), .second, .val (.int (14 : Int32)), .val (.int (15 : Int32)), .val (.int (14 : Int32))] [(.long (100000000000000 : Int64)), (.long v)])) _
          refine XT.lcmp X57.here hx rfl (hb hby d5_56) rfl ?_
          exact kt
        by_cases hc57_59 : v < (100000000000000 : Int64)
        · have pre60 : ∀ t, Steps p.tables e below (T57.setTop (mkF m 75 #[.val (.long v), .second, .val (.int (14 : Int32)), .val (.int (14 : Int32)), .val (.int (14 : Int32))] [(.int (14 : Int32))])) t → Steps p.tables e below (s₁.setTop (entryFrame m #[(.long v)] 5)) t := by
            intro t kt
            refine pre58 _ ?_
            show Steps p.tables e below (T57.setTop (mkF m 57 #[.val (.long v), .second, .val (.int (14 : Int32)), .val (.int (15 : Int32)), .val (.int (14 : Int32))] [(.int (XT.cmpL v (100000000000000 : Int64)))])) _
            refine XS.ifYes X57.here hx rfl (pc0 := 57) (pc' := 68) rfl (hb hby d5_57) rfl (XT.ll_lt_t hc57_59) (by decide) (by decide) ?_
            show Steps p.tables e below (T57.setTop (mkF m 68 #[.val (.long v), .second, .val (.int (14 : Int32)), .val (.int (15 : Int32)), .val (.int (14 : Int32))] [])) _
            refine XS.iload X57.here hx rfl (hb hby d5_68) rfl ?_
            show Steps p.tables e below (T57.setTop (mkF m 70 #[.val (.long v), .second, .val (.int (14 : Int32)), .val (.int (15 : Int32)), .val (.int (14 : Int32))] [(.int (14 : Int32))])) _
            refine XS.istoreN X57.here hx rfl (hb hby d5_70) rfl (l' := #[.val (.long v), .second, .val (.int (14 : Int32)), .val (.int (14 : Int32)), .val (.int (14 : Int32))]) rfl ?_
            show Steps p.tables e below (T57.setTop (mkF m 71 #[.val (.long v), .second, .val (.int (14 : Int32)), .val (.int (14 : Int32)), .val (.int (14 : Int32))] [])) _
            refine XS.goto X57.here hx rfl (pc0 := 71) (pc' := 37) rfl (hb hby d5_71) (by decide) (by decide) ?_
            show Steps p.tables e below (T57.setTop (mkF m 37 #[.val (.long v), .second, .val (.int (14 : Int32)), .val (.int (14 : Int32)), .val (.int (14 : Int32))] [])) _
            refine XS.iloadN X57.here hx rfl (hb hby d5_37) rfl ?_
            show Steps p.tables e below (T57.setTop (mkF m 38 #[.val (.long v), .second, .val (.int (14 : Int32)), .val (.int (14 : Int32)), .val (.int (14 : Int32))] [(.int (14 : Int32))])) _
            refine XS.iloadN X57.here hx rfl (hb hby d5_38) rfl ?_
            show Steps p.tables e below (T57.setTop (mkF m 39 #[.val (.long v), .second, .val (.int (14 : Int32)), .val (.int (14 : Int32)), .val (.int (14 : Int32))] [(.int (14 : Int32)), (.int (14 : Int32))])) _
            refine XS.icmpYes X57.here hx rfl (pc0 := 39) (pc' := 74) rfl (hb hby d5_39) rfl (XT.ii_ge_t (by decide)) (by decide) (by decide) ?_
            show Steps p.tables e below (T57.setTop (mkF m 74 #[.val (.long v), .second, .val (.int (14 : Int32)), .val (.int (14 : Int32)), .val (.int (14 : Int32))] [])) _
            refine XS.iloadN X57.here hx rfl (hb hby d5_74) rfl ?_
            exact kt
          obtain ⟨fs, hr, hrun, hended, hW, hsame⟩ := X57.leave (v := some (.int (14 : Int32))) (fun h => by rw [Bd.returns] at h; cases h)
          refine ⟨_, _, pre60 _ ?_, hrun, hended, _, _, rfl, ?_, ⟨_, rfl⟩, hW, hsame.mono (by decide) (by decide)⟩
          · show Steps p.tables e below (T57.setTop (mkF m 75 #[.val (.long v), .second, .val (.int (14 : Int32)), .val (.int (14 : Int32)), .val (.int (14 : Int32))] [(.int (14 : Int32))])) _
            exact retI X57 hx Bd.returns (hb hby d5_75) hr
          · show Q1 Z (.int (cntF v)) h0 n0 _ T57.heap _
            rw [e57]
            exact ⟨by rw [cntF, if_neg hpos, cnt_14 (own_ge hc57_47 rfl) (own_lt hc57_59 rfl)], N0, rfl⟩
        · have pre61 : ∀ t, Steps p.tables e below (T57.setTop (mkF m 75 #[.val (.long v), .second, .val (.int (15 : Int32)), .val (.int (15 : Int32)), .val (.int (14 : Int32))] [(.int (15 : Int32))])) t → Steps p.tables e below (s₁.setTop (entryFrame m #[(.long v)] 5)) t := by
            intro t kt
            refine pre58 _ ?_
            show Steps p.tables e below (T57.setTop (mkF m 57 #[.val (.long v), .second, .val (.int (14 : Int32)), .val (.int (15 : Int32)), .val (.int (14 : Int32))] [(.int (XT.cmpL v (100000000000000 : Int64)))])) _
            refine XS.ifNo X57.here hx rfl (hb hby d5_57) rfl (XT.ll_lt_f hc57_59) ?_
            show Steps p.tables e below (T57.setTop (mkF m 60 #[.val (.long v), .second, .val (.int (14 : Int32)), .val (.int (15 : Int32)), .val (.int (14 : Int32))] [])) _
            refine XS.iload X57.here hx rfl (hb hby d5_60) rfl ?_
            show Steps p.tables e below (T57.setTop (mkF m 62 #[.val (.long v), .second, .val (.int (14 : Int32)), .val (.int (15 : Int32)), .val (.int (14 : Int32))] [(.int (14 : Int32))])) _
            refine XS.iconst X57.here hx rfl (hb hby d5_62) ?_
            show Steps p.tables e below (T57.setTop (mkF m 63 #[.val (.long v), .second, .val (.int (14 : Int32)), .val (.int (15 : Int32)), .val (.int (14 : Int32))] [(.int (1 : Int32)), (.int (14 : Int32))])) _
            refine XS.iadd X57.here hx rfl (hb hby d5_63) rfl ?_
            rw [show ((14 : Int32) + (1 : Int32)) = (15 : Int32) from rfl]
            show Steps p.tables e below (T57.setTop (mkF m 64 #[.val (.long v), .second, .val (.int (14 : Int32)), .val (.int (15 : Int32)), .val (.int (14 : Int32))] [(.int (15 : Int32))])) _
            refine XS.istoreN X57.here hx rfl (hb hby d5_64) rfl (l' := #[.val (.long v), .second, .val (.int (15 : Int32)), .val (.int (15 : Int32)), .val (.int (14 : Int32))]) rfl ?_
            show Steps p.tables e below (T57.setTop (mkF m 65 #[.val (.long v), .second, .val (.int (15 : Int32)), .val (.int (15 : Int32)), .val (.int (14 : Int32))] [])) _
            refine XS.goto X57.here hx rfl (pc0 := 65) (pc' := 71) rfl (hb hby d5_65) (by decide) (by decide) ?_
            show Steps p.tables e below (T57.setTop (mkF m 71 #[.val (.long v), .second, .val (.int (15 : Int32)), .val (.int (15 : Int32)), .val (.int (14 : Int32))] [])) _
            refine XS.goto X57.here hx rfl (pc0 := 71) (pc' := 37) rfl (hb hby d5_71) (by decide) (by decide) ?_
            show Steps p.tables e below (T57.setTop (mkF m 37 #[.val (.long v), .second, .val (.int (15 : Int32)), .val (.int (15 : Int32)), .val (.int (14 : Int32))] [])) _
            refine XS.iloadN X57.here hx rfl (hb hby d5_37) rfl ?_
            show Steps p.tables e below (T57.setTop (mkF m 38 #[.val (.long v), .second, .val (.int (15 : Int32)), .val (.int (15 : Int32)), .val (.int (14 : Int32))] [(.int (15 : Int32))])) _
            refine XS.iloadN X57.here hx rfl (hb hby d5_38) rfl ?_
            show Steps p.tables e below (T57.setTop (mkF m 39 #[.val (.long v), .second, .val (.int (15 : Int32)), .val (.int (15 : Int32)), .val (.int (14 : Int32))] [(.int (15 : Int32)), (.int (15 : Int32))])) _
            refine XS.icmpYes X57.here hx rfl (pc0 := 39) (pc' := 74) rfl (hb hby d5_39) rfl (XT.ii_ge_t (by decide)) (by decide) (by decide) ?_
            show Steps p.tables e below (T57.setTop (mkF m 74 #[.val (.long v), .second, .val (.int (15 : Int32)), .val (.int (15 : Int32)), .val (.int (14 : Int32))] [])) _
            refine XS.iloadN X57.here hx rfl (hb hby d5_74) rfl ?_
            exact kt
          obtain ⟨fs, hr, hrun, hended, hW, hsame⟩ := X57.leave (v := some (.int (15 : Int32))) (fun h => by rw [Bd.returns] at h; cases h)
          refine ⟨_, _, pre61 _ ?_, hrun, hended, _, _, rfl, ?_, ⟨_, rfl⟩, hW, hsame.mono (by decide) (by decide)⟩
          · show Steps p.tables e below (T57.setTop (mkF m 75 #[.val (.long v), .second, .val (.int (15 : Int32)), .val (.int (15 : Int32)), .val (.int (14 : Int32))] [(.int (15 : Int32))])) _
            exact retI X57 hx Bd.returns (hb hby d5_75) hr
          · show Q1 Z (.int (cntF v)) h0 n0 _ T57.heap _
            rw [e57]
            exact ⟨by rw [cntF, if_neg hpos, cnt_15 (own_ge hc57_59 rfl) (own_lt hc57_44 rfl)], N0, rfl⟩
    · obtain ⟨T62, X62, e62, st62⟩ := getS2 X42 hx hZ hown (host := "") (Or.inl (hw _ (List.mem_of_getElem? (i := 4) rfl))) Via.refl e42 S_P (g := (mkF m 50 #[.val (.long v), .second, .val (.int (16 : Int32)), .val (.int (19 : Int32)), .val (.int (17 : Int32))] [(.long v)])) rfl (hb hby d5_50)
      have pre63 : ∀ t, Steps p.tables e below (T62.setTop (mkF m 57 #[.val (.long v), .second, .val (.int (16 : Int32)), .val (.int (19 : Int32)), .val (.int (17 : Int32))] [(.int (XT.cmpL v (100000000000000000 : Int64)))])) t → Steps p.tables e below (s₁.setTop (entryFrame m #[(.long v)] 5)) t := by
        intro t kt
        refine pre43 _ ?_
        show Steps p.tables e below (T42.setTop (mkF m 57 #[.val (.long v), .second, .val (.int (11 : Int32)), .val (.int (19 : Int32)), .val (.int (15 : Int32))] [(.int (XT.cmpL v (1000000000000000 : Int64)))])) _
        refine XS.ifNo X42.here hx rfl (hb hby d5_57) rfl (XT.ll_lt_f hc57_44) ?_
        show Steps p.tables e below (T42.setTop (mkF m 60 #[.val (.long v), .second, .val (.int (11 : Int32)), .val (.int (19 : Int32)), .val (.int (15 : Int32))] [])) _
        refine XS.iload X42.here hx rfl (hb hby d5_60) rfl ?_
        show Steps p.tables e below (T42.setTop (mkF m 62 #[.val (.long v), .second, .val (.int (11 : Int32)), .val (.int (19 : Int32)), .val (.int (15 : Int32))] [(.int (15 : Int32))])) _
        refine XS.iconst X42.here hx rfl (hb hby d5_62) ?_
        show Steps p.tables e below (T42.setTop (mkF m 63 #[.val (.long v), .second, .val (.int (11 : Int32)), .val (.int (19 : Int32)), .val (.int (15 : Int32))] [(.int (1 : Int32)), (.int (15 : Int32))])) _
        refine XS.iadd X42.here hx rfl (hb hby d5_63) rfl ?_
        rw [show ((15 : Int32) + (1 : Int32)) = (16 : Int32) from rfl]
        show Steps p.tables e below (T42.setTop (mkF m 64 #[.val (.long v), .second, .val (.int (11 : Int32)), .val (.int (19 : Int32)), .val (.int (15 : Int32))] [(.int (16 : Int32))])) _
        refine XS.istoreN X42.here hx rfl (hb hby d5_64) rfl (l' := #[.val (.long v), .second, .val (.int (16 : Int32)), .val (.int (19 : Int32)), .val (.int (15 : Int32))]) rfl ?_
        show Steps p.tables e below (T42.setTop (mkF m 65 #[.val (.long v), .second, .val (.int (16 : Int32)), .val (.int (19 : Int32)), .val (.int (15 : Int32))] [])) _
        refine XS.goto X42.here hx rfl (pc0 := 65) (pc' := 71) rfl (hb hby d5_65) (by decide) (by decide) ?_
        show Steps p.tables e below (T42.setTop (mkF m 71 #[.val (.long v), .second, .val (.int (16 : Int32)), .val (.int (19 : Int32)), .val (.int (15 : Int32))] [])) _
        refine XS.goto X42.here hx rfl (pc0 := 71) (pc' := 37) rfl (hb hby d5_71) (by decide) (by decide) ?_
        show Steps p.tables e below (T42.setTop (mkF m 37 #[.val (.long v), .second, .val (.int (16 : Int32)), .val (.int (19 : Int32)), .val (.int (15 : Int32))] [])) _
        refine XS.iloadN X42.here hx rfl (hb hby d5_37) rfl ?_
        show Steps p.tables e below (T42.setTop (mkF m 38 #[.val (.long v), .second, .val (.int (16 : Int32)), .val (.int (19 : Int32)), .val (.int (15 : Int32))] [(.int (16 : Int32))])) _
        refine XS.iloadN X42.here hx rfl (hb hby d5_38) rfl ?_
        show Steps p.tables e below (T42.setTop (mkF m 39 #[.val (.long v), .second, .val (.int (16 : Int32)), .val (.int (19 : Int32)), .val (.int (15 : Int32))] [(.int (19 : Int32)), (.int (16 : Int32))])) _
        refine XS.icmpNo X42.here hx rfl (hb hby d5_39) rfl (XT.ii_ge_f (by decide)) ?_
        show Steps p.tables e below (T42.setTop (mkF m 42 #[.val (.long v), .second, .val (.int (16 : Int32)), .val (.int (19 : Int32)), .val (.int (15 : Int32))] [])) _
        refine XS.iloadN X42.here hx rfl (hb hby d5_42) rfl ?_
        show Steps p.tables e below (T42.setTop (mkF m 43 #[.val (.long v), .second, .val (.int (16 : Int32)), .val (.int (19 : Int32)), .val (.int (15 : Int32))] [(.int (16 : Int32))])) _
        refine XS.iloadN X42.here hx rfl (hb hby d5_43) rfl ?_
        show Steps p.tables e below (T42.setTop (mkF m 44 #[.val (.long v), .second, .val (.int (16 : Int32)), .val (.int (19 : Int32)), .val (.int (15 : Int32))] [(.int (19 : Int32)), (.int (16 : Int32))])) _
        refine XS.iadd X42.here hx rfl (hb hby d5_44) rfl ?_
        rw [show ((16 : Int32) + (19 : Int32)) = (35 : Int32) from rfl]
        show Steps p.tables e below (T42.setTop (mkF m 45 #[.val (.long v), .second, .val (.int (16 : Int32)), .val (.int (19 : Int32)), .val (.int (15 : Int32))] [(.int (35 : Int32))])) _
        refine XS.iconst X42.here hx rfl (hb hby d5_45) ?_
        show Steps p.tables e below (T42.setTop (mkF m 46 #[.val (.long v), .second, .val (.int (16 : Int32)), .val (.int (19 : Int32)), .val (.int (15 : Int32))] [(.int (1 : Int32)), (.int (35 : Int32))])) _
        refine XT.iushr X42.here hx rfl (hb hby d5_46) rfl ?_
        rw [show XT.ushr (35 : Int32) (1 : Int32) = (17 : Int32) from by decide]
        show Steps p.tables e below (T42.setTop (mkF m 47 #[.val (.long v), .second, .val (.int (16 : Int32)), .val (.int (19 : Int32)), .val (.int (15 : Int32))] [(.int (17 : Int32))])) _
        refine XS.istore X42.here hx rfl (hb hby d5_47) rfl (l' := #[.val (.long v), .second, .val (.int (16 : Int32)), .val (.int (19 : Int32)), .val (.int (17 : Int32))]) rfl ?_
        show Steps p.tables e below (T42.setTop (mkF m 49 #[.val (.long v), .second, .val (.int (16 : Int32)), .val (.int (19 : Int32)), .val (.int (17 : Int32))] [])) _
        refine XS.lloadN X42.here hx rfl (hb hby d5_49) rfl ?_
        show Steps p.tables e below (T42.setTop (mkF m 50 #[.val (.long v), .second, .val (.int (16 : Int32)), .val (.int (19 : Int32)), .val (.int (17 : Int32))] [(.long v)])) _
        refine st62 _ ?_
        show Steps p.tables e below (T62.setTop (mkF m 53 #[.val (.long v), .second, .val (.int (16 : Int32)), .val (.int (19 : Int32)), .val (.int (17 : Int32))] [(.ref pa), (.long v)])) _
        refine XS.iload X62.here hx rfl (hb hby d5_53) rfl ?_
        show Steps p.tables e below (T62.setTop (mkF m 55 #[.val (.long v), .second, .val (.int (16 : Int32)), .val (.int (19 : Int32)), .val (.int (17 : Int32))] [(.int (17 : Int32)), (.ref pa), (.long v)])) _
        refine X62.laload hx (j := (17 : Int32)) (v := (.long (100000000000000000 : Int64))) (by rw [e62]; exact Ar.1) (State.isArrayOf_alike hZ.alike Ar.2.1) Ar.2.2 El17.1 El17.2 (g := (mkF m 55 #[.val (.long v), .second, .val (.int (16 : Int32)), .val (.int (19 : Int32)), .val (.int (17 : Int32))] [(.int (17 : Int32)), (.ref pa), (.long v)])) rfl rfl (hb hby d5_55) _ ?_
        show Steps p.tables e below (T62.setTop (mkF m 56 #[.val (.long v), .second, .val (.int (16 : Int32)), .val (.int (19 : Int32)), .val (.int (17 : Int32))] [(.long (100000000000000000 : Int64)), (.long v)])) _
        refine XT.lcmp X62.here hx rfl (hb hby d5_56) rfl ?_
        exact kt
      by_cases hc57_64 : v < (100000000000000000 : Int64)
      · obtain ⟨T65, X65, e65, st65⟩ := getS2 X62 hx hZ hown (host := "") (Or.inl (hw _ (List.mem_of_getElem? (i := 4) rfl))) Via.refl e62 S_P (g := (mkF m 50 #[.val (.long v), .second, .val (.int (16 : Int32)), .val (.int (17 : Int32)), .val (.int (16 : Int32))] [(.long v)])) rfl (hb hby d5_50)
        have pre66 : ∀ t, Steps p.tables e below (T65.setTop (mkF m 57 #[.val (.long v), .second, .val (.int (16 : Int32)), .val (.int (17 : Int32)), .val (.int (16 : Int32))] [(.int (XT.cmpL v (10000000000000000 : Int64)))])) t → Steps p.tables e below (s₁.setTop (entryFrame m #[(.long v)] 5)) t := by
          intro t kt
          refine pre63 _ ?_
          show Steps p.tables e below (T62.setTop (mkF m 57 #[.val (.long v), .second, .val (.int (16 : Int32)), .val (.int (19 : Int32)), .val (.int (17 : Int32))] [(.int (XT.cmpL v (100000000000000000 : Int64)))])) _
          refine XS.ifYes X62.here hx rfl (pc0 := 57) (pc' := 68) rfl (hb hby d5_57) rfl (XT.ll_lt_t hc57_64) (by decide) (by decide) ?_
          show Steps p.tables e below (T62.setTop (mkF m 68 #[.val (.long v), .second, .val (.int (16 : Int32)), .val (.int (19 : Int32)), .val (.int (17 : Int32))] [])) _
          refine XS.iload X62.here hx rfl (hb hby d5_68) rfl ?_
          show Steps p.tables e below (T62.setTop (mkF m 70 #[.val (.long v), .second, .val (.int (16 : Int32)), .val (.int (19 : Int32)), .val (.int (17 : Int32))] [(.int (17 : Int32))])) _
          refine XS.istoreN X62.here hx rfl (hb hby d5_70) rfl (l' := #[.val (.long v), .second, .val (.int (16 : Int32)), .val (.int (17 : Int32)), .val (.int (17 : Int32))]) rfl ?_
          show Steps p.tables e below (T62.setTop (mkF m 71 #[.val (.long v), .second, .val (.int (16 : Int32)), .val (.int (17 : Int32)), .val (.int (17 : Int32))] [])) _
          refine XS.goto X62.here hx rfl (pc0 := 71) (pc' := 37) rfl (hb hby d5_71) (by decide) (by decide) ?_
          show Steps p.tables e below (T62.setTop (mkF m 37 #[.val (.long v), .second, .val (.int (16 : Int32)), .val (.int (17 : Int32)), .val (.int (17 : Int32))] [])) _
          refine XS.iloadN X62.here hx rfl (hb hby d5_37) rfl ?_
          show Steps p.tables e below (T62.setTop (mkF m 38 #[.val (.long v), .second, .val (.int (16 : Int32)), .val (.int (17 : Int32)), .val (.int (17 : Int32))] [(.int (16 : Int32))])) _
          refine XS.iloadN X62.here hx rfl (hb hby d5_38) rfl ?_
          show Steps p.tables e below (T62.setTop (mkF m 39 #[.val (.long v), .second, .val (.int (16 : Int32)), .val (.int (17 : Int32)), .val (.int (17 : Int32))] [(.int (17 : Int32)), (.int (16 : Int32))])) _
          refine XS.icmpNo X62.here hx rfl (hb hby d5_39) rfl (XT.ii_ge_f (by decide)) ?_
          show Steps p.tables e below (T62.setTop (mkF m 42 #[.val (.long v), .second, .val (.int (16 : Int32)), .val (.int (17 : Int32)), .val (.int (17 : Int32))] [])) _
          refine XS.iloadN X62.here hx rfl (hb hby d5_42) rfl ?_
          show Steps p.tables e below (T62.setTop (mkF m 43 #[.val (.long v), .second, .val (.int (16 : Int32)), .val (.int (17 : Int32)), .val (.int (17 : Int32))] [(.int (16 : Int32))])) _
          refine XS.iloadN X62.here hx rfl (hb hby d5_43) rfl ?_
          show Steps p.tables e below (T62.setTop (mkF m 44 #[.val (.long v), .second, .val (.int (16 : Int32)), .val (.int (17 : Int32)), .val (.int (17 : Int32))] [(.int (17 : Int32)), (.int (16 : Int32))])) _
          refine XS.iadd X62.here hx rfl (hb hby d5_44) rfl ?_
          rw [show ((16 : Int32) + (17 : Int32)) = (33 : Int32) from rfl]
          show Steps p.tables e below (T62.setTop (mkF m 45 #[.val (.long v), .second, .val (.int (16 : Int32)), .val (.int (17 : Int32)), .val (.int (17 : Int32))] [(.int (33 : Int32))])) _
          refine XS.iconst X62.here hx rfl (hb hby d5_45) ?_
          show Steps p.tables e below (T62.setTop (mkF m 46 #[.val (.long v), .second, .val (.int (16 : Int32)), .val (.int (17 : Int32)), .val (.int (17 : Int32))] [(.int (1 : Int32)), (.int (33 : Int32))])) _
          refine XT.iushr X62.here hx rfl (hb hby d5_46) rfl ?_
          rw [show XT.ushr (33 : Int32) (1 : Int32) = (16 : Int32) from by decide]
          show Steps p.tables e below (T62.setTop (mkF m 47 #[.val (.long v), .second, .val (.int (16 : Int32)), .val (.int (17 : Int32)), .val (.int (17 : Int32))] [(.int (16 : Int32))])) _
          refine XS.istore X62.here hx rfl (hb hby d5_47) rfl (l' := #[.val (.long v), .second, .val (.int (16 : Int32)), .val (.int (17 : Int32)), .val (.int (16 : Int32))]) rfl ?_
          show Steps p.tables e below (T62.setTop (mkF m 49 #[.val (.long v), .second, .val (.int (16 : Int32)), .val (.int (17 : Int32)), .val (.int (16 : Int32))] [])) _
          refine XS.lloadN X62.here hx rfl (hb hby d5_49) rfl ?_
          show Steps p.tables e below (T62.setTop (mkF m 50 #[.val (.long v), .second, .val (.int (16 : Int32)), .val (.int (17 : Int32)), .val (.int (16 : Int32))] [(.long v)])) _
          refine st65 _ ?_
          show Steps p.tables e below (T65.setTop (mkF m 53 #[.val (.long v), .second, .val (.int (16 : Int32)), .val (.int (17 : Int32)), .val (.int (16 : Int32))] [(.ref pa), (.long v)])) _
          refine XS.iload X65.here hx rfl (hb hby d5_53) rfl ?_
          show Steps p.tables e below (T65.setTop (mkF m 55 #[.val (.long v), .second, .val (.int (16 : Int32)), .val (.int (17 : Int32)), .val (.int (16 : Int32))] [(.int (16 : Int32)), (.ref pa), (.long v)])) _
          refine X65.laload hx (j := (16 : Int32)) (v := (.long (10000000000000000 : Int64))) (by rw [e65]; exact Ar.1) (State.isArrayOf_alike hZ.alike Ar.2.1) Ar.2.2 El16.1 El16.2 (g := (mkF m 55 #[.val (.long v), .second, .val (.int (16 : Int32)), .val (.int (17 : Int32)), .val (.int (16 : Int32))] [(.int (16 : Int32)), (.ref pa), (.long v)])) rfl rfl (hb hby d5_55) _ ?_
          show Steps p.tables e below (T65.setTop (mkF m 56 #[.val (.long v), .second, .val (.int (16 : Int32)), .val (.int (17 : Int32)), .val (.int (16 : Int32))] [(.long (10000000000000000 : Int64)), (.long v)])) _
          refine XT.lcmp X65.here hx rfl (hb hby d5_56) rfl ?_
          exact kt
        by_cases hc57_67 : v < (10000000000000000 : Int64)
        · have pre68 : ∀ t, Steps p.tables e below (T65.setTop (mkF m 75 #[.val (.long v), .second, .val (.int (16 : Int32)), .val (.int (16 : Int32)), .val (.int (16 : Int32))] [(.int (16 : Int32))])) t → Steps p.tables e below (s₁.setTop (entryFrame m #[(.long v)] 5)) t := by
            intro t kt
            refine pre66 _ ?_
            show Steps p.tables e below (T65.setTop (mkF m 57 #[.val (.long v), .second, .val (.int (16 : Int32)), .val (.int (17 : Int32)), .val (.int (16 : Int32))] [(.int (XT.cmpL v (10000000000000000 : Int64)))])) _
            refine XS.ifYes X65.here hx rfl (pc0 := 57) (pc' := 68) rfl (hb hby d5_57) rfl (XT.ll_lt_t hc57_67) (by decide) (by decide) ?_
            show Steps p.tables e below (T65.setTop (mkF m 68 #[.val (.long v), .second, .val (.int (16 : Int32)), .val (.int (17 : Int32)), .val (.int (16 : Int32))] [])) _
            refine XS.iload X65.here hx rfl (hb hby d5_68) rfl ?_
            show Steps p.tables e below (T65.setTop (mkF m 70 #[.val (.long v), .second, .val (.int (16 : Int32)), .val (.int (17 : Int32)), .val (.int (16 : Int32))] [(.int (16 : Int32))])) _
            refine XS.istoreN X65.here hx rfl (hb hby d5_70) rfl (l' := #[.val (.long v), .second, .val (.int (16 : Int32)), .val (.int (16 : Int32)), .val (.int (16 : Int32))]) rfl ?_
            show Steps p.tables e below (T65.setTop (mkF m 71 #[.val (.long v), .second, .val (.int (16 : Int32)), .val (.int (16 : Int32)), .val (.int (16 : Int32))] [])) _
            refine XS.goto X65.here hx rfl (pc0 := 71) (pc' := 37) rfl (hb hby d5_71) (by decide) (by decide) ?_
            show Steps p.tables e below (T65.setTop (mkF m 37 #[.val (.long v), .second, .val (.int (16 : Int32)), .val (.int (16 : Int32)), .val (.int (16 : Int32))] [])) _
            refine XS.iloadN X65.here hx rfl (hb hby d5_37) rfl ?_
            show Steps p.tables e below (T65.setTop (mkF m 38 #[.val (.long v), .second, .val (.int (16 : Int32)), .val (.int (16 : Int32)), .val (.int (16 : Int32))] [(.int (16 : Int32))])) _
            refine XS.iloadN X65.here hx rfl (hb hby d5_38) rfl ?_
            show Steps p.tables e below (T65.setTop (mkF m 39 #[.val (.long v), .second, .val (.int (16 : Int32)), .val (.int (16 : Int32)), .val (.int (16 : Int32))] [(.int (16 : Int32)), (.int (16 : Int32))])) _
            refine XS.icmpYes X65.here hx rfl (pc0 := 39) (pc' := 74) rfl (hb hby d5_39) rfl (XT.ii_ge_t (by decide)) (by decide) (by decide) ?_
            show Steps p.tables e below (T65.setTop (mkF m 74 #[.val (.long v), .second, .val (.int (16 : Int32)), .val (.int (16 : Int32)), .val (.int (16 : Int32))] [])) _
            refine XS.iloadN X65.here hx rfl (hb hby d5_74) rfl ?_
            exact kt
          obtain ⟨fs, hr, hrun, hended, hW, hsame⟩ := X65.leave (v := some (.int (16 : Int32))) (fun h => by rw [Bd.returns] at h; cases h)
          refine ⟨_, _, pre68 _ ?_, hrun, hended, _, _, rfl, ?_, ⟨_, rfl⟩, hW, hsame.mono (by decide) (by decide)⟩
          · show Steps p.tables e below (T65.setTop (mkF m 75 #[.val (.long v), .second, .val (.int (16 : Int32)), .val (.int (16 : Int32)), .val (.int (16 : Int32))] [(.int (16 : Int32))])) _
            exact retI X65 hx Bd.returns (hb hby d5_75) hr
          · show Q1 Z (.int (cntF v)) h0 n0 _ T65.heap _
            rw [e65]
            exact ⟨by rw [cntF, if_neg hpos, cnt_16 (own_ge hc57_44 rfl) (own_lt hc57_67 rfl)], N0, rfl⟩
        · have pre69 : ∀ t, Steps p.tables e below (T65.setTop (mkF m 75 #[.val (.long v), .second, .val (.int (17 : Int32)), .val (.int (17 : Int32)), .val (.int (16 : Int32))] [(.int (17 : Int32))])) t → Steps p.tables e below (s₁.setTop (entryFrame m #[(.long v)] 5)) t := by
            intro t kt
            refine pre66 _ ?_
            show Steps p.tables e below (T65.setTop (mkF m 57 #[.val (.long v), .second, .val (.int (16 : Int32)), .val (.int (17 : Int32)), .val (.int (16 : Int32))] [(.int (XT.cmpL v (10000000000000000 : Int64)))])) _
            refine XS.ifNo X65.here hx rfl (hb hby d5_57) rfl (XT.ll_lt_f hc57_67) ?_
            show Steps p.tables e below (T65.setTop (mkF m 60 #[.val (.long v), .second, .val (.int (16 : Int32)), .val (.int (17 : Int32)), .val (.int (16 : Int32))] [])) _
            refine XS.iload X65.here hx rfl (hb hby d5_60) rfl ?_
            show Steps p.tables e below (T65.setTop (mkF m 62 #[.val (.long v), .second, .val (.int (16 : Int32)), .val (.int (17 : Int32)), .val (.int (16 : Int32))] [(.int (16 : Int32))])) _
            refine XS.iconst X65.here hx rfl (hb hby d5_62) ?_
            show Steps p.tables e below (T65.setTop (mkF m 63 #[.val (.long v), .second, .val (.int (16 : Int32)), .val (.int (17 : Int32)), .val (.int (16 : Int32))] [(.int (1 : Int32)), (.int (16 : Int32))])) _
            refine XS.iadd X65.here hx rfl (hb hby d5_63) rfl ?_
            rw [show ((16 : Int32) + (1 : Int32)) = (17 : Int32) from rfl]
            show Steps p.tables e below (T65.setTop (mkF m 64 #[.val (.long v), .second, .val (.int (16 : Int32)), .val (.int (17 : Int32)), .val (.int (16 : Int32))] [(.int (17 : Int32))])) _
            refine XS.istoreN X65.here hx rfl (hb hby d5_64) rfl (l' := #[.val (.long v), .second, .val (.int (17 : Int32)), .val (.int (17 : Int32)), .val (.int (16 : Int32))]) rfl ?_
            show Steps p.tables e below (T65.setTop (mkF m 65 #[.val (.long v), .second, .val (.int (17 : Int32)), .val (.int (17 : Int32)), .val (.int (16 : Int32))] [])) _
            refine XS.goto X65.here hx rfl (pc0 := 65) (pc' := 71) rfl (hb hby d5_65) (by decide) (by decide) ?_
            show Steps p.tables e below (T65.setTop (mkF m 71 #[.val (.long v), .second, .val (.int (17 : Int32)), .val (.int (17 : Int32)), .val (.int (16 : Int32))] [])) _
            refine XS.goto X65.here hx rfl (pc0 := 71) (pc' := 37) rfl (hb hby d5_71) (by decide) (by decide) ?_
            show Steps p.tables e below (T65.setTop (mkF m 37 #[.val (.long v), .second, .val (.int (17 : Int32)), .val (.int (17 : Int32)), .val (.int (16 : Int32))] [])) _
            refine XS.iloadN X65.here hx rfl (hb hby d5_37) rfl ?_
            show Steps p.tables e below (T65.setTop (mkF m 38 #[.val (.long v), .second, .val (.int (17 : Int32)), .val (.int (17 : Int32)), .val (.int (16 : Int32))] [(.int (17 : Int32))])) _
            refine XS.iloadN X65.here hx rfl (hb hby d5_38) rfl ?_
            show Steps p.tables e below (T65.setTop (mkF m 39 #[.val (.long v), .second, .val (.int (17 : Int32)), .val (.int (17 : Int32)), .val (.int (16 : Int32))] [(.int (17 : Int32)), (.int (17 : Int32))])) _
            refine XS.icmpYes X65.here hx rfl (pc0 := 39) (pc' := 74) rfl (hb hby d5_39) rfl (XT.ii_ge_t (by decide)) (by decide) (by decide) ?_
            show Steps p.tables e below (T65.setTop (mkF m 74 #[.val (.long v), .second, .val (.int (17 : Int32)), .val (.int (17 : Int32)), .val (.int (16 : Int32))] [])) _
            refine XS.iloadN X65.here hx rfl (hb hby d5_74) rfl ?_
            exact kt
          obtain ⟨fs, hr, hrun, hended, hW, hsame⟩ := X65.leave (v := some (.int (17 : Int32))) (fun h => by rw [Bd.returns] at h; cases h)
          refine ⟨_, _, pre69 _ ?_, hrun, hended, _, _, rfl, ?_, ⟨_, rfl⟩, hW, hsame.mono (by decide) (by decide)⟩
          · show Steps p.tables e below (T65.setTop (mkF m 75 #[.val (.long v), .second, .val (.int (17 : Int32)), .val (.int (17 : Int32)), .val (.int (16 : Int32))] [(.int (17 : Int32))])) _
            exact retI X65 hx Bd.returns (hb hby d5_75) hr
          · show Q1 Z (.int (cntF v)) h0 n0 _ T65.heap _
            rw [e65]
            exact ⟨by rw [cntF, if_neg hpos, cnt_17 (own_ge hc57_67 rfl) (own_lt hc57_64 rfl)], N0, rfl⟩
      · obtain ⟨T70, X70, e70, st70⟩ := getS2 X62 hx hZ hown (host := "") (Or.inl (hw _ (List.mem_of_getElem? (i := 4) rfl))) Via.refl e62 S_P (g := (mkF m 50 #[.val (.long v), .second, .val (.int (18 : Int32)), .val (.int (19 : Int32)), .val (.int (18 : Int32))] [(.long v)])) rfl (hb hby d5_50)
        have pre71 : ∀ t, Steps p.tables e below (T70.setTop (mkF m 57 #[.val (.long v), .second, .val (.int (18 : Int32)), .val (.int (19 : Int32)), .val (.int (18 : Int32))] [(.int (XT.cmpL v (1000000000000000000 : Int64)))])) t → Steps p.tables e below (s₁.setTop (entryFrame m #[(.long v)] 5)) t := by
          intro t kt
          refine pre63 _ ?_
          show Steps p.tables e below (T62.setTop (mkF m 57 #[.val (.long v), .second, .val (.int (16 : Int32)), .val (.int (19 : Int32)), .val (.int (17 : Int32))] [(.int (XT.cmpL v (100000000000000000 : Int64)))])) _
          refine XS.ifNo X62.here hx rfl (hb hby d5_57) rfl (XT.ll_lt_f hc57_64) ?_
          show Steps p.tables e below (T62.setTop (mkF m 60 #[.val (.long v), .second, .val (.int (16 : Int32)), .val (.int (19 : Int32)), .val (.int (17 : Int32))] [])) _
          refine XS.iload X62.here hx rfl (hb hby d5_60) rfl ?_
          show Steps p.tables e below (T62.setTop (mkF m 62 #[.val (.long v), .second, .val (.int (16 : Int32)), .val (.int (19 : Int32)), .val (.int (17 : Int32))] [(.int (17 : Int32))])) _
          refine XS.iconst X62.here hx rfl (hb hby d5_62) ?_
          show Steps p.tables e below (T62.setTop (mkF m 63 #[.val (.long v), .second, .val (.int (16 : Int32)), .val (.int (19 : Int32)), .val (.int (17 : Int32))] [(.int (1 : Int32)), (.int (17 : Int32))])) _
          refine XS.iadd X62.here hx rfl (hb hby d5_63) rfl ?_
          rw [show ((17 : Int32) + (1 : Int32)) = (18 : Int32) from rfl]
          show Steps p.tables e below (T62.setTop (mkF m 64 #[.val (.long v), .second, .val (.int (16 : Int32)), .val (.int (19 : Int32)), .val (.int (17 : Int32))] [(.int (18 : Int32))])) _
          refine XS.istoreN X62.here hx rfl (hb hby d5_64) rfl (l' := #[.val (.long v), .second, .val (.int (18 : Int32)), .val (.int (19 : Int32)), .val (.int (17 : Int32))]) rfl ?_
          show Steps p.tables e below (T62.setTop (mkF m 65 #[.val (.long v), .second, .val (.int (18 : Int32)), .val (.int (19 : Int32)), .val (.int (17 : Int32))] [])) _
          refine XS.goto X62.here hx rfl (pc0 := 65) (pc' := 71) rfl (hb hby d5_65) (by decide) (by decide) ?_
          show Steps p.tables e below (T62.setTop (mkF m 71 #[.val (.long v), .second, .val (.int (18 : Int32)), .val (.int (19 : Int32)), .val (.int (17 : Int32))] [])) _
          refine XS.goto X62.here hx rfl (pc0 := 71) (pc' := 37) rfl (hb hby d5_71) (by decide) (by decide) ?_
          show Steps p.tables e below (T62.setTop (mkF m 37 #[.val (.long v), .second, .val (.int (18 : Int32)), .val (.int (19 : Int32)), .val (.int (17 : Int32))] [])) _
          refine XS.iloadN X62.here hx rfl (hb hby d5_37) rfl ?_
          show Steps p.tables e below (T62.setTop (mkF m 38 #[.val (.long v), .second, .val (.int (18 : Int32)), .val (.int (19 : Int32)), .val (.int (17 : Int32))] [(.int (18 : Int32))])) _
          refine XS.iloadN X62.here hx rfl (hb hby d5_38) rfl ?_
          show Steps p.tables e below (T62.setTop (mkF m 39 #[.val (.long v), .second, .val (.int (18 : Int32)), .val (.int (19 : Int32)), .val (.int (17 : Int32))] [(.int (19 : Int32)), (.int (18 : Int32))])) _
          refine XS.icmpNo X62.here hx rfl (hb hby d5_39) rfl (XT.ii_ge_f (by decide)) ?_
          show Steps p.tables e below (T62.setTop (mkF m 42 #[.val (.long v), .second, .val (.int (18 : Int32)), .val (.int (19 : Int32)), .val (.int (17 : Int32))] [])) _
          refine XS.iloadN X62.here hx rfl (hb hby d5_42) rfl ?_
          show Steps p.tables e below (T62.setTop (mkF m 43 #[.val (.long v), .second, .val (.int (18 : Int32)), .val (.int (19 : Int32)), .val (.int (17 : Int32))] [(.int (18 : Int32))])) _
          refine XS.iloadN X62.here hx rfl (hb hby d5_43) rfl ?_
          show Steps p.tables e below (T62.setTop (mkF m 44 #[.val (.long v), .second, .val (.int (18 : Int32)), .val (.int (19 : Int32)), .val (.int (17 : Int32))] [(.int (19 : Int32)), (.int (18 : Int32))])) _
          refine XS.iadd X62.here hx rfl (hb hby d5_44) rfl ?_
          rw [show ((18 : Int32) + (19 : Int32)) = (37 : Int32) from rfl]
          show Steps p.tables e below (T62.setTop (mkF m 45 #[.val (.long v), .second, .val (.int (18 : Int32)), .val (.int (19 : Int32)), .val (.int (17 : Int32))] [(.int (37 : Int32))])) _
          refine XS.iconst X62.here hx rfl (hb hby d5_45) ?_
          show Steps p.tables e below (T62.setTop (mkF m 46 #[.val (.long v), .second, .val (.int (18 : Int32)), .val (.int (19 : Int32)), .val (.int (17 : Int32))] [(.int (1 : Int32)), (.int (37 : Int32))])) _
          refine XT.iushr X62.here hx rfl (hb hby d5_46) rfl ?_
          rw [show XT.ushr (37 : Int32) (1 : Int32) = (18 : Int32) from by decide]
          show Steps p.tables e below (T62.setTop (mkF m 47 #[.val (.long v), .second, .val (.int (18 : Int32)), .val (.int (19 : Int32)), .val (.int (17 : Int32))] [(.int (18 : Int32))])) _
          refine XS.istore X62.here hx rfl (hb hby d5_47) rfl (l' := #[.val (.long v), .second, .val (.int (18 : Int32)), .val (.int (19 : Int32)), .val (.int (18 : Int32))]) rfl ?_
          show Steps p.tables e below (T62.setTop (mkF m 49 #[.val (.long v), .second, .val (.int (18 : Int32)), .val (.int (19 : Int32)), .val (.int (18 : Int32))] [])) _
          refine XS.lloadN X62.here hx rfl (hb hby d5_49) rfl ?_
          show Steps p.tables e below (T62.setTop (mkF m 50 #[.val (.long v), .second, .val (.int (18 : Int32)), .val (.int (19 : Int32)), .val (.int (18 : Int32))] [(.long v)])) _
          refine st70 _ ?_
          show Steps p.tables e below (T70.setTop (mkF m 53 #[.val (.long v), .second, .val (.int (18 : Int32)), .val (.int (19 : Int32)), .val (.int (18 : Int32))] [(.ref pa), (.long v)])) _
          refine XS.iload X70.here hx rfl (hb hby d5_53) rfl ?_
          show Steps p.tables e below (T70.setTop (mkF m 55 #[.val (.long v), .second, .val (.int (18 : Int32)), .val (.int (19 : Int32)), .val (.int (18 : Int32))] [(.int (18 : Int32)), (.ref pa), (.long v)])) _
          refine X70.laload hx (j := (18 : Int32)) (v := (.long (1000000000000000000 : Int64))) (by rw [e70]; exact Ar.1) (State.isArrayOf_alike hZ.alike Ar.2.1) Ar.2.2 El18.1 El18.2 (g := (mkF m 55 #[.val (.long v), .second, .val (.int (18 : Int32)), .val (.int (19 : Int32)), .val (.int (18 : Int32))] [(.int (18 : Int32)), (.ref pa), (.long v)])) rfl rfl (hb hby d5_55) _ ?_
          show Steps p.tables e below (T70.setTop (mkF m 56 #[.val (.long v), .second, .val (.int (18 : Int32)), .val (.int (19 : Int32)), .val (.int (18 : Int32))] [(.long (1000000000000000000 : Int64)), (.long v)])) _
          refine XT.lcmp X70.here hx rfl (hb hby d5_56) rfl ?_
          exact kt
        by_cases hc57_72 : v < (1000000000000000000 : Int64)
        · have pre73 : ∀ t, Steps p.tables e below (T70.setTop (mkF m 75 #[.val (.long v), .second, .val (.int (18 : Int32)), .val (.int (18 : Int32)), .val (.int (18 : Int32))] [(.int (18 : Int32))])) t → Steps p.tables e below (s₁.setTop (entryFrame m #[(.long v)] 5)) t := by
            intro t kt
            refine pre71 _ ?_
            show Steps p.tables e below (T70.setTop (mkF m 57 #[.val (.long v), .second, .val (.int (18 : Int32)), .val (.int (19 : Int32)), .val (.int (18 : Int32))] [(.int (XT.cmpL v (1000000000000000000 : Int64)))])) _
            refine XS.ifYes X70.here hx rfl (pc0 := 57) (pc' := 68) rfl (hb hby d5_57) rfl (XT.ll_lt_t hc57_72) (by decide) (by decide) ?_
            show Steps p.tables e below (T70.setTop (mkF m 68 #[.val (.long v), .second, .val (.int (18 : Int32)), .val (.int (19 : Int32)), .val (.int (18 : Int32))] [])) _
            refine XS.iload X70.here hx rfl (hb hby d5_68) rfl ?_
            show Steps p.tables e below (T70.setTop (mkF m 70 #[.val (.long v), .second, .val (.int (18 : Int32)), .val (.int (19 : Int32)), .val (.int (18 : Int32))] [(.int (18 : Int32))])) _
            refine XS.istoreN X70.here hx rfl (hb hby d5_70) rfl (l' := #[.val (.long v), .second, .val (.int (18 : Int32)), .val (.int (18 : Int32)), .val (.int (18 : Int32))]) rfl ?_
            show Steps p.tables e below (T70.setTop (mkF m 71 #[.val (.long v), .second, .val (.int (18 : Int32)), .val (.int (18 : Int32)), .val (.int (18 : Int32))] [])) _
            refine XS.goto X70.here hx rfl (pc0 := 71) (pc' := 37) rfl (hb hby d5_71) (by decide) (by decide) ?_
            show Steps p.tables e below (T70.setTop (mkF m 37 #[.val (.long v), .second, .val (.int (18 : Int32)), .val (.int (18 : Int32)), .val (.int (18 : Int32))] [])) _
            refine XS.iloadN X70.here hx rfl (hb hby d5_37) rfl ?_
            show Steps p.tables e below (T70.setTop (mkF m 38 #[.val (.long v), .second, .val (.int (18 : Int32)), .val (.int (18 : Int32)), .val (.int (18 : Int32))] [(.int (18 : Int32))])) _
            refine XS.iloadN X70.here hx rfl (hb hby d5_38) rfl ?_
            show Steps p.tables e below (T70.setTop (mkF m 39 #[.val (.long v), .second, .val (.int (18 : Int32)), .val (.int (18 : Int32)), .val (.int (18 : Int32))] [(.int (18 : Int32)), (.int (18 : Int32))])) _
            refine XS.icmpYes X70.here hx rfl (pc0 := 39) (pc' := 74) rfl (hb hby d5_39) rfl (XT.ii_ge_t (by decide)) (by decide) (by decide) ?_
            show Steps p.tables e below (T70.setTop (mkF m 74 #[.val (.long v), .second, .val (.int (18 : Int32)), .val (.int (18 : Int32)), .val (.int (18 : Int32))] [])) _
            refine XS.iloadN X70.here hx rfl (hb hby d5_74) rfl ?_
            exact kt
          obtain ⟨fs, hr, hrun, hended, hW, hsame⟩ := X70.leave (v := some (.int (18 : Int32))) (fun h => by rw [Bd.returns] at h; cases h)
          refine ⟨_, _, pre73 _ ?_, hrun, hended, _, _, rfl, ?_, ⟨_, rfl⟩, hW, hsame.mono (by decide) (by decide)⟩
          · show Steps p.tables e below (T70.setTop (mkF m 75 #[.val (.long v), .second, .val (.int (18 : Int32)), .val (.int (18 : Int32)), .val (.int (18 : Int32))] [(.int (18 : Int32))])) _
            exact retI X70 hx Bd.returns (hb hby d5_75) hr
          · show Q1 Z (.int (cntF v)) h0 n0 _ T70.heap _
            rw [e70]
            exact ⟨by rw [cntF, if_neg hpos, cnt_18 (own_ge hc57_64 rfl) (own_lt hc57_72 rfl)], N0, rfl⟩
        · have pre74 : ∀ t, Steps p.tables e below (T70.setTop (mkF m 75 #[.val (.long v), .second, .val (.int (19 : Int32)), .val (.int (19 : Int32)), .val (.int (18 : Int32))] [(.int (19 : Int32))])) t → Steps p.tables e below (s₁.setTop (entryFrame m #[(.long v)] 5)) t := by
            intro t kt
            refine pre71 _ ?_
            show Steps p.tables e below (T70.setTop (mkF m 57 #[.val (.long v), .second, .val (.int (18 : Int32)), .val (.int (19 : Int32)), .val (.int (18 : Int32))] [(.int (XT.cmpL v (1000000000000000000 : Int64)))])) _
            refine XS.ifNo X70.here hx rfl (hb hby d5_57) rfl (XT.ll_lt_f hc57_72) ?_
            show Steps p.tables e below (T70.setTop (mkF m 60 #[.val (.long v), .second, .val (.int (18 : Int32)), .val (.int (19 : Int32)), .val (.int (18 : Int32))] [])) _
            refine XS.iload X70.here hx rfl (hb hby d5_60) rfl ?_
            show Steps p.tables e below (T70.setTop (mkF m 62 #[.val (.long v), .second, .val (.int (18 : Int32)), .val (.int (19 : Int32)), .val (.int (18 : Int32))] [(.int (18 : Int32))])) _
            refine XS.iconst X70.here hx rfl (hb hby d5_62) ?_
            show Steps p.tables e below (T70.setTop (mkF m 63 #[.val (.long v), .second, .val (.int (18 : Int32)), .val (.int (19 : Int32)), .val (.int (18 : Int32))] [(.int (1 : Int32)), (.int (18 : Int32))])) _
            refine XS.iadd X70.here hx rfl (hb hby d5_63) rfl ?_
            rw [show ((18 : Int32) + (1 : Int32)) = (19 : Int32) from rfl]
            show Steps p.tables e below (T70.setTop (mkF m 64 #[.val (.long v), .second, .val (.int (18 : Int32)), .val (.int (19 : Int32)), .val (.int (18 : Int32))] [(.int (19 : Int32))])) _
            refine XS.istoreN X70.here hx rfl (hb hby d5_64) rfl (l' := #[.val (.long v), .second, .val (.int (19 : Int32)), .val (.int (19 : Int32)), .val (.int (18 : Int32))]) rfl ?_
            show Steps p.tables e below (T70.setTop (mkF m 65 #[.val (.long v), .second, .val (.int (19 : Int32)), .val (.int (19 : Int32)), .val (.int (18 : Int32))] [])) _
            refine XS.goto X70.here hx rfl (pc0 := 65) (pc' := 71) rfl (hb hby d5_65) (by decide) (by decide) ?_
            show Steps p.tables e below (T70.setTop (mkF m 71 #[.val (.long v), .second, .val (.int (19 : Int32)), .val (.int (19 : Int32)), .val (.int (18 : Int32))] [])) _
            refine XS.goto X70.here hx rfl (pc0 := 71) (pc' := 37) rfl (hb hby d5_71) (by decide) (by decide) ?_
            show Steps p.tables e below (T70.setTop (mkF m 37 #[.val (.long v), .second, .val (.int (19 : Int32)), .val (.int (19 : Int32)), .val (.int (18 : Int32))] [])) _
            refine XS.iloadN X70.here hx rfl (hb hby d5_37) rfl ?_
            show Steps p.tables e below (T70.setTop (mkF m 38 #[.val (.long v), .second, .val (.int (19 : Int32)), .val (.int (19 : Int32)), .val (.int (18 : Int32))] [(.int (19 : Int32))])) _
            refine XS.iloadN X70.here hx rfl (hb hby d5_38) rfl ?_
            show Steps p.tables e below (T70.setTop (mkF m 39 #[.val (.long v), .second, .val (.int (19 : Int32)), .val (.int (19 : Int32)), .val (.int (18 : Int32))] [(.int (19 : Int32)), (.int (19 : Int32))])) _
            refine XS.icmpYes X70.here hx rfl (pc0 := 39) (pc' := 74) rfl (hb hby d5_39) rfl (XT.ii_ge_t (by decide)) (by decide) (by decide) ?_
            show Steps p.tables e below (T70.setTop (mkF m 74 #[.val (.long v), .second, .val (.int (19 : Int32)), .val (.int (19 : Int32)), .val (.int (18 : Int32))] [])) _
            refine XS.iloadN X70.here hx rfl (hb hby d5_74) rfl ?_
            exact kt
          obtain ⟨fs, hr, hrun, hended, hW, hsame⟩ := X70.leave (v := some (.int (19 : Int32))) (fun h => by rw [Bd.returns] at h; cases h)
          refine ⟨_, _, pre74 _ ?_, hrun, hended, _, _, rfl, ?_, ⟨_, rfl⟩, hW, hsame.mono (by decide) (by decide)⟩
          · show Steps p.tables e below (T70.setTop (mkF m 75 #[.val (.long v), .second, .val (.int (19 : Int32)), .val (.int (19 : Int32)), .val (.int (18 : Int32))] [(.int (19 : Int32))])) _
            exact retI X70 hx Bd.returns (hb hby d5_75) hr
          · show Q1 Z (.int (cntF v)) h0 n0 _ T70.heap _
            rw [e70]
            exact ⟨by rw [cntF, if_neg hpos, cnt_19 (own_ge hc57_72 rfl)], N0, rfl⟩
theorem own_hb {v : Int64} (h : v < 0) : ¬ bef v < (0 : Int64) := fun q => by
  have h0 : v.toInt < 0 := Int64.lt_iff_toInt_lt.mp h
  have h1 := own_bef h
  have h2 : (bef v).toInt < 0 := Int64.lt_iff_toInt_lt.mp q
  omega
theorem rm6 (l : Launch) (Z : State) (a0 : Array Value) (hw : ∀ d ∈ tables_1, d.before a0 Z = true) (ws : List Jvm.Cond) (v : Int64) (pa : Addr) (cl : Cell) (h0 : Heap) (n0 : Nat) (Z0 : n0 ≤ h0.size) (S_P : Sta Z h0 "crestline/WholeDigits" "POWERS_OF_TEN" "[J" (.ref pa)) (Ar : Arr Z h0 pa cl .long) (hlen : cl.slots.size.toInt32 = 19) (El1 : ElJ cl 1 10) (El2 : ElJ cl 2 100) (El3 : ElJ cl 3 1000) (El4 : ElJ cl 4 10000) (El5 : ElJ cl 5 100000) (El6 : ElJ cl 6 1000000) (El7 : ElJ cl 7 10000000) (El8 : ElJ cl 8 100000000) (El9 : ElJ cl 9 1000000000) (El10 : ElJ cl 10 10000000000) (El11 : ElJ cl 11 100000000000) (El12 : ElJ cl 12 1000000000000) (El13 : ElJ cl 13 10000000000000) (El14 : ElJ cl 14 100000000000000) (El15 : ElJ cl 15 1000000000000000) (El16 : ElJ cl 16 10000000000000000) (El17 : ElJ cl 17 100000000000000000) (El18 : ElJ cl 18 1000000000000000000) :
    MetFree l (⟨"crestline/WholeDigits", "count", "(J)I"⟩ : MethodName) (head1 (Jvm.Cond.code (⟨"crestline/WholeDigits", "count", "(J)I"⟩ : MethodName) prog_75_method_2_code 5 (some .int) :: ws) ({ frames := 1, cells := 0, slots := 0, locals := 17 } : Room)) (fun a U => a = #[(.long v)] ∧ Z.Warmed39 U.vm ∧ U.heap = h0) (fun _ _ _ _ _ => True) (fun _ U o U' => ∃ v_ L, o = .returned v_ ∧ Q1 Z (.int (cntF v)) h0 n0 v_ U'.heap L ∧ FrameEnd U o U' L ({ frames := 1, cells := 0, slots := 0, locals := 17 } : Room).cells ({ frames := 1, cells := 0, slots := 0, locals := 17 } : Room).slots) := by
  by_cases h : v < 0
  · exact rm4 l Z a0 hw ws v pa cl h0 n0 Z0 S_P Ar hlen El1 El2 El3 El4 El5 El6 El7 El8 El9 El10 El11 El12 El13 El14 El15 El16 El17 El18 h (own_hb h)
  · exact rm5 l Z a0 hw ws v pa cl h0 n0 Z0 S_P Ar hlen El1 El2 El3 El4 El5 El6 El7 El8 El9 El10 El11 El12 El13 El14 El15 El16 El17 El18 h
theorem own_mod19 (x : Int32) : ¬ ((x &&& (2147483647 : Int32)) % (19 : Int32)) < 0 ∧ ((x &&& (2147483647 : Int32)) % (19 : Int32)) < (19 : Int32) := by
  have h0 := c_and x (2147483647 : Int32) (by decide)
  have h1 := (c_irem (x &&& (2147483647 : Int32)) 19 19 rfl).1 h0.1
  rw [Int32.lt_iff_toInt_lt, Int32.lt_iff_toInt_lt, h1]
  have e0 : (0 : Int32).toInt = 0 := rfl
  have e1 : (19 : Int32).toInt = 19 := rfl
  omega
def Q0 (Z : State) (h0 : Heap) (n0 : Nat) (v : Option Value) (h : Heap) (L : List Loc) : Prop := v = some (.int 1) ∧ Fr n0 L
theorem pn0 : plainName "crestline/WholeDigitsCountPinLaw" = true := by first | (simp [plainName, overriddenIn]; done) | decide +kernel
theorem pd0_0 : parseMethodDescriptor "(J)I" = some ⟨[.long], some .int⟩ := by decide +kernel
theorem ef0 (m : MethodId) (x0 : Int64) (x1 : Int32) (x2 : Int32) (x3 : Int32) : entryFrame m #[(.long x0), (.int x1), (.int x2), (.int x3)] maxLocals = mkF m 0 #[.val (.long x0), .second, .val (.int x1), .val (.int x2), .val (.int x3), .unset, .unset, .unset, .unset, .unset, .unset] [] := by first | (simp [entryFrame, mkF, argsToLocals, Value.category, maxLocals]; done) | rfl
set_option maxRecDepth 65536 in
set_option maxHeartbeats 40000000 in
theorem rm0 (l : Launch) (Z : State) (a0 : Array Value) (hw : ∀ d ∈ tables_1, d.before a0 Z = true) (ws : List Jvm.Cond) (px : Int64) (ps pk pm : Int32) (pa : Addr) (cl : Cell) (h0 : Heap) (n0 : Nat) (Z0 : n0 ≤ h0.size) (S_P : Sta Z h0 "crestline/WholeDigits" "POWERS_OF_TEN" "[J" (.ref pa)) (Ar : Arr Z h0 pa cl .long) (hlen : cl.slots.size.toInt32 = 19) (El1 : ElJ cl 1 10) (El2 : ElJ cl 2 100) (El3 : ElJ cl 3 1000) (El4 : ElJ cl 4 10000) (El5 : ElJ cl 5 100000) (El6 : ElJ cl 6 1000000) (El7 : ElJ cl 7 10000000) (El8 : ElJ cl 8 100000000) (El9 : ElJ cl 9 1000000000) (El10 : ElJ cl 10 10000000000) (El11 : ElJ cl 11 100000000000) (El12 : ElJ cl 12 1000000000000) (El13 : ElJ cl 13 10000000000000) (El14 : ElJ cl 14 100000000000000) (El15 : ElJ cl 15 1000000000000000) (El16 : ElJ cl 16 10000000000000000) (El17 : ElJ cl 17 100000000000000000) (El18 : ElJ cl 18 1000000000000000000) :
    MetFree l x (head1 (Jvm.Cond.code x code maxLocals ret :: ws) room_1) (fun aa_ U => aa_ = #[(.long px), (.int ps), (.int pk), (.int pm)] ∧ Z.Warmed39 U.vm ∧ U.heap = h0) (fun _ _ _ _ _ => True) (fun _ U o U' => ∃ vv_ LL_, o = .returned vv_ ∧ Q0 Z h0 n0 vv_ U'.heap LL_ ∧ FrameEnd U o U' LL_ room_1.cells room_1.slots) := by
  refine MetFree.of_bodySF (plainFor_of_name pn0) hisR ?_
  intro p e s m args below meth c s₁ Bd hml0 hP hK
  obtain ⟨rfl, hZ, hh⟩ := hP
  have hx := Bd.exec
  have hby := Bd.bytes
  have hml : c.maxLocals = 11 := hml0
  have hown : s.vm.findClass "crestline/WholeDigitsCountPinLaw" = some m.cls := findClass_of_methodNamed Bd.named
  have hnm := (name_of_methodNamed Bd.named Bd.method).1
  have X0 : Stand p l e room_1 s m #[(.long px), (.int ps), (.int pk), (.int pm)] below meth c s₁ [] 0 0 := Stand.of_body Bd
  have e0 : s₁.heap = h0 := by rw [← hh, Bd.state]; rfl
  have N0 := Fr.nil n0
  have pre0 : ∀ t, Steps p.tables e below (s₁.setTop (mkF m 0 #[.val (.long px), .second, .val (.int ps), .val (.int pk), .val (.int pm), .unset, .unset, .unset, .unset, .unset, .unset] [])) t → Steps p.tables e below (s₁.setTop (entryFrame m #[(.long px), (.int ps), (.int pk), (.int pm)] maxLocals)) t := fun t kt => castTop (ef0 m px ps pk pm) kt
  have pre1 : ∀ t, Steps p.tables e below (s₁.setTop (mkF m 8 #[.val (.long px), .second, .val (.int ps), .val (.int pk), .val (.int pm), .unset, .unset, .val (.int (pm &&& (3 : Int32))), .unset, .unset, .unset] [(.int (pm &&& (3 : Int32)))])) t → Steps p.tables e below (s₁.setTop (entryFrame m #[(.long px), (.int ps), (.int pk), (.int pm)] maxLocals)) t := by
    intro t kt
    refine pre0 _ ?_
    show Steps p.tables e below (s₁.setTop (mkF m 0 #[.val (.long px), .second, .val (.int ps), .val (.int pk), .val (.int pm), .unset, .unset, .unset, .unset, .unset, .unset] [])) _
    refine XS.iload X0.here hx rfl (hb hby at_0) rfl ?_
    show Steps p.tables e below (s₁.setTop (mkF m 2 #[.val (.long px), .second, .val (.int ps), .val (.int pk), .val (.int pm), .unset, .unset, .unset, .unset, .unset, .unset] [(.int pm)])) _
    refine XS.iconst X0.here hx rfl (hb hby at_2) ?_
    show Steps p.tables e below (s₁.setTop (mkF m 3 #[.val (.long px), .second, .val (.int ps), .val (.int pk), .val (.int pm), .unset, .unset, .unset, .unset, .unset, .unset] [(.int (3 : Int32)), (.int pm)])) _
    refine XS.iand X0.here hx rfl (hb hby at_3) rfl ?_
    show Steps p.tables e below (s₁.setTop (mkF m 4 #[.val (.long px), .second, .val (.int ps), .val (.int pk), .val (.int pm), .unset, .unset, .unset, .unset, .unset, .unset] [(.int (pm &&& (3 : Int32)))])) _
    refine XS.istore X0.here hx rfl (hb hby at_4) rfl (l' := #[.val (.long px), .second, .val (.int ps), .val (.int pk), .val (.int pm), .unset, .unset, .val (.int (pm &&& (3 : Int32))), .unset, .unset, .unset]) rfl ?_
    show Steps p.tables e below (s₁.setTop (mkF m 6 #[.val (.long px), .second, .val (.int ps), .val (.int pk), .val (.int pm), .unset, .unset, .val (.int (pm &&& (3 : Int32))), .unset, .unset, .unset] [])) _
    refine XS.iload X0.here hx rfl (hb hby at_6) rfl ?_
    exact kt
  by_cases hc8_2 : (pm &&& (3 : Int32)) = (0 : Int32)
  · obtain ⟨_, _, ⟨T3, L3, k3, n3⟩, -, X3, ⟨Lc3, hQ3, l3, y3, z3⟩, st3⟩ := Jvm.LawKit.callS X0 hx (y := (⟨"crestline/WholeDigits", "count", "(J)I"⟩ : MethodName)) hown (mvT hZ (hw _ (List.mem_of_getElem? (i := 0) rfl))) (mvT hZ (hw _ (List.mem_of_getElem? (i := 1) rfl))) (mvT hZ (hw _ (List.mem_of_getElem? (i := 2) rfl))) (mvT hZ (hw _ (List.mem_of_getElem? (i := 3) rfl))) (by decide) (backOf (W := 0) (rm6 l Z a0 hw [] (px >>> ((ps &&& (63 : Int32)) &&& 0x3f).toInt64) pa cl h0 n0 Z0 S_P Ar hlen El1 El2 El3 El4 El5 El6 El7 El8 El9 El10 El11 El12 El13 El14 El15 El16 El17 El18) hZ (hw _ (List.mem_of_getElem? (i := 3) rfl)) (hw _ (List.mem_of_getElem? (i := 2) rfl)) (by decide) (by decide)) (g := (mkF m 231 #[.val (.long px), .second, .val (.int ps), .val (.int pk), .val (.int pm), .val (.long (px >>> ((ps &&& (63 : Int32)) &&& 0x3f).toInt64)), .second, .val (.int (pm &&& (3 : Int32))), .unset, .unset, .unset] [(.long (px >>> ((ps &&& (63 : Int32)) &&& 0x3f).toInt64))])) rfl (by rw [hml]; rfl) (argsL := [(.long (px >>> ((ps &&& (63 : Int32)) &&& 0x3f).toInt64))]) (rest := []) (lenOf pd0_0 rfl) rfl (by show 2 * 0 + _ ≤ _; exact Nat.le_of_eq rfl) (hb hby at_231) (fun _ _ => ⟨rfl, e0, (by decide : 0 + 0 ≤ _), (by decide : 0 + 0 ≤ _)⟩)
    dsimp only [Pt.U, Pt.locs, Pt.cells, Pt.slots] at X3 l3 y3 z3 st3 hQ3
    subst l3 y3 z3
    obtain ⟨rfl, N3q, e3⟩ := hQ3
    have N3 := Fr.app N0 N3q
    obtain ⟨_, _, ⟨T4, L4, k4, n4⟩, -, X4, ⟨Lc4, hQ4, l4, y4, z4⟩, st4⟩ := Jvm.LawKit.callS X3 hx (y := (⟨"crestline/WholeDigitsCountPinLaw", "expected", "(J)I"⟩ : MethodName)) hown (mvT hZ (hw _ (List.mem_of_getElem? (i := 6) rfl))) (mvT hZ (hw _ (List.mem_of_getElem? (i := 7) rfl))) (mvT hZ (hw _ (List.mem_of_getElem? (i := 8) rfl))) (mvT hZ (hw _ (List.mem_of_getElem? (i := 9) rfl))) (by decide) (backOf (W := 1) (rm2 l Z a0 hw [] (px >>> ((ps &&& (63 : Int32)) &&& 0x3f).toInt64) h0 n0 Z0) hZ (hw _ (List.mem_of_getElem? (i := 9) rfl)) (hw _ (List.mem_of_getElem? (i := 8) rfl)) (by decide) (by decide)) (g := (mkF m 236 #[.val (.long px), .second, .val (.int ps), .val (.int pk), .val (.int pm), .val (.long (px >>> ((ps &&& (63 : Int32)) &&& 0x3f).toInt64)), .second, .val (.int (pm &&& (3 : Int32))), .unset, .unset, .unset] [(.long (px >>> ((ps &&& (63 : Int32)) &&& 0x3f).toInt64)), (.int (cntF (px >>> ((ps &&& (63 : Int32)) &&& 0x3f).toInt64)))])) rfl (by rw [hml]; rfl) (argsL := [(.long (px >>> ((ps &&& (63 : Int32)) &&& 0x3f).toInt64))]) (rest := [(.int (cntF (px >>> ((ps &&& (63 : Int32)) &&& 0x3f).toInt64)))]) (lenOf pd0_0 rfl) rfl (by show 2 * 0 + _ ≤ _; exact Nat.le_of_eq rfl) (hb hby at_236) (fun _ _ => ⟨rfl, e3, (by decide : 0 + 0 ≤ _), (by decide : 0 + 0 ≤ _)⟩)
    dsimp only [Pt.U, Pt.locs, Pt.cells, Pt.slots] at X4 l4 y4 z4 st4 hQ4
    subst l4 y4 z4
    obtain ⟨rfl, N4q, e4⟩ := hQ4
    have N4 := Fr.app N3 N4q
    have pre5 : ∀ t, Steps p.tables e below (T4.setTop (mkF m 247 #[.val (.long px), .second, .val (.int ps), .val (.int pk), .val (.int pm), .val (.long (px >>> ((ps &&& (63 : Int32)) &&& 0x3f).toInt64)), .second, .val (.int (pm &&& (3 : Int32))), .unset, .unset, .unset] [(.int (1 : Int32))])) t → Steps p.tables e below (s₁.setTop (entryFrame m #[(.long px), (.int ps), (.int pk), (.int pm)] maxLocals)) t := by
      intro t kt
      refine pre1 _ ?_
      show Steps p.tables e below (s₁.setTop (mkF m 8 #[.val (.long px), .second, .val (.int ps), .val (.int pk), .val (.int pm), .unset, .unset, .val (.int (pm &&& (3 : Int32))), .unset, .unset, .unset] [(.int (pm &&& (3 : Int32)))])) _
      refine XS.ifNo X0.here hx rfl (hb hby at_8) rfl (XT.i0_ne_f hc8_2) ?_
      show Steps p.tables e below (s₁.setTop (mkF m 11 #[.val (.long px), .second, .val (.int ps), .val (.int pk), .val (.int pm), .unset, .unset, .val (.int (pm &&& (3 : Int32))), .unset, .unset, .unset] [])) _
      refine XS.lloadN X0.here hx rfl (hb hby at_11) rfl ?_
      show Steps p.tables e below (s₁.setTop (mkF m 12 #[.val (.long px), .second, .val (.int ps), .val (.int pk), .val (.int pm), .unset, .unset, .val (.int (pm &&& (3 : Int32))), .unset, .unset, .unset] [(.long px)])) _
      refine XS.iloadN X0.here hx rfl (hb hby at_12) rfl ?_
      show Steps p.tables e below (s₁.setTop (mkF m 13 #[.val (.long px), .second, .val (.int ps), .val (.int pk), .val (.int pm), .unset, .unset, .val (.int (pm &&& (3 : Int32))), .unset, .unset, .unset] [(.int ps), (.long px)])) _
      refine XS.bipush X0.here hx rfl (hb hby at_13) ?_
      show Steps p.tables e below (s₁.setTop (mkF m 15 #[.val (.long px), .second, .val (.int ps), .val (.int pk), .val (.int pm), .unset, .unset, .val (.int (pm &&& (3 : Int32))), .unset, .unset, .unset] [(.int (63 : Int32)), (.int ps), (.long px)])) _
      refine XS.iand X0.here hx rfl (hb hby at_15) rfl ?_
      show Steps p.tables e below (s₁.setTop (mkF m 16 #[.val (.long px), .second, .val (.int ps), .val (.int pk), .val (.int pm), .unset, .unset, .val (.int (pm &&& (3 : Int32))), .unset, .unset, .unset] [(.int (ps &&& (63 : Int32))), (.long px)])) _
      refine XS.lshr X0.here hx rfl (hb hby at_16) rfl ?_
      show Steps p.tables e below (s₁.setTop (mkF m 17 #[.val (.long px), .second, .val (.int ps), .val (.int pk), .val (.int pm), .unset, .unset, .val (.int (pm &&& (3 : Int32))), .unset, .unset, .unset] [(.long (px >>> ((ps &&& (63 : Int32)) &&& 0x3f).toInt64))])) _
      refine XS.lstore X0.here hx rfl (hb hby at_17) rfl (l' := #[.val (.long px), .second, .val (.int ps), .val (.int pk), .val (.int pm), .val (.long (px >>> ((ps &&& (63 : Int32)) &&& 0x3f).toInt64)), .second, .val (.int (pm &&& (3 : Int32))), .unset, .unset, .unset]) rfl ?_
      show Steps p.tables e below (s₁.setTop (mkF m 19 #[.val (.long px), .second, .val (.int ps), .val (.int pk), .val (.int pm), .val (.long (px >>> ((ps &&& (63 : Int32)) &&& 0x3f).toInt64)), .second, .val (.int (pm &&& (3 : Int32))), .unset, .unset, .unset] [])) _
      refine XS.goto X0.here hx rfl (pc0 := 19) (pc' := 229) rfl (hb hby at_19) (by decide) (by decide) ?_
      show Steps p.tables e below (s₁.setTop (mkF m 229 #[.val (.long px), .second, .val (.int ps), .val (.int pk), .val (.int pm), .val (.long (px >>> ((ps &&& (63 : Int32)) &&& 0x3f).toInt64)), .second, .val (.int (pm &&& (3 : Int32))), .unset, .unset, .unset] [])) _
      refine XS.lload X0.here hx rfl (hb hby at_229) rfl ?_
      show Steps p.tables e below (s₁.setTop (mkF m 231 #[.val (.long px), .second, .val (.int ps), .val (.int pk), .val (.int pm), .val (.long (px >>> ((ps &&& (63 : Int32)) &&& 0x3f).toInt64)), .second, .val (.int (pm &&& (3 : Int32))), .unset, .unset, .unset] [(.long (px >>> ((ps &&& (63 : Int32)) &&& 0x3f).toInt64))])) _
      refine st3 _ ?_
      show Steps p.tables e below (T3.setTop (mkF m 234 #[.val (.long px), .second, .val (.int ps), .val (.int pk), .val (.int pm), .val (.long (px >>> ((ps &&& (63 : Int32)) &&& 0x3f).toInt64)), .second, .val (.int (pm &&& (3 : Int32))), .unset, .unset, .unset] [(.int (cntF (px >>> ((ps &&& (63 : Int32)) &&& 0x3f).toInt64)))])) _
      refine XS.lload X3.here hx rfl (hb hby at_234) rfl ?_
      show Steps p.tables e below (T3.setTop (mkF m 236 #[.val (.long px), .second, .val (.int ps), .val (.int pk), .val (.int pm), .val (.long (px >>> ((ps &&& (63 : Int32)) &&& 0x3f).toInt64)), .second, .val (.int (pm &&& (3 : Int32))), .unset, .unset, .unset] [(.long (px >>> ((ps &&& (63 : Int32)) &&& 0x3f).toInt64)), (.int (cntF (px >>> ((ps &&& (63 : Int32)) &&& 0x3f).toInt64)))])) _
      refine st4 _ ?_
      show Steps p.tables e below (T4.setTop (mkF m 239 #[.val (.long px), .second, .val (.int ps), .val (.int pk), .val (.int pm), .val (.long (px >>> ((ps &&& (63 : Int32)) &&& 0x3f).toInt64)), .second, .val (.int (pm &&& (3 : Int32))), .unset, .unset, .unset] [(.int (expF (px >>> ((ps &&& (63 : Int32)) &&& 0x3f).toInt64))), (.int (cntF (px >>> ((ps &&& (63 : Int32)) &&& 0x3f).toInt64)))])) _
      refine XS.icmpNo X4.here hx rfl (hb hby at_239) rfl (XT.ii_ne_f (law_eq _)) ?_
      show Steps p.tables e below (T4.setTop (mkF m 242 #[.val (.long px), .second, .val (.int ps), .val (.int pk), .val (.int pm), .val (.long (px >>> ((ps &&& (63 : Int32)) &&& 0x3f).toInt64)), .second, .val (.int (pm &&& (3 : Int32))), .unset, .unset, .unset] [])) _
      refine XS.iconst X4.here hx rfl (hb hby at_242) ?_
      show Steps p.tables e below (T4.setTop (mkF m 243 #[.val (.long px), .second, .val (.int ps), .val (.int pk), .val (.int pm), .val (.long (px >>> ((ps &&& (63 : Int32)) &&& 0x3f).toInt64)), .second, .val (.int (pm &&& (3 : Int32))), .unset, .unset, .unset] [(.int (1 : Int32))])) _
      refine XS.goto X4.here hx rfl (pc0 := 243) (pc' := 247) rfl (hb hby at_243) (by decide) (by decide) ?_
      exact kt
    obtain ⟨fs, hr, hrun, hended, hW, hsame⟩ := X4.leave (v := some (.int (1 : Int32))) (fun h => by rw [Bd.returns] at h; cases h)
    refine ⟨_, _, pre5 _ ?_, hrun, hended, _, _, rfl, ?_, ⟨_, rfl⟩, hW, hsame.mono (by decide) (by decide)⟩
    · show Steps p.tables e below (T4.setTop (mkF m 247 #[.val (.long px), .second, .val (.int ps), .val (.int pk), .val (.int pm), .val (.long (px >>> ((ps &&& (63 : Int32)) &&& 0x3f).toInt64)), .second, .val (.int (pm &&& (3 : Int32))), .unset, .unset, .unset] [(.int (1 : Int32))])) _
      exact retN X4 hx (t := .boolean) Bd.returns (by simp) (hb hby at_247) hr
    · show Q0 Z h0 n0 _ T4.heap _
      exact ⟨rfl, N4⟩
  · have pre6 : ∀ t, Steps p.tables e below (s₁.setTop (mkF m 25 #[.val (.long px), .second, .val (.int ps), .val (.int pk), .val (.int pm), .unset, .unset, .val (.int (pm &&& (3 : Int32))), .unset, .unset, .unset] [(.int (1 : Int32)), (.int (pm &&& (3 : Int32)))])) t → Steps p.tables e below (s₁.setTop (entryFrame m #[(.long px), (.int ps), (.int pk), (.int pm)] maxLocals)) t := by
      intro t kt
      refine pre1 _ ?_
      show Steps p.tables e below (s₁.setTop (mkF m 8 #[.val (.long px), .second, .val (.int ps), .val (.int pk), .val (.int pm), .unset, .unset, .val (.int (pm &&& (3 : Int32))), .unset, .unset, .unset] [(.int (pm &&& (3 : Int32)))])) _
      refine XS.ifYes X0.here hx rfl (pc0 := 8) (pc' := 22) rfl (hb hby at_8) rfl (XT.i0_ne_t hc8_2) (by decide) (by decide) ?_
      show Steps p.tables e below (s₁.setTop (mkF m 22 #[.val (.long px), .second, .val (.int ps), .val (.int pk), .val (.int pm), .unset, .unset, .val (.int (pm &&& (3 : Int32))), .unset, .unset, .unset] [])) _
      refine XS.iload X0.here hx rfl (hb hby at_22) rfl ?_
      show Steps p.tables e below (s₁.setTop (mkF m 24 #[.val (.long px), .second, .val (.int ps), .val (.int pk), .val (.int pm), .unset, .unset, .val (.int (pm &&& (3 : Int32))), .unset, .unset, .unset] [(.int (pm &&& (3 : Int32)))])) _
      refine XS.iconst X0.here hx rfl (hb hby at_24) ?_
      exact kt
    by_cases hc25_7 : (pm &&& (3 : Int32)) = (1 : Int32)
    · obtain ⟨T8, h8, k8, X8, e8, E8, A8, M8, st8⟩ := newPE X0 hx hZ (hw _ (List.mem_of_getElem? (i := 36) rfl)) e0 (g := (mkF m 30 #[.val (.long px), .second, .val (.int ps), .val (.int pk), .val (.int pm), .unset, .unset, .val (.int (pm &&& (3 : Int32))), .unset, .unset, .unset] [(.int (19 : Int32))])) rfl (hb hby at_30) rfl (by decide) (cap := 19) (by decide) (by decide) (by decide) (by decide) (ad := "[J") (by first | rfl | decide +kernel)
      obtain ⟨b8, g8⟩ : ∃ z, z = h0.size := ⟨_, rfl⟩
      rw [← g8] at A8 M8 st8
      have V8 : Arv Z h8 b8 k8 .long (19 : Int32) [(.long (0 : Int64)), (.long (0 : Int64)), (.long (0 : Int64)), (.long (0 : Int64)), (.long (0 : Int64)), (.long (0 : Int64)), (.long (0 : Int64)), (.long (0 : Int64)), (.long (0 : Int64)), (.long (0 : Int64)), (.long (0 : Int64)), (.long (0 : Int64)), (.long (0 : Int64)), (.long (0 : Int64)), (.long (0 : Int64)), (.long (0 : Int64)), (.long (0 : Int64)), (.long (0 : Int64)), (.long (0 : Int64))] (.long (0 : Int64)) := (Arv.new A8 (by decide)).pad (pad_rep [] (.long (0 : Int64)) 19)
      have d_pa_b8 : pa ≠ b8 := Nat.ne_of_lt (Nat.lt_of_lt_of_le Ar.lt (Nat.le_of_eq g8.symm))
      have gb_b8 : n0 ≤ b8 := Nat.le_trans Z0 (Nat.le_of_eq g8.symm)
      have sz_b8 : h0.size ≤ b8 := Nat.le_trans (Keep.refl h0 []).1 (Nat.le_of_eq g8.symm)
      have f8_9 := S_P.ext E8
      have f8_10 := Ar.ext E8
      have K11 : Keep h0 h8 [] := (Keep.refl h0 []).ext E8
      have Z12 : n0 ≤ h8.size := Nat.le_trans Z0 E8.1
      obtain ⟨cl13, Ar13, q13, S13, L13, H13, G13⟩ := id V8
      have hin13 : ¬ ((0 : Int32) < 0 ∨ cl13.slots.size ≤ ((0 : Int32)).toNatClampNeg) := inb_of S13 ⟨by decide, by decide⟩
      obtain ⟨T13, h13, X13, e13, W13, st13⟩ := stJ X8 hx hZ e8 Ar13 (j := (0 : Int32)) hin13 (g := (mkF m 35 #[.val (.long px), .second, .val (.int ps), .val (.int pk), .val (.int pm), .unset, .unset, .val (.int (pm &&& (3 : Int32))), .unset, .unset, .unset] [(.long (1 : Int64)), (.int (0 : Int32)), (.ref b8), (.ref b8)])) rfl rfl (hb hby at_35)
      have V13 := Arv.set Ar13 q13 S13 L13 H13 G13 rfl W13 0 rfl (Nat.le_of_ble_eq_true rfl)
      have N13 := Fr.snoc X13 N0 gb_b8
      have f13_14 := f8_9.wr W13
      have f13_15 := f8_10.other W13 d_pa_b8
      have f13_16 := M8.wr W13
      have K17 : Keep h0 h13 [] := K11.wr W13 (Or.inr sz_b8)
      have Z18 : n0 ≤ h13.size := by rw [W13.size]; exact Z12
      obtain ⟨cl19, Ar19, q19, S19, L19, H19, G19⟩ := id V13
      have hin19 : ¬ ((1 : Int32) < 0 ∨ cl19.slots.size ≤ ((1 : Int32)).toNatClampNeg) := inb_of S19 ⟨by decide, by decide⟩
      obtain ⟨T19, h19, X19, e19, W19, st19⟩ := stJ X13 hx hZ e13 Ar19 (j := (1 : Int32)) hin19 (g := (mkF m 41 #[.val (.long px), .second, .val (.int ps), .val (.int pk), .val (.int pm), .unset, .unset, .val (.int (pm &&& (3 : Int32))), .unset, .unset, .unset] [(.long (10 : Int64)), (.int (1 : Int32)), (.ref b8), (.ref b8)])) rfl rfl (hb hby at_41)
      have V19 := Arv.set Ar19 q19 S19 L19 H19 G19 rfl W19 1 rfl (Nat.le_of_ble_eq_true rfl)
      have N19 := Fr.snoc X19 N13 gb_b8
      have f19_20 := f13_14.wr W19
      have f19_21 := f13_15.other W19 d_pa_b8
      have f19_22 := f13_16.wr W19
      have K23 : Keep h0 h19 [] := K17.wr W19 (Or.inr sz_b8)
      have Z24 : n0 ≤ h19.size := by rw [W19.size]; exact Z18
      obtain ⟨cl25, Ar25, q25, S25, L25, H25, G25⟩ := id V19
      have hin25 : ¬ ((2 : Int32) < 0 ∨ cl25.slots.size ≤ ((2 : Int32)).toNatClampNeg) := inb_of S25 ⟨by decide, by decide⟩
      obtain ⟨T25, h25, X25, e25, W25, st25⟩ := stJ X19 hx hZ e19 Ar25 (j := (2 : Int32)) hin25 (g := (mkF m 47 #[.val (.long px), .second, .val (.int ps), .val (.int pk), .val (.int pm), .unset, .unset, .val (.int (pm &&& (3 : Int32))), .unset, .unset, .unset] [(.long (100 : Int64)), (.int (2 : Int32)), (.ref b8), (.ref b8)])) rfl rfl (hb hby at_47)
      have V25 := Arv.set Ar25 q25 S25 L25 H25 G25 rfl W25 2 rfl (Nat.le_of_ble_eq_true rfl)
      have N25 := Fr.snoc X25 N19 gb_b8
      have f25_26 := f19_20.wr W25
      have f25_27 := f19_21.other W25 d_pa_b8
      have f25_28 := f19_22.wr W25
      have K29 : Keep h0 h25 [] := K23.wr W25 (Or.inr sz_b8)
      have Z30 : n0 ≤ h25.size := by rw [W25.size]; exact Z24
      obtain ⟨cl31, Ar31, q31, S31, L31, H31, G31⟩ := id V25
      have hin31 : ¬ ((3 : Int32) < 0 ∨ cl31.slots.size ≤ ((3 : Int32)).toNatClampNeg) := inb_of S31 ⟨by decide, by decide⟩
      obtain ⟨T31, h31, X31, e31, W31, st31⟩ := stJ X25 hx hZ e25 Ar31 (j := (3 : Int32)) hin31 (g := (mkF m 53 #[.val (.long px), .second, .val (.int ps), .val (.int pk), .val (.int pm), .unset, .unset, .val (.int (pm &&& (3 : Int32))), .unset, .unset, .unset] [(.long (1000 : Int64)), (.int (3 : Int32)), (.ref b8), (.ref b8)])) rfl rfl (hb hby at_53)
      have V31 := Arv.set Ar31 q31 S31 L31 H31 G31 rfl W31 3 rfl (Nat.le_of_ble_eq_true rfl)
      have N31 := Fr.snoc X31 N25 gb_b8
      have f31_32 := f25_26.wr W31
      have f31_33 := f25_27.other W31 d_pa_b8
      have f31_34 := f25_28.wr W31
      have K35 : Keep h0 h31 [] := K29.wr W31 (Or.inr sz_b8)
      have Z36 : n0 ≤ h31.size := by rw [W31.size]; exact Z30
      obtain ⟨cl37, Ar37, q37, S37, L37, H37, G37⟩ := id V31
      have hin37 : ¬ ((4 : Int32) < 0 ∨ cl37.slots.size ≤ ((4 : Int32)).toNatClampNeg) := inb_of S37 ⟨by decide, by decide⟩
      obtain ⟨T37, h37, X37, e37, W37, st37⟩ := stJ X31 hx hZ e31 Ar37 (j := (4 : Int32)) hin37 (g := (mkF m 59 #[.val (.long px), .second, .val (.int ps), .val (.int pk), .val (.int pm), .unset, .unset, .val (.int (pm &&& (3 : Int32))), .unset, .unset, .unset] [(.long (10000 : Int64)), (.int (4 : Int32)), (.ref b8), (.ref b8)])) rfl rfl (hb hby at_59)
      have V37 := Arv.set Ar37 q37 S37 L37 H37 G37 rfl W37 4 rfl (Nat.le_of_ble_eq_true rfl)
      have N37 := Fr.snoc X37 N31 gb_b8
      have f37_38 := f31_32.wr W37
      have f37_39 := f31_33.other W37 d_pa_b8
      have f37_40 := f31_34.wr W37
      have K41 : Keep h0 h37 [] := K35.wr W37 (Or.inr sz_b8)
      have Z42 : n0 ≤ h37.size := by rw [W37.size]; exact Z36
      obtain ⟨cl43, Ar43, q43, S43, L43, H43, G43⟩ := id V37
      have hin43 : ¬ ((5 : Int32) < 0 ∨ cl43.slots.size ≤ ((5 : Int32)).toNatClampNeg) := inb_of S43 ⟨by decide, by decide⟩
      obtain ⟨T43, h43, X43, e43, W43, st43⟩ := stJ X37 hx hZ e37 Ar43 (j := (5 : Int32)) hin43 (g := (mkF m 65 #[.val (.long px), .second, .val (.int ps), .val (.int pk), .val (.int pm), .unset, .unset, .val (.int (pm &&& (3 : Int32))), .unset, .unset, .unset] [(.long (100000 : Int64)), (.int (5 : Int32)), (.ref b8), (.ref b8)])) rfl rfl (hb hby at_65)
      have V43 := Arv.set Ar43 q43 S43 L43 H43 G43 rfl W43 5 rfl (Nat.le_of_ble_eq_true rfl)
      have N43 := Fr.snoc X43 N37 gb_b8
      have f43_44 := f37_38.wr W43
      have f43_45 := f37_39.other W43 d_pa_b8
      have f43_46 := f37_40.wr W43
      have K47 : Keep h0 h43 [] := K41.wr W43 (Or.inr sz_b8)
      have Z48 : n0 ≤ h43.size := by rw [W43.size]; exact Z42
      obtain ⟨cl49, Ar49, q49, S49, L49, H49, G49⟩ := id V43
      have hin49 : ¬ ((6 : Int32) < 0 ∨ cl49.slots.size ≤ ((6 : Int32)).toNatClampNeg) := inb_of S49 ⟨by decide, by decide⟩
      obtain ⟨T49, h49, X49, e49, W49, st49⟩ := stJ X43 hx hZ e43 Ar49 (j := (6 : Int32)) hin49 (g := (mkF m 72 #[.val (.long px), .second, .val (.int ps), .val (.int pk), .val (.int pm), .unset, .unset, .val (.int (pm &&& (3 : Int32))), .unset, .unset, .unset] [(.long (1000000 : Int64)), (.int (6 : Int32)), (.ref b8), (.ref b8)])) rfl rfl (hb hby at_72)
      have V49 := Arv.set Ar49 q49 S49 L49 H49 G49 rfl W49 6 rfl (Nat.le_of_ble_eq_true rfl)
      have N49 := Fr.snoc X49 N43 gb_b8
      have f49_50 := f43_44.wr W49
      have f49_51 := f43_45.other W49 d_pa_b8
      have f49_52 := f43_46.wr W49
      have K53 : Keep h0 h49 [] := K47.wr W49 (Or.inr sz_b8)
      have Z54 : n0 ≤ h49.size := by rw [W49.size]; exact Z48
      obtain ⟨cl55, Ar55, q55, S55, L55, H55, G55⟩ := id V49
      have hin55 : ¬ ((7 : Int32) < 0 ∨ cl55.slots.size ≤ ((7 : Int32)).toNatClampNeg) := inb_of S55 ⟨by decide, by decide⟩
      obtain ⟨T55, h55, X55, e55, W55, st55⟩ := stJ X49 hx hZ e49 Ar55 (j := (7 : Int32)) hin55 (g := (mkF m 79 #[.val (.long px), .second, .val (.int ps), .val (.int pk), .val (.int pm), .unset, .unset, .val (.int (pm &&& (3 : Int32))), .unset, .unset, .unset] [(.long (10000000 : Int64)), (.int (7 : Int32)), (.ref b8), (.ref b8)])) rfl rfl (hb hby at_79)
      have V55 := Arv.set Ar55 q55 S55 L55 H55 G55 rfl W55 7 rfl (Nat.le_of_ble_eq_true rfl)
      have N55 := Fr.snoc X55 N49 gb_b8
      have f55_56 := f49_50.wr W55
      have f55_57 := f49_51.other W55 d_pa_b8
      have f55_58 := f49_52.wr W55
      have K59 : Keep h0 h55 [] := K53.wr W55 (Or.inr sz_b8)
      have Z60 : n0 ≤ h55.size := by rw [W55.size]; exact Z54
      obtain ⟨cl61, Ar61, q61, S61, L61, H61, G61⟩ := id V55
      have hin61 : ¬ ((8 : Int32) < 0 ∨ cl61.slots.size ≤ ((8 : Int32)).toNatClampNeg) := inb_of S61 ⟨by decide, by decide⟩
      obtain ⟨T61, h61, X61, e61, W61, st61⟩ := stJ X55 hx hZ e55 Ar61 (j := (8 : Int32)) hin61 (g := (mkF m 86 #[.val (.long px), .second, .val (.int ps), .val (.int pk), .val (.int pm), .unset, .unset, .val (.int (pm &&& (3 : Int32))), .unset, .unset, .unset] [(.long (100000000 : Int64)), (.int (8 : Int32)), (.ref b8), (.ref b8)])) rfl rfl (hb hby at_86)
      have V61 := Arv.set Ar61 q61 S61 L61 H61 G61 rfl W61 8 rfl (Nat.le_of_ble_eq_true rfl)
      have N61 := Fr.snoc X61 N55 gb_b8
      have f61_62 := f55_56.wr W61
      have f61_63 := f55_57.other W61 d_pa_b8
      have f61_64 := f55_58.wr W61
      have K65 : Keep h0 h61 [] := K59.wr W61 (Or.inr sz_b8)
      have Z66 : n0 ≤ h61.size := by rw [W61.size]; exact Z60
      obtain ⟨cl67, Ar67, q67, S67, L67, H67, G67⟩ := id V61
      have hin67 : ¬ ((9 : Int32) < 0 ∨ cl67.slots.size ≤ ((9 : Int32)).toNatClampNeg) := inb_of S67 ⟨by decide, by decide⟩
      obtain ⟨T67, h67, X67, e67, W67, st67⟩ := stJ X61 hx hZ e61 Ar67 (j := (9 : Int32)) hin67 (g := (mkF m 93 #[.val (.long px), .second, .val (.int ps), .val (.int pk), .val (.int pm), .unset, .unset, .val (.int (pm &&& (3 : Int32))), .unset, .unset, .unset] [(.long (1000000000 : Int64)), (.int (9 : Int32)), (.ref b8), (.ref b8)])) rfl rfl (hb hby at_93)
      have V67 := Arv.set Ar67 q67 S67 L67 H67 G67 rfl W67 9 rfl (Nat.le_of_ble_eq_true rfl)
      have N67 := Fr.snoc X67 N61 gb_b8
      have f67_68 := f61_62.wr W67
      have f67_69 := f61_63.other W67 d_pa_b8
      have f67_70 := f61_64.wr W67
      have K71 : Keep h0 h67 [] := K65.wr W67 (Or.inr sz_b8)
      have Z72 : n0 ≤ h67.size := by rw [W67.size]; exact Z66
      obtain ⟨cl73, Ar73, q73, S73, L73, H73, G73⟩ := id V67
      have hin73 : ¬ ((10 : Int32) < 0 ∨ cl73.slots.size ≤ ((10 : Int32)).toNatClampNeg) := inb_of S73 ⟨by decide, by decide⟩
      obtain ⟨T73, h73, X73, e73, W73, st73⟩ := stJ X67 hx hZ e67 Ar73 (j := (10 : Int32)) hin73 (g := (mkF m 100 #[.val (.long px), .second, .val (.int ps), .val (.int pk), .val (.int pm), .unset, .unset, .val (.int (pm &&& (3 : Int32))), .unset, .unset, .unset] [(.long (10000000000 : Int64)), (.int (10 : Int32)), (.ref b8), (.ref b8)])) rfl rfl (hb hby at_100)
      have V73 := Arv.set Ar73 q73 S73 L73 H73 G73 rfl W73 10 rfl (Nat.le_of_ble_eq_true rfl)
      have N73 := Fr.snoc X73 N67 gb_b8
      have f73_74 := f67_68.wr W73
      have f73_75 := f67_69.other W73 d_pa_b8
      have f73_76 := f67_70.wr W73
      have K77 : Keep h0 h73 [] := K71.wr W73 (Or.inr sz_b8)
      have Z78 : n0 ≤ h73.size := by rw [W73.size]; exact Z72
      obtain ⟨cl79, Ar79, q79, S79, L79, H79, G79⟩ := id V73
      have hin79 : ¬ ((11 : Int32) < 0 ∨ cl79.slots.size ≤ ((11 : Int32)).toNatClampNeg) := inb_of S79 ⟨by decide, by decide⟩
      obtain ⟨T79, h79, X79, e79, W79, st79⟩ := stJ X73 hx hZ e73 Ar79 (j := (11 : Int32)) hin79 (g := (mkF m 107 #[.val (.long px), .second, .val (.int ps), .val (.int pk), .val (.int pm), .unset, .unset, .val (.int (pm &&& (3 : Int32))), .unset, .unset, .unset] [(.long (100000000000 : Int64)), (.int (11 : Int32)), (.ref b8), (.ref b8)])) rfl rfl (hb hby at_107)
      have V79 := Arv.set Ar79 q79 S79 L79 H79 G79 rfl W79 11 rfl (Nat.le_of_ble_eq_true rfl)
      have N79 := Fr.snoc X79 N73 gb_b8
      have f79_80 := f73_74.wr W79
      have f79_81 := f73_75.other W79 d_pa_b8
      have f79_82 := f73_76.wr W79
      have K83 : Keep h0 h79 [] := K77.wr W79 (Or.inr sz_b8)
      have Z84 : n0 ≤ h79.size := by rw [W79.size]; exact Z78
      obtain ⟨cl85, Ar85, q85, S85, L85, H85, G85⟩ := id V79
      have hin85 : ¬ ((12 : Int32) < 0 ∨ cl85.slots.size ≤ ((12 : Int32)).toNatClampNeg) := inb_of S85 ⟨by decide, by decide⟩
      obtain ⟨T85, h85, X85, e85, W85, st85⟩ := stJ X79 hx hZ e79 Ar85 (j := (12 : Int32)) hin85 (g := (mkF m 114 #[.val (.long px), .second, .val (.int ps), .val (.int pk), .val (.int pm), .unset, .unset, .val (.int (pm &&& (3 : Int32))), .unset, .unset, .unset] [(.long (1000000000000 : Int64)), (.int (12 : Int32)), (.ref b8), (.ref b8)])) rfl rfl (hb hby at_114)
      have V85 := Arv.set Ar85 q85 S85 L85 H85 G85 rfl W85 12 rfl (Nat.le_of_ble_eq_true rfl)
      have N85 := Fr.snoc X85 N79 gb_b8
      have f85_86 := f79_80.wr W85
      have f85_87 := f79_81.other W85 d_pa_b8
      have f85_88 := f79_82.wr W85
      have K89 : Keep h0 h85 [] := K83.wr W85 (Or.inr sz_b8)
      have Z90 : n0 ≤ h85.size := by rw [W85.size]; exact Z84
      obtain ⟨cl91, Ar91, q91, S91, L91, H91, G91⟩ := id V85
      have hin91 : ¬ ((13 : Int32) < 0 ∨ cl91.slots.size ≤ ((13 : Int32)).toNatClampNeg) := inb_of S91 ⟨by decide, by decide⟩
      obtain ⟨T91, h91, X91, e91, W91, st91⟩ := stJ X85 hx hZ e85 Ar91 (j := (13 : Int32)) hin91 (g := (mkF m 121 #[.val (.long px), .second, .val (.int ps), .val (.int pk), .val (.int pm), .unset, .unset, .val (.int (pm &&& (3 : Int32))), .unset, .unset, .unset] [(.long (10000000000000 : Int64)), (.int (13 : Int32)), (.ref b8), (.ref b8)])) rfl rfl (hb hby at_121)
      have V91 := Arv.set Ar91 q91 S91 L91 H91 G91 rfl W91 13 rfl (Nat.le_of_ble_eq_true rfl)
      have N91 := Fr.snoc X91 N85 gb_b8
      have f91_92 := f85_86.wr W91
      have f91_93 := f85_87.other W91 d_pa_b8
      have f91_94 := f85_88.wr W91
      have K95 : Keep h0 h91 [] := K89.wr W91 (Or.inr sz_b8)
      have Z96 : n0 ≤ h91.size := by rw [W91.size]; exact Z90
      obtain ⟨cl97, Ar97, q97, S97, L97, H97, G97⟩ := id V91
      have hin97 : ¬ ((14 : Int32) < 0 ∨ cl97.slots.size ≤ ((14 : Int32)).toNatClampNeg) := inb_of S97 ⟨by decide, by decide⟩
      obtain ⟨T97, h97, X97, e97, W97, st97⟩ := stJ X91 hx hZ e91 Ar97 (j := (14 : Int32)) hin97 (g := (mkF m 128 #[.val (.long px), .second, .val (.int ps), .val (.int pk), .val (.int pm), .unset, .unset, .val (.int (pm &&& (3 : Int32))), .unset, .unset, .unset] [(.long (100000000000000 : Int64)), (.int (14 : Int32)), (.ref b8), (.ref b8)])) rfl rfl (hb hby at_128)
      have V97 := Arv.set Ar97 q97 S97 L97 H97 G97 rfl W97 14 rfl (Nat.le_of_ble_eq_true rfl)
      have N97 := Fr.snoc X97 N91 gb_b8
      have f97_98 := f91_92.wr W97
      have f97_99 := f91_93.other W97 d_pa_b8
      have f97_100 := f91_94.wr W97
      have K101 : Keep h0 h97 [] := K95.wr W97 (Or.inr sz_b8)
      have Z102 : n0 ≤ h97.size := by rw [W97.size]; exact Z96
      obtain ⟨cl103, Ar103, q103, S103, L103, H103, G103⟩ := id V97
      have hin103 : ¬ ((15 : Int32) < 0 ∨ cl103.slots.size ≤ ((15 : Int32)).toNatClampNeg) := inb_of S103 ⟨by decide, by decide⟩
      obtain ⟨T103, h103, X103, e103, W103, st103⟩ := stJ X97 hx hZ e97 Ar103 (j := (15 : Int32)) hin103 (g := (mkF m 135 #[.val (.long px), .second, .val (.int ps), .val (.int pk), .val (.int pm), .unset, .unset, .val (.int (pm &&& (3 : Int32))), .unset, .unset, .unset] [(.long (1000000000000000 : Int64)), (.int (15 : Int32)), (.ref b8), (.ref b8)])) rfl rfl (hb hby at_135)
      have V103 := Arv.set Ar103 q103 S103 L103 H103 G103 rfl W103 15 rfl (Nat.le_of_ble_eq_true rfl)
      have N103 := Fr.snoc X103 N97 gb_b8
      have f103_104 := f97_98.wr W103
      have f103_105 := f97_99.other W103 d_pa_b8
      have f103_106 := f97_100.wr W103
      have K107 : Keep h0 h103 [] := K101.wr W103 (Or.inr sz_b8)
      have Z108 : n0 ≤ h103.size := by rw [W103.size]; exact Z102
      obtain ⟨cl109, Ar109, q109, S109, L109, H109, G109⟩ := id V103
      have hin109 : ¬ ((16 : Int32) < 0 ∨ cl109.slots.size ≤ ((16 : Int32)).toNatClampNeg) := inb_of S109 ⟨by decide, by decide⟩
      obtain ⟨T109, h109, X109, e109, W109, st109⟩ := stJ X103 hx hZ e103 Ar109 (j := (16 : Int32)) hin109 (g := (mkF m 142 #[.val (.long px), .second, .val (.int ps), .val (.int pk), .val (.int pm), .unset, .unset, .val (.int (pm &&& (3 : Int32))), .unset, .unset, .unset] [(.long (10000000000000000 : Int64)), (.int (16 : Int32)), (.ref b8), (.ref b8)])) rfl rfl (hb hby at_142)
      have V109 := Arv.set Ar109 q109 S109 L109 H109 G109 rfl W109 16 rfl (Nat.le_of_ble_eq_true rfl)
      have N109 := Fr.snoc X109 N103 gb_b8
      have f109_110 := f103_104.wr W109
      have f109_111 := f103_105.other W109 d_pa_b8
      have f109_112 := f103_106.wr W109
      have K113 : Keep h0 h109 [] := K107.wr W109 (Or.inr sz_b8)
      have Z114 : n0 ≤ h109.size := by rw [W109.size]; exact Z108
      obtain ⟨cl115, Ar115, q115, S115, L115, H115, G115⟩ := id V109
      have hin115 : ¬ ((17 : Int32) < 0 ∨ cl115.slots.size ≤ ((17 : Int32)).toNatClampNeg) := inb_of S115 ⟨by decide, by decide⟩
      obtain ⟨T115, h115, X115, e115, W115, st115⟩ := stJ X109 hx hZ e109 Ar115 (j := (17 : Int32)) hin115 (g := (mkF m 149 #[.val (.long px), .second, .val (.int ps), .val (.int pk), .val (.int pm), .unset, .unset, .val (.int (pm &&& (3 : Int32))), .unset, .unset, .unset] [(.long (100000000000000000 : Int64)), (.int (17 : Int32)), (.ref b8), (.ref b8)])) rfl rfl (hb hby at_149)
      have V115 := Arv.set Ar115 q115 S115 L115 H115 G115 rfl W115 17 rfl (Nat.le_of_ble_eq_true rfl)
      have N115 := Fr.snoc X115 N109 gb_b8
      have f115_116 := f109_110.wr W115
      have f115_117 := f109_111.other W115 d_pa_b8
      have f115_118 := f109_112.wr W115
      have K119 : Keep h0 h115 [] := K113.wr W115 (Or.inr sz_b8)
      have Z120 : n0 ≤ h115.size := by rw [W115.size]; exact Z114
      obtain ⟨cl121, Ar121, q121, S121, L121, H121, G121⟩ := id V115
      have hin121 : ¬ ((18 : Int32) < 0 ∨ cl121.slots.size ≤ ((18 : Int32)).toNatClampNeg) := inb_of S121 ⟨by decide, by decide⟩
      obtain ⟨T121, h121, X121, e121, W121, st121⟩ := stJ X115 hx hZ e115 Ar121 (j := (18 : Int32)) hin121 (g := (mkF m 156 #[.val (.long px), .second, .val (.int ps), .val (.int pk), .val (.int pm), .unset, .unset, .val (.int (pm &&& (3 : Int32))), .unset, .unset, .unset] [(.long (1000000000000000000 : Int64)), (.int (18 : Int32)), (.ref b8), (.ref b8)])) rfl rfl (hb hby at_156)
      have V121 := Arv.set Ar121 q121 S121 L121 H121 G121 rfl W121 18 rfl (Nat.le_of_ble_eq_true rfl)
      have N121 := Fr.snoc X121 N115 gb_b8
      have f121_122 := f115_116.wr W121
      have f121_123 := f115_117.other W121 d_pa_b8
      have f121_124 := f115_118.wr W121
      have K125 : Keep h0 h121 [] := K119.wr W121 (Or.inr sz_b8)
      have Z126 : n0 ≤ h121.size := by rw [W121.size]; exact Z120
      obtain ⟨cl127, Ar127, q127, S127, L127, H127, G127⟩ := id V121
      have hin127 : ¬ (((pk &&& (2147483647 : Int32)) % (19 : Int32)) < 0 ∨ cl127.slots.size ≤ (((pk &&& (2147483647 : Int32)) % (19 : Int32))).toNatClampNeg) := inb_of S127 (own_mod19 _)
      have hlt127 := Nat.lt_of_not_le fun y => hin127 (Or.inr y)
      obtain ⟨el127, hel127⟩ := fit_J (G127 _ hlt127)
      have hat127 : cl127.slots[(((pk &&& (2147483647 : Int32)) % (19 : Int32))).toNatClampNeg]? = some (.long el127) := (H127 _ hlt127).trans (by rw [hel127])
      have pre128 : ∀ t, Steps p.tables e below (T121.setTop (mkF m 182 #[.val (.long px), .second, .val (.int ps), .val (.int pk), .val (.int pm), .unset, .unset, .val (.int (pm &&& (3 : Int32))), .val (.ref b8), .val (.long (el127 + ((ps &&& (3 : Int32)) - (2 : Int32)).toInt64)), .second] [(.int (pm &&& (4 : Int32)))])) t → Steps p.tables e below (s₁.setTop (entryFrame m #[(.long px), (.int ps), (.int pk), (.int pm)] maxLocals)) t := by
        intro t kt
        refine pre6 _ ?_
        show Steps p.tables e below (s₁.setTop (mkF m 25 #[.val (.long px), .second, .val (.int ps), .val (.int pk), .val (.int pm), .unset, .unset, .val (.int (pm &&& (3 : Int32))), .unset, .unset, .unset] [(.int (1 : Int32)), (.int (pm &&& (3 : Int32)))])) _
        refine XS.icmpNo X0.here hx rfl (hb hby at_25) rfl (XT.ii_ne_f hc25_7) ?_
        show Steps p.tables e below (s₁.setTop (mkF m 28 #[.val (.long px), .second, .val (.int ps), .val (.int pk), .val (.int pm), .unset, .unset, .val (.int (pm &&& (3 : Int32))), .unset, .unset, .unset] [])) _
        refine XS.bipush X0.here hx rfl (hb hby at_28) ?_
        show Steps p.tables e below (s₁.setTop (mkF m 30 #[.val (.long px), .second, .val (.int ps), .val (.int pk), .val (.int pm), .unset, .unset, .val (.int (pm &&& (3 : Int32))), .unset, .unset, .unset] [(.int (19 : Int32))])) _
        refine st8 _ ?_
        show Steps p.tables e below (T8.setTop (mkF m 32 #[.val (.long px), .second, .val (.int ps), .val (.int pk), .val (.int pm), .unset, .unset, .val (.int (pm &&& (3 : Int32))), .unset, .unset, .unset] [(.ref b8)])) _
        refine XS.dup X8.here hx rfl (hb hby at_32) rfl rfl ?_
        show Steps p.tables e below (T8.setTop (mkF m 33 #[.val (.long px), .second, .val (.int ps), .val (.int pk), .val (.int pm), .unset, .unset, .val (.int (pm &&& (3 : Int32))), .unset, .unset, .unset] [(.ref b8), (.ref b8)])) _
        refine XS.iconst X8.here hx rfl (hb hby at_33) ?_
        show Steps p.tables e below (T8.setTop (mkF m 34 #[.val (.long px), .second, .val (.int ps), .val (.int pk), .val (.int pm), .unset, .unset, .val (.int (pm &&& (3 : Int32))), .unset, .unset, .unset] [(.int (0 : Int32)), (.ref b8), (.ref b8)])) _
        refine XS.lconst X8.here hx rfl (hb hby at_34) ?_
        show Steps p.tables e below (T8.setTop (mkF m 35 #[.val (.long px), .second, .val (.int ps), .val (.int pk), .val (.int pm), .unset, .unset, .val (.int (pm &&& (3 : Int32))), .unset, .unset, .unset] [(.long (1 : Int64)), (.int (0 : Int32)), (.ref b8), (.ref b8)])) _
        refine st13 _ ?_
        show Steps p.tables e below (T13.setTop (mkF m 36 #[.val (.long px), .second, .val (.int ps), .val (.int pk), .val (.int pm), .unset, .unset, .val (.int (pm &&& (3 : Int32))), .unset, .unset, .unset] [(.ref b8)])) _
        refine XS.dup X13.here hx rfl (hb hby at_36) rfl rfl ?_
        show Steps p.tables e below (T13.setTop (mkF m 37 #[.val (.long px), .second, .val (.int ps), .val (.int pk), .val (.int pm), .unset, .unset, .val (.int (pm &&& (3 : Int32))), .unset, .unset, .unset] [(.ref b8), (.ref b8)])) _
        refine XS.iconst X13.here hx rfl (hb hby at_37) ?_
        show Steps p.tables e below (T13.setTop (mkF m 38 #[.val (.long px), .second, .val (.int ps), .val (.int pk), .val (.int pm), .unset, .unset, .val (.int (pm &&& (3 : Int32))), .unset, .unset, .unset] [(.int (1 : Int32)), (.ref b8), (.ref b8)])) _
        refine X13.ldc2J hx hown (mvT hZ (hw _ (List.mem_of_getElem? (i := 37) rfl))) (g := (mkF m 38 #[.val (.long px), .second, .val (.int ps), .val (.int pk), .val (.int pm), .unset, .unset, .val (.int (pm &&& (3 : Int32))), .unset, .unset, .unset] [(.int (1 : Int32)), (.ref b8), (.ref b8)])) rfl (hb hby at_38) ?_
        show Steps p.tables e below (T13.setTop (mkF m 41 #[.val (.long px), .second, .val (.int ps), .val (.int pk), .val (.int pm), .unset, .unset, .val (.int (pm &&& (3 : Int32))), .unset, .unset, .unset] [(.long (10 : Int64)), (.int (1 : Int32)), (.ref b8), (.ref b8)])) _
        refine st19 _ ?_
        show Steps p.tables e below (T19.setTop (mkF m 42 #[.val (.long px), .second, .val (.int ps), .val (.int pk), .val (.int pm), .unset, .unset, .val (.int (pm &&& (3 : Int32))), .unset, .unset, .unset] [(.ref b8)])) _
        refine XS.dup X19.here hx rfl (hb hby at_42) rfl rfl ?_
        show Steps p.tables e below (T19.setTop (mkF m 43 #[.val (.long px), .second, .val (.int ps), .val (.int pk), .val (.int pm), .unset, .unset, .val (.int (pm &&& (3 : Int32))), .unset, .unset, .unset] [(.ref b8), (.ref b8)])) _
        refine XS.iconst X19.here hx rfl (hb hby at_43) ?_
        show Steps p.tables e below (T19.setTop (mkF m 44 #[.val (.long px), .second, .val (.int ps), .val (.int pk), .val (.int pm), .unset, .unset, .val (.int (pm &&& (3 : Int32))), .unset, .unset, .unset] [(.int (2 : Int32)), (.ref b8), (.ref b8)])) _
        refine X19.ldc2J hx hown (mvT hZ (hw _ (List.mem_of_getElem? (i := 38) rfl))) (g := (mkF m 44 #[.val (.long px), .second, .val (.int ps), .val (.int pk), .val (.int pm), .unset, .unset, .val (.int (pm &&& (3 : Int32))), .unset, .unset, .unset] [(.int (2 : Int32)), (.ref b8), (.ref b8)])) rfl (hb hby at_44) ?_
        show Steps p.tables e below (T19.setTop (mkF m 47 #[.val (.long px), .second, .val (.int ps), .val (.int pk), .val (.int pm), .unset, .unset, .val (.int (pm &&& (3 : Int32))), .unset, .unset, .unset] [(.long (100 : Int64)), (.int (2 : Int32)), (.ref b8), (.ref b8)])) _
        refine st25 _ ?_
        show Steps p.tables e below (T25.setTop (mkF m 48 #[.val (.long px), .second, .val (.int ps), .val (.int pk), .val (.int pm), .unset, .unset, .val (.int (pm &&& (3 : Int32))), .unset, .unset, .unset] [(.ref b8)])) _
        refine XS.dup X25.here hx rfl (hb hby at_48) rfl rfl ?_
        show Steps p.tables e below (T25.setTop (mkF m 49 #[.val (.long px), .second, .val (.int ps), .val (.int pk), .val (.int pm), .unset, .unset, .val (.int (pm &&& (3 : Int32))), .unset, .unset, .unset] [(.ref b8), (.ref b8)])) _
        refine XS.iconst X25.here hx rfl (hb hby at_49) ?_
        show Steps p.tables e below (T25.setTop (mkF m 50 #[.val (.long px), .second, .val (.int ps), .val (.int pk), .val (.int pm), .unset, .unset, .val (.int (pm &&& (3 : Int32))), .unset, .unset, .unset] [(.int (3 : Int32)), (.ref b8), (.ref b8)])) _
        refine X25.ldc2J hx hown (mvT hZ (hw _ (List.mem_of_getElem? (i := 39) rfl))) (g := (mkF m 50 #[.val (.long px), .second, .val (.int ps), .val (.int pk), .val (.int pm), .unset, .unset, .val (.int (pm &&& (3 : Int32))), .unset, .unset, .unset] [(.int (3 : Int32)), (.ref b8), (.ref b8)])) rfl (hb hby at_50) ?_
        show Steps p.tables e below (T25.setTop (mkF m 53 #[.val (.long px), .second, .val (.int ps), .val (.int pk), .val (.int pm), .unset, .unset, .val (.int (pm &&& (3 : Int32))), .unset, .unset, .unset] [(.long (1000 : Int64)), (.int (3 : Int32)), (.ref b8), (.ref b8)])) _
        refine st31 _ ?_
        show Steps p.tables e below (T31.setTop (mkF m 54 #[.val (.long px), .second, .val (.int ps), .val (.int pk), .val (.int pm), .unset, .unset, .val (.int (pm &&& (3 : Int32))), .unset, .unset, .unset] [(.ref b8)])) _
        refine XS.dup X31.here hx rfl (hb hby at_54) rfl rfl ?_
        show Steps p.tables e below (T31.setTop (mkF m 55 #[.val (.long px), .second, .val (.int ps), .val (.int pk), .val (.int pm), .unset, .unset, .val (.int (pm &&& (3 : Int32))), .unset, .unset, .unset] [(.ref b8), (.ref b8)])) _
        refine XS.iconst X31.here hx rfl (hb hby at_55) ?_
        show Steps p.tables e below (T31.setTop (mkF m 56 #[.val (.long px), .second, .val (.int ps), .val (.int pk), .val (.int pm), .unset, .unset, .val (.int (pm &&& (3 : Int32))), .unset, .unset, .unset] [(.int (4 : Int32)), (.ref b8), (.ref b8)])) _
        refine X31.ldc2J hx hown (mvT hZ (hw _ (List.mem_of_getElem? (i := 40) rfl))) (g := (mkF m 56 #[.val (.long px), .second, .val (.int ps), .val (.int pk), .val (.int pm), .unset, .unset, .val (.int (pm &&& (3 : Int32))), .unset, .unset, .unset] [(.int (4 : Int32)), (.ref b8), (.ref b8)])) rfl (hb hby at_56) ?_
        show Steps p.tables e below (T31.setTop (mkF m 59 #[.val (.long px), .second, .val (.int ps), .val (.int pk), .val (.int pm), .unset, .unset, .val (.int (pm &&& (3 : Int32))), .unset, .unset, .unset] [(.long (10000 : Int64)), (.int (4 : Int32)), (.ref b8), (.ref b8)])) _
        refine st37 _ ?_
        show Steps p.tables e below (T37.setTop (mkF m 60 #[.val (.long px), .second, .val (.int ps), .val (.int pk), .val (.int pm), .unset, .unset, .val (.int (pm &&& (3 : Int32))), .unset, .unset, .unset] [(.ref b8)])) _
        refine XS.dup X37.here hx rfl (hb hby at_60) rfl rfl ?_
        show Steps p.tables e below (T37.setTop (mkF m 61 #[.val (.long px), .second, .val (.int ps), .val (.int pk), .val (.int pm), .unset, .unset, .val (.int (pm &&& (3 : Int32))), .unset, .unset, .unset] [(.ref b8), (.ref b8)])) _
        refine XS.iconst X37.here hx rfl (hb hby at_61) ?_
        show Steps p.tables e below (T37.setTop (mkF m 62 #[.val (.long px), .second, .val (.int ps), .val (.int pk), .val (.int pm), .unset, .unset, .val (.int (pm &&& (3 : Int32))), .unset, .unset, .unset] [(.int (5 : Int32)), (.ref b8), (.ref b8)])) _
        refine X37.ldc2J hx hown (mvT hZ (hw _ (List.mem_of_getElem? (i := 41) rfl))) (g := (mkF m 62 #[.val (.long px), .second, .val (.int ps), .val (.int pk), .val (.int pm), .unset, .unset, .val (.int (pm &&& (3 : Int32))), .unset, .unset, .unset] [(.int (5 : Int32)), (.ref b8), (.ref b8)])) rfl (hb hby at_62) ?_
        show Steps p.tables e below (T37.setTop (mkF m 65 #[.val (.long px), .second, .val (.int ps), .val (.int pk), .val (.int pm), .unset, .unset, .val (.int (pm &&& (3 : Int32))), .unset, .unset, .unset] [(.long (100000 : Int64)), (.int (5 : Int32)), (.ref b8), (.ref b8)])) _
        refine st43 _ ?_
        show Steps p.tables e below (T43.setTop (mkF m 66 #[.val (.long px), .second, .val (.int ps), .val (.int pk), .val (.int pm), .unset, .unset, .val (.int (pm &&& (3 : Int32))), .unset, .unset, .unset] [(.ref b8)])) _
        refine XS.dup X43.here hx rfl (hb hby at_66) rfl rfl ?_
        show Steps p.tables e below (T43.setTop (mkF m 67 #[.val (.long px), .second, .val (.int ps), .val (.int pk), .val (.int pm), .unset, .unset, .val (.int (pm &&& (3 : Int32))), .unset, .unset, .unset] [(.ref b8), (.ref b8)])) _
        refine XS.bipush X43.here hx rfl (hb hby at_67) ?_
        show Steps p.tables e below (T43.setTop (mkF m 69 #[.val (.long px), .second, .val (.int ps), .val (.int pk), .val (.int pm), .unset, .unset, .val (.int (pm &&& (3 : Int32))), .unset, .unset, .unset] [(.int (6 : Int32)), (.ref b8), (.ref b8)])) _
        refine X43.ldc2J hx hown (mvT hZ (hw _ (List.mem_of_getElem? (i := 42) rfl))) (g := (mkF m 69 #[.val (.long px), .second, .val (.int ps), .val (.int pk), .val (.int pm), .unset, .unset, .val (.int (pm &&& (3 : Int32))), .unset, .unset, .unset] [(.int (6 : Int32)), (.ref b8), (.ref b8)])) rfl (hb hby at_69) ?_
        show Steps p.tables e below (T43.setTop (mkF m 72 #[.val (.long px), .second, .val (.int ps), .val (.int pk), .val (.int pm), .unset, .unset, .val (.int (pm &&& (3 : Int32))), .unset, .unset, .unset] [(.long (1000000 : Int64)), (.int (6 : Int32)), (.ref b8), (.ref b8)])) _
        refine st49 _ ?_
        show Steps p.tables e below (T49.setTop (mkF m 73 #[.val (.long px), .second, .val (.int ps), .val (.int pk), .val (.int pm), .unset, .unset, .val (.int (pm &&& (3 : Int32))), .unset, .unset, .unset] [(.ref b8)])) _
        refine XS.dup X49.here hx rfl (hb hby at_73) rfl rfl ?_
        show Steps p.tables e below (T49.setTop (mkF m 74 #[.val (.long px), .second, .val (.int ps), .val (.int pk), .val (.int pm), .unset, .unset, .val (.int (pm &&& (3 : Int32))), .unset, .unset, .unset] [(.ref b8), (.ref b8)])) _
        refine XS.bipush X49.here hx rfl (hb hby at_74) ?_
        show Steps p.tables e below (T49.setTop (mkF m 76 #[.val (.long px), .second, .val (.int ps), .val (.int pk), .val (.int pm), .unset, .unset, .val (.int (pm &&& (3 : Int32))), .unset, .unset, .unset] [(.int (7 : Int32)), (.ref b8), (.ref b8)])) _
        refine X49.ldc2J hx hown (mvT hZ (hw _ (List.mem_of_getElem? (i := 43) rfl))) (g := (mkF m 76 #[.val (.long px), .second, .val (.int ps), .val (.int pk), .val (.int pm), .unset, .unset, .val (.int (pm &&& (3 : Int32))), .unset, .unset, .unset] [(.int (7 : Int32)), (.ref b8), (.ref b8)])) rfl (hb hby at_76) ?_
        show Steps p.tables e below (T49.setTop (mkF m 79 #[.val (.long px), .second, .val (.int ps), .val (.int pk), .val (.int pm), .unset, .unset, .val (.int (pm &&& (3 : Int32))), .unset, .unset, .unset] [(.long (10000000 : Int64)), (.int (7 : Int32)), (.ref b8), (.ref b8)])) _
        refine st55 _ ?_
        show Steps p.tables e below (T55.setTop (mkF m 80 #[.val (.long px), .second, .val (.int ps), .val (.int pk), .val (.int pm), .unset, .unset, .val (.int (pm &&& (3 : Int32))), .unset, .unset, .unset] [(.ref b8)])) _
        refine XS.dup X55.here hx rfl (hb hby at_80) rfl rfl ?_
        show Steps p.tables e below (T55.setTop (mkF m 81 #[.val (.long px), .second, .val (.int ps), .val (.int pk), .val (.int pm), .unset, .unset, .val (.int (pm &&& (3 : Int32))), .unset, .unset, .unset] [(.ref b8), (.ref b8)])) _
        refine XS.bipush X55.here hx rfl (hb hby at_81) ?_
        show Steps p.tables e below (T55.setTop (mkF m 83 #[.val (.long px), .second, .val (.int ps), .val (.int pk), .val (.int pm), .unset, .unset, .val (.int (pm &&& (3 : Int32))), .unset, .unset, .unset] [(.int (8 : Int32)), (.ref b8), (.ref b8)])) _
        refine X55.ldc2J hx hown (mvT hZ (hw _ (List.mem_of_getElem? (i := 44) rfl))) (g := (mkF m 83 #[.val (.long px), .second, .val (.int ps), .val (.int pk), .val (.int pm), .unset, .unset, .val (.int (pm &&& (3 : Int32))), .unset, .unset, .unset] [(.int (8 : Int32)), (.ref b8), (.ref b8)])) rfl (hb hby at_83) ?_
        show Steps p.tables e below (T55.setTop (mkF m 86 #[.val (.long px), .second, .val (.int ps), .val (.int pk), .val (.int pm), .unset, .unset, .val (.int (pm &&& (3 : Int32))), .unset, .unset, .unset] [(.long (100000000 : Int64)), (.int (8 : Int32)), (.ref b8), (.ref b8)])) _
        refine st61 _ ?_
        show Steps p.tables e below (T61.setTop (mkF m 87 #[.val (.long px), .second, .val (.int ps), .val (.int pk), .val (.int pm), .unset, .unset, .val (.int (pm &&& (3 : Int32))), .unset, .unset, .unset] [(.ref b8)])) _
        refine XS.dup X61.here hx rfl (hb hby at_87) rfl rfl ?_
        show Steps p.tables e below (T61.setTop (mkF m 88 #[.val (.long px), .second, .val (.int ps), .val (.int pk), .val (.int pm), .unset, .unset, .val (.int (pm &&& (3 : Int32))), .unset, .unset, .unset] [(.ref b8), (.ref b8)])) _
        refine XS.bipush X61.here hx rfl (hb hby at_88) ?_
        show Steps p.tables e below (T61.setTop (mkF m 90 #[.val (.long px), .second, .val (.int ps), .val (.int pk), .val (.int pm), .unset, .unset, .val (.int (pm &&& (3 : Int32))), .unset, .unset, .unset] [(.int (9 : Int32)), (.ref b8), (.ref b8)])) _
        refine X61.ldc2J hx hown (mvT hZ (hw _ (List.mem_of_getElem? (i := 45) rfl))) (g := (mkF m 90 #[.val (.long px), .second, .val (.int ps), .val (.int pk), .val (.int pm), .unset, .unset, .val (.int (pm &&& (3 : Int32))), .unset, .unset, .unset] [(.int (9 : Int32)), (.ref b8), (.ref b8)])) rfl (hb hby at_90) ?_
        show Steps p.tables e below (T61.setTop (mkF m 93 #[.val (.long px), .second, .val (.int ps), .val (.int pk), .val (.int pm), .unset, .unset, .val (.int (pm &&& (3 : Int32))), .unset, .unset, .unset] [(.long (1000000000 : Int64)), (.int (9 : Int32)), (.ref b8), (.ref b8)])) _
        refine st67 _ ?_
        show Steps p.tables e below (T67.setTop (mkF m 94 #[.val (.long px), .second, .val (.int ps), .val (.int pk), .val (.int pm), .unset, .unset, .val (.int (pm &&& (3 : Int32))), .unset, .unset, .unset] [(.ref b8)])) _
        refine XS.dup X67.here hx rfl (hb hby at_94) rfl rfl ?_
        show Steps p.tables e below (T67.setTop (mkF m 95 #[.val (.long px), .second, .val (.int ps), .val (.int pk), .val (.int pm), .unset, .unset, .val (.int (pm &&& (3 : Int32))), .unset, .unset, .unset] [(.ref b8), (.ref b8)])) _
        refine XS.bipush X67.here hx rfl (hb hby at_95) ?_
        show Steps p.tables e below (T67.setTop (mkF m 97 #[.val (.long px), .second, .val (.int ps), .val (.int pk), .val (.int pm), .unset, .unset, .val (.int (pm &&& (3 : Int32))), .unset, .unset, .unset] [(.int (10 : Int32)), (.ref b8), (.ref b8)])) _
        refine X67.ldc2J hx hown (mvT hZ (hw _ (List.mem_of_getElem? (i := 46) rfl))) (g := (mkF m 97 #[.val (.long px), .second, .val (.int ps), .val (.int pk), .val (.int pm), .unset, .unset, .val (.int (pm &&& (3 : Int32))), .unset, .unset, .unset] [(.int (10 : Int32)), (.ref b8), (.ref b8)])) rfl (hb hby at_97) ?_
        show Steps p.tables e below (T67.setTop (mkF m 100 #[.val (.long px), .second, .val (.int ps), .val (.int pk), .val (.int pm), .unset, .unset, .val (.int (pm &&& (3 : Int32))), .unset, .unset, .unset] [(.long (10000000000 : Int64)), (.int (10 : Int32)), (.ref b8), (.ref b8)])) _
        refine st73 _ ?_
        show Steps p.tables e below (T73.setTop (mkF m 101 #[.val (.long px), .second, .val (.int ps), .val (.int pk), .val (.int pm), .unset, .unset, .val (.int (pm &&& (3 : Int32))), .unset, .unset, .unset] [(.ref b8)])) _
        refine XS.dup X73.here hx rfl (hb hby at_101) rfl rfl ?_
        show Steps p.tables e below (T73.setTop (mkF m 102 #[.val (.long px), .second, .val (.int ps), .val (.int pk), .val (.int pm), .unset, .unset, .val (.int (pm &&& (3 : Int32))), .unset, .unset, .unset] [(.ref b8), (.ref b8)])) _
        refine XS.bipush X73.here hx rfl (hb hby at_102) ?_
        show Steps p.tables e below (T73.setTop (mkF m 104 #[.val (.long px), .second, .val (.int ps), .val (.int pk), .val (.int pm), .unset, .unset, .val (.int (pm &&& (3 : Int32))), .unset, .unset, .unset] [(.int (11 : Int32)), (.ref b8), (.ref b8)])) _
        refine X73.ldc2J hx hown (mvT hZ (hw _ (List.mem_of_getElem? (i := 47) rfl))) (g := (mkF m 104 #[.val (.long px), .second, .val (.int ps), .val (.int pk), .val (.int pm), .unset, .unset, .val (.int (pm &&& (3 : Int32))), .unset, .unset, .unset] [(.int (11 : Int32)), (.ref b8), (.ref b8)])) rfl (hb hby at_104) ?_
        show Steps p.tables e below (T73.setTop (mkF m 107 #[.val (.long px), .second, .val (.int ps), .val (.int pk), .val (.int pm), .unset, .unset, .val (.int (pm &&& (3 : Int32))), .unset, .unset, .unset] [(.long (100000000000 : Int64)), (.int (11 : Int32)), (.ref b8), (.ref b8)])) _
        refine st79 _ ?_
        show Steps p.tables e below (T79.setTop (mkF m 108 #[.val (.long px), .second, .val (.int ps), .val (.int pk), .val (.int pm), .unset, .unset, .val (.int (pm &&& (3 : Int32))), .unset, .unset, .unset] [(.ref b8)])) _
        refine XS.dup X79.here hx rfl (hb hby at_108) rfl rfl ?_
        show Steps p.tables e below (T79.setTop (mkF m 109 #[.val (.long px), .second, .val (.int ps), .val (.int pk), .val (.int pm), .unset, .unset, .val (.int (pm &&& (3 : Int32))), .unset, .unset, .unset] [(.ref b8), (.ref b8)])) _
        refine XS.bipush X79.here hx rfl (hb hby at_109) ?_
        show Steps p.tables e below (T79.setTop (mkF m 111 #[.val (.long px), .second, .val (.int ps), .val (.int pk), .val (.int pm), .unset, .unset, .val (.int (pm &&& (3 : Int32))), .unset, .unset, .unset] [(.int (12 : Int32)), (.ref b8), (.ref b8)])) _
        refine X79.ldc2J hx hown (mvT hZ (hw _ (List.mem_of_getElem? (i := 48) rfl))) (g := (mkF m 111 #[.val (.long px), .second, .val (.int ps), .val (.int pk), .val (.int pm), .unset, .unset, .val (.int (pm &&& (3 : Int32))), .unset, .unset, .unset] [(.int (12 : Int32)), (.ref b8), (.ref b8)])) rfl (hb hby at_111) ?_
        show Steps p.tables e below (T79.setTop (mkF m 114 #[.val (.long px), .second, .val (.int ps), .val (.int pk), .val (.int pm), .unset, .unset, .val (.int (pm &&& (3 : Int32))), .unset, .unset, .unset] [(.long (1000000000000 : Int64)), (.int (12 : Int32)), (.ref b8), (.ref b8)])) _
        refine st85 _ ?_
        show Steps p.tables e below (T85.setTop (mkF m 115 #[.val (.long px), .second, .val (.int ps), .val (.int pk), .val (.int pm), .unset, .unset, .val (.int (pm &&& (3 : Int32))), .unset, .unset, .unset] [(.ref b8)])) _
        refine XS.dup X85.here hx rfl (hb hby at_115) rfl rfl ?_
        show Steps p.tables e below (T85.setTop (mkF m 116 #[.val (.long px), .second, .val (.int ps), .val (.int pk), .val (.int pm), .unset, .unset, .val (.int (pm &&& (3 : Int32))), .unset, .unset, .unset] [(.ref b8), (.ref b8)])) _
        refine XS.bipush X85.here hx rfl (hb hby at_116) ?_
        show Steps p.tables e below (T85.setTop (mkF m 118 #[.val (.long px), .second, .val (.int ps), .val (.int pk), .val (.int pm), .unset, .unset, .val (.int (pm &&& (3 : Int32))), .unset, .unset, .unset] [(.int (13 : Int32)), (.ref b8), (.ref b8)])) _
        refine X85.ldc2J hx hown (mvT hZ (hw _ (List.mem_of_getElem? (i := 49) rfl))) (g := (mkF m 118 #[.val (.long px), .second, .val (.int ps), .val (.int pk), .val (.int pm), .unset, .unset, .val (.int (pm &&& (3 : Int32))), .unset, .unset, .unset] [(.int (13 : Int32)), (.ref b8), (.ref b8)])) rfl (hb hby at_118) ?_
        show Steps p.tables e below (T85.setTop (mkF m 121 #[.val (.long px), .second, .val (.int ps), .val (.int pk), .val (.int pm), .unset, .unset, .val (.int (pm &&& (3 : Int32))), .unset, .unset, .unset] [(.long (10000000000000 : Int64)), (.int (13 : Int32)), (.ref b8), (.ref b8)])) _
        refine st91 _ ?_
        show Steps p.tables e below (T91.setTop (mkF m 122 #[.val (.long px), .second, .val (.int ps), .val (.int pk), .val (.int pm), .unset, .unset, .val (.int (pm &&& (3 : Int32))), .unset, .unset, .unset] [(.ref b8)])) _
        refine XS.dup X91.here hx rfl (hb hby at_122) rfl rfl ?_
        show Steps p.tables e below (T91.setTop (mkF m 123 #[.val (.long px), .second, .val (.int ps), .val (.int pk), .val (.int pm), .unset, .unset, .val (.int (pm &&& (3 : Int32))), .unset, .unset, .unset] [(.ref b8), (.ref b8)])) _
        refine XS.bipush X91.here hx rfl (hb hby at_123) ?_
        show Steps p.tables e below (T91.setTop (mkF m 125 #[.val (.long px), .second, .val (.int ps), .val (.int pk), .val (.int pm), .unset, .unset, .val (.int (pm &&& (3 : Int32))), .unset, .unset, .unset] [(.int (14 : Int32)), (.ref b8), (.ref b8)])) _
        refine X91.ldc2J hx hown (mvT hZ (hw _ (List.mem_of_getElem? (i := 50) rfl))) (g := (mkF m 125 #[.val (.long px), .second, .val (.int ps), .val (.int pk), .val (.int pm), .unset, .unset, .val (.int (pm &&& (3 : Int32))), .unset, .unset, .unset] [(.int (14 : Int32)), (.ref b8), (.ref b8)])) rfl (hb hby at_125) ?_
        show Steps p.tables e below (T91.setTop (mkF m 128 #[.val (.long px), .second, .val (.int ps), .val (.int pk), .val (.int pm), .unset, .unset, .val (.int (pm &&& (3 : Int32))), .unset, .unset, .unset] [(.long (100000000000000 : Int64)), (.int (14 : Int32)), (.ref b8), (.ref b8)])) _
        refine st97 _ ?_
        show Steps p.tables e below (T97.setTop (mkF m 129 #[.val (.long px), .second, .val (.int ps), .val (.int pk), .val (.int pm), .unset, .unset, .val (.int (pm &&& (3 : Int32))), .unset, .unset, .unset] [(.ref b8)])) _
        refine XS.dup X97.here hx rfl (hb hby at_129) rfl rfl ?_
        show Steps p.tables e below (T97.setTop (mkF m 130 #[.val (.long px), .second, .val (.int ps), .val (.int pk), .val (.int pm), .unset, .unset, .val (.int (pm &&& (3 : Int32))), .unset, .unset, .unset] [(.ref b8), (.ref b8)])) _
        refine XS.bipush X97.here hx rfl (hb hby at_130) ?_
        show Steps p.tables e below (T97.setTop (mkF m 132 #[.val (.long px), .second, .val (.int ps), .val (.int pk), .val (.int pm), .unset, .unset, .val (.int (pm &&& (3 : Int32))), .unset, .unset, .unset] [(.int (15 : Int32)), (.ref b8), (.ref b8)])) _
        refine X97.ldc2J hx hown (mvT hZ (hw _ (List.mem_of_getElem? (i := 51) rfl))) (g := (mkF m 132 #[.val (.long px), .second, .val (.int ps), .val (.int pk), .val (.int pm), .unset, .unset, .val (.int (pm &&& (3 : Int32))), .unset, .unset, .unset] [(.int (15 : Int32)), (.ref b8), (.ref b8)])) rfl (hb hby at_132) ?_
        show Steps p.tables e below (T97.setTop (mkF m 135 #[.val (.long px), .second, .val (.int ps), .val (.int pk), .val (.int pm), .unset, .unset, .val (.int (pm &&& (3 : Int32))), .unset, .unset, .unset] [(.long (1000000000000000 : Int64)), (.int (15 : Int32)), (.ref b8), (.ref b8)])) _
        refine st103 _ ?_
        show Steps p.tables e below (T103.setTop (mkF m 136 #[.val (.long px), .second, .val (.int ps), .val (.int pk), .val (.int pm), .unset, .unset, .val (.int (pm &&& (3 : Int32))), .unset, .unset, .unset] [(.ref b8)])) _
        refine XS.dup X103.here hx rfl (hb hby at_136) rfl rfl ?_
        show Steps p.tables e below (T103.setTop (mkF m 137 #[.val (.long px), .second, .val (.int ps), .val (.int pk), .val (.int pm), .unset, .unset, .val (.int (pm &&& (3 : Int32))), .unset, .unset, .unset] [(.ref b8), (.ref b8)])) _
        refine XS.bipush X103.here hx rfl (hb hby at_137) ?_
        show Steps p.tables e below (T103.setTop (mkF m 139 #[.val (.long px), .second, .val (.int ps), .val (.int pk), .val (.int pm), .unset, .unset, .val (.int (pm &&& (3 : Int32))), .unset, .unset, .unset] [(.int (16 : Int32)), (.ref b8), (.ref b8)])) _
        refine X103.ldc2J hx hown (mvT hZ (hw _ (List.mem_of_getElem? (i := 52) rfl))) (g := (mkF m 139 #[.val (.long px), .second, .val (.int ps), .val (.int pk), .val (.int pm), .unset, .unset, .val (.int (pm &&& (3 : Int32))), .unset, .unset, .unset] [(.int (16 : Int32)), (.ref b8), (.ref b8)])) rfl (hb hby at_139) ?_
        show Steps p.tables e below (T103.setTop (mkF m 142 #[.val (.long px), .second, .val (.int ps), .val (.int pk), .val (.int pm), .unset, .unset, .val (.int (pm &&& (3 : Int32))), .unset, .unset, .unset] [(.long (10000000000000000 : Int64)), (.int (16 : Int32)), (.ref b8), (.ref b8)])) _
        refine st109 _ ?_
        show Steps p.tables e below (T109.setTop (mkF m 143 #[.val (.long px), .second, .val (.int ps), .val (.int pk), .val (.int pm), .unset, .unset, .val (.int (pm &&& (3 : Int32))), .unset, .unset, .unset] [(.ref b8)])) _
        refine XS.dup X109.here hx rfl (hb hby at_143) rfl rfl ?_
        show Steps p.tables e below (T109.setTop (mkF m 144 #[.val (.long px), .second, .val (.int ps), .val (.int pk), .val (.int pm), .unset, .unset, .val (.int (pm &&& (3 : Int32))), .unset, .unset, .unset] [(.ref b8), (.ref b8)])) _
        refine XS.bipush X109.here hx rfl (hb hby at_144) ?_
        show Steps p.tables e below (T109.setTop (mkF m 146 #[.val (.long px), .second, .val (.int ps), .val (.int pk), .val (.int pm), .unset, .unset, .val (.int (pm &&& (3 : Int32))), .unset, .unset, .unset] [(.int (17 : Int32)), (.ref b8), (.ref b8)])) _
        refine X109.ldc2J hx hown (mvT hZ (hw _ (List.mem_of_getElem? (i := 53) rfl))) (g := (mkF m 146 #[.val (.long px), .second, .val (.int ps), .val (.int pk), .val (.int pm), .unset, .unset, .val (.int (pm &&& (3 : Int32))), .unset, .unset, .unset] [(.int (17 : Int32)), (.ref b8), (.ref b8)])) rfl (hb hby at_146) ?_
        show Steps p.tables e below (T109.setTop (mkF m 149 #[.val (.long px), .second, .val (.int ps), .val (.int pk), .val (.int pm), .unset, .unset, .val (.int (pm &&& (3 : Int32))), .unset, .unset, .unset] [(.long (100000000000000000 : Int64)), (.int (17 : Int32)), (.ref b8), (.ref b8)])) _
        refine st115 _ ?_
        show Steps p.tables e below (T115.setTop (mkF m 150 #[.val (.long px), .second, .val (.int ps), .val (.int pk), .val (.int pm), .unset, .unset, .val (.int (pm &&& (3 : Int32))), .unset, .unset, .unset] [(.ref b8)])) _
        refine XS.dup X115.here hx rfl (hb hby at_150) rfl rfl ?_
        show Steps p.tables e below (T115.setTop (mkF m 151 #[.val (.long px), .second, .val (.int ps), .val (.int pk), .val (.int pm), .unset, .unset, .val (.int (pm &&& (3 : Int32))), .unset, .unset, .unset] [(.ref b8), (.ref b8)])) _
        refine XS.bipush X115.here hx rfl (hb hby at_151) ?_
        show Steps p.tables e below (T115.setTop (mkF m 153 #[.val (.long px), .second, .val (.int ps), .val (.int pk), .val (.int pm), .unset, .unset, .val (.int (pm &&& (3 : Int32))), .unset, .unset, .unset] [(.int (18 : Int32)), (.ref b8), (.ref b8)])) _
        refine X115.ldc2J hx hown (mvT hZ (hw _ (List.mem_of_getElem? (i := 54) rfl))) (g := (mkF m 153 #[.val (.long px), .second, .val (.int ps), .val (.int pk), .val (.int pm), .unset, .unset, .val (.int (pm &&& (3 : Int32))), .unset, .unset, .unset] [(.int (18 : Int32)), (.ref b8), (.ref b8)])) rfl (hb hby at_153) ?_
        show Steps p.tables e below (T115.setTop (mkF m 156 #[.val (.long px), .second, .val (.int ps), .val (.int pk), .val (.int pm), .unset, .unset, .val (.int (pm &&& (3 : Int32))), .unset, .unset, .unset] [(.long (1000000000000000000 : Int64)), (.int (18 : Int32)), (.ref b8), (.ref b8)])) _
        refine st121 _ ?_
        show Steps p.tables e below (T121.setTop (mkF m 157 #[.val (.long px), .second, .val (.int ps), .val (.int pk), .val (.int pm), .unset, .unset, .val (.int (pm &&& (3 : Int32))), .unset, .unset, .unset] [(.ref b8)])) _
        refine XS.astore X121.here hx rfl (hb hby at_157) rfl rfl (l' := #[.val (.long px), .second, .val (.int ps), .val (.int pk), .val (.int pm), .unset, .unset, .val (.int (pm &&& (3 : Int32))), .val (.ref b8), .unset, .unset]) rfl ?_
        show Steps p.tables e below (T121.setTop (mkF m 159 #[.val (.long px), .second, .val (.int ps), .val (.int pk), .val (.int pm), .unset, .unset, .val (.int (pm &&& (3 : Int32))), .val (.ref b8), .unset, .unset] [])) _
        refine XS.aload X121.here hx rfl (hb hby at_159) rfl rfl ?_
        show Steps p.tables e below (T121.setTop (mkF m 161 #[.val (.long px), .second, .val (.int ps), .val (.int pk), .val (.int pm), .unset, .unset, .val (.int (pm &&& (3 : Int32))), .val (.ref b8), .unset, .unset] [(.ref b8)])) _
        refine XS.iloadN X121.here hx rfl (hb hby at_161) rfl ?_
        show Steps p.tables e below (T121.setTop (mkF m 162 #[.val (.long px), .second, .val (.int ps), .val (.int pk), .val (.int pm), .unset, .unset, .val (.int (pm &&& (3 : Int32))), .val (.ref b8), .unset, .unset] [(.int pk), (.ref b8)])) _
        refine X121.ldcI hx hown (mvT hZ (hw _ (List.mem_of_getElem? (i := 55) rfl))) (g := (mkF m 162 #[.val (.long px), .second, .val (.int ps), .val (.int pk), .val (.int pm), .unset, .unset, .val (.int (pm &&& (3 : Int32))), .val (.ref b8), .unset, .unset] [(.int pk), (.ref b8)])) rfl (hb hby at_162) ?_
        show Steps p.tables e below (T121.setTop (mkF m 164 #[.val (.long px), .second, .val (.int ps), .val (.int pk), .val (.int pm), .unset, .unset, .val (.int (pm &&& (3 : Int32))), .val (.ref b8), .unset, .unset] [(.int (2147483647 : Int32)), (.int pk), (.ref b8)])) _
        refine XS.iand X121.here hx rfl (hb hby at_164) rfl ?_
        show Steps p.tables e below (T121.setTop (mkF m 165 #[.val (.long px), .second, .val (.int ps), .val (.int pk), .val (.int pm), .unset, .unset, .val (.int (pm &&& (3 : Int32))), .val (.ref b8), .unset, .unset] [(.int (pk &&& (2147483647 : Int32))), (.ref b8)])) _
        refine XS.bipush X121.here hx rfl (hb hby at_165) ?_
        show Steps p.tables e below (T121.setTop (mkF m 167 #[.val (.long px), .second, .val (.int ps), .val (.int pk), .val (.int pm), .unset, .unset, .val (.int (pm &&& (3 : Int32))), .val (.ref b8), .unset, .unset] [(.int (19 : Int32)), (.int (pk &&& (2147483647 : Int32))), (.ref b8)])) _
        refine iremM X121 hx rfl (hb hby at_167) rfl (by decide) ?_
        show Steps p.tables e below (T121.setTop (mkF m 168 #[.val (.long px), .second, .val (.int ps), .val (.int pk), .val (.int pm), .unset, .unset, .val (.int (pm &&& (3 : Int32))), .val (.ref b8), .unset, .unset] [(.int ((pk &&& (2147483647 : Int32)) % (19 : Int32))), (.ref b8)])) _
        refine X121.laload hx (j := ((pk &&& (2147483647 : Int32)) % (19 : Int32))) (v := (.long el127)) (by rw [e121]; exact Ar127.1) (State.isArrayOf_alike hZ.alike Ar127.2.1) Ar127.2.2 hin127 hat127 (g := (mkF m 168 #[.val (.long px), .second, .val (.int ps), .val (.int pk), .val (.int pm), .unset, .unset, .val (.int (pm &&& (3 : Int32))), .val (.ref b8), .unset, .unset] [(.int ((pk &&& (2147483647 : Int32)) % (19 : Int32))), (.ref b8)])) rfl rfl (hb hby at_168) _ ?_
        show Steps p.tables e below (T121.setTop (mkF m 169 #[.val (.long px), .second, .val (.int ps), .val (.int pk), .val (.int pm), .unset, .unset, .val (.int (pm &&& (3 : Int32))), .val (.ref b8), .unset, .unset] [(.long el127)])) _
        refine XS.iloadN X121.here hx rfl (hb hby at_169) rfl ?_
        show Steps p.tables e below (T121.setTop (mkF m 170 #[.val (.long px), .second, .val (.int ps), .val (.int pk), .val (.int pm), .unset, .unset, .val (.int (pm &&& (3 : Int32))), .val (.ref b8), .unset, .unset] [(.int ps), (.long el127)])) _
        refine XS.iconst X121.here hx rfl (hb hby at_170) ?_
        show Steps p.tables e below (T121.setTop (mkF m 171 #[.val (.long px), .second, .val (.int ps), .val (.int pk), .val (.int pm), .unset, .unset, .val (.int (pm &&& (3 : Int32))), .val (.ref b8), .unset, .unset] [(.int (3 : Int32)), (.int ps), (.long el127)])) _
        refine XS.iand X121.here hx rfl (hb hby at_171) rfl ?_
        show Steps p.tables e below (T121.setTop (mkF m 172 #[.val (.long px), .second, .val (.int ps), .val (.int pk), .val (.int pm), .unset, .unset, .val (.int (pm &&& (3 : Int32))), .val (.ref b8), .unset, .unset] [(.int (ps &&& (3 : Int32))), (.long el127)])) _
        refine XS.iconst X121.here hx rfl (hb hby at_172) ?_
        show Steps p.tables e below (T121.setTop (mkF m 173 #[.val (.long px), .second, .val (.int ps), .val (.int pk), .val (.int pm), .unset, .unset, .val (.int (pm &&& (3 : Int32))), .val (.ref b8), .unset, .unset] [(.int (2 : Int32)), (.int (ps &&& (3 : Int32))), (.long el127)])) _
        refine XS.isub X121.here hx rfl (hb hby at_173) rfl ?_
        show Steps p.tables e below (T121.setTop (mkF m 174 #[.val (.long px), .second, .val (.int ps), .val (.int pk), .val (.int pm), .unset, .unset, .val (.int (pm &&& (3 : Int32))), .val (.ref b8), .unset, .unset] [(.int ((ps &&& (3 : Int32)) - (2 : Int32))), (.long el127)])) _
        refine XS.i2l X121.here hx rfl (hb hby at_174) rfl ?_
        show Steps p.tables e below (T121.setTop (mkF m 175 #[.val (.long px), .second, .val (.int ps), .val (.int pk), .val (.int pm), .unset, .unset, .val (.int (pm &&& (3 : Int32))), .val (.ref b8), .unset, .unset] [(.long ((ps &&& (3 : Int32)) - (2 : Int32)).toInt64), (.long el127)])) _
        refine XS.ladd X121.here hx rfl (hb hby at_175) rfl ?_
        show Steps p.tables e below (T121.setTop (mkF m 176 #[.val (.long px), .second, .val (.int ps), .val (.int pk), .val (.int pm), .unset, .unset, .val (.int (pm &&& (3 : Int32))), .val (.ref b8), .unset, .unset] [(.long (el127 + ((ps &&& (3 : Int32)) - (2 : Int32)).toInt64))])) _
        refine XS.lstore X121.here hx rfl (hb hby at_176) rfl (l' := #[.val (.long px), .second, .val (.int ps), .val (.int pk), .val (.int pm), .unset, .unset, .val (.int (pm &&& (3 : Int32))), .val (.ref b8), .val (.long (el127 + ((ps &&& (3 : Int32)) - (2 : Int32)).toInt64)), .second]) rfl ?_
        show Steps p.tables e below (T121.setTop (mkF m 178 #[.val (.long px), .second, .val (.int ps), .val (.int pk), .val (.int pm), .unset, .unset, .val (.int (pm &&& (3 : Int32))), .val (.ref b8), .val (.long (el127 + ((ps &&& (3 : Int32)) - (2 : Int32)).toInt64)), .second] [])) _
        refine XS.iload X121.here hx rfl (hb hby at_178) rfl ?_
        show Steps p.tables e below (T121.setTop (mkF m 180 #[.val (.long px), .second, .val (.int ps), .val (.int pk), .val (.int pm), .unset, .unset, .val (.int (pm &&& (3 : Int32))), .val (.ref b8), .val (.long (el127 + ((ps &&& (3 : Int32)) - (2 : Int32)).toInt64)), .second] [(.int pm)])) _
        refine XS.iconst X121.here hx rfl (hb hby at_180) ?_
        show Steps p.tables e below (T121.setTop (mkF m 181 #[.val (.long px), .second, .val (.int ps), .val (.int pk), .val (.int pm), .unset, .unset, .val (.int (pm &&& (3 : Int32))), .val (.ref b8), .val (.long (el127 + ((ps &&& (3 : Int32)) - (2 : Int32)).toInt64)), .second] [(.int (4 : Int32)), (.int pm)])) _
        refine XS.iand X121.here hx rfl (hb hby at_181) rfl ?_
        exact kt
      obtain ⟨vq, pre129⟩ : ∃ vq : Int64, ∀ t, Steps p.tables e below (T121.setTop (mkF m 193 #[.val (.long px), .second, .val (.int ps), .val (.int pk), .val (.int pm), .unset, .unset, .val (.int (pm &&& (3 : Int32))), .val (.ref b8), .val (.long (el127 + ((ps &&& (3 : Int32)) - (2 : Int32)).toInt64)), .second] [(.long vq)])) t → Steps p.tables e below (s₁.setTop (entryFrame m #[(.long px), (.int ps), (.int pk), (.int pm)] maxLocals)) t := by
        by_cases hr182_130 : (pm &&& (4 : Int32)) = (0 : Int32)
        · refine ⟨(el127 + ((ps &&& (3 : Int32)) - (2 : Int32)).toInt64), fun t kt => ?_⟩
          refine pre128 _ ?_
          show Steps p.tables e below (T121.setTop (mkF m 182 #[.val (.long px), .second, .val (.int ps), .val (.int pk), .val (.int pm), .unset, .unset, .val (.int (pm &&& (3 : Int32))), .val (.ref b8), .val (.long (el127 + ((ps &&& (3 : Int32)) - (2 : Int32)).toInt64)), .second] [(.int (pm &&& (4 : Int32)))])) _
          refine XS.ifYes X121.here hx rfl (pc0 := 182) (pc' := 191) rfl (hb hby at_182) rfl (XT.i0_eq_t hr182_130) (by decide) (by decide) ?_
          show Steps p.tables e below (T121.setTop (mkF m 191 #[.val (.long px), .second, .val (.int ps), .val (.int pk), .val (.int pm), .unset, .unset, .val (.int (pm &&& (3 : Int32))), .val (.ref b8), .val (.long (el127 + ((ps &&& (3 : Int32)) - (2 : Int32)).toInt64)), .second] [])) _
          refine XS.lload X121.here hx rfl (hb hby at_191) rfl ?_
          exact kt
        · refine ⟨(-(el127 + ((ps &&& (3 : Int32)) - (2 : Int32)).toInt64)), fun t kt => ?_⟩
          refine pre128 _ ?_
          show Steps p.tables e below (T121.setTop (mkF m 182 #[.val (.long px), .second, .val (.int ps), .val (.int pk), .val (.int pm), .unset, .unset, .val (.int (pm &&& (3 : Int32))), .val (.ref b8), .val (.long (el127 + ((ps &&& (3 : Int32)) - (2 : Int32)).toInt64)), .second] [(.int (pm &&& (4 : Int32)))])) _
          refine XS.ifNo X121.here hx rfl (hb hby at_182) rfl (XT.i0_eq_f hr182_130) ?_
          show Steps p.tables e below (T121.setTop (mkF m 185 #[.val (.long px), .second, .val (.int ps), .val (.int pk), .val (.int pm), .unset, .unset, .val (.int (pm &&& (3 : Int32))), .val (.ref b8), .val (.long (el127 + ((ps &&& (3 : Int32)) - (2 : Int32)).toInt64)), .second] [])) _
          refine XS.lload X121.here hx rfl (hb hby at_185) rfl ?_
          show Steps p.tables e below (T121.setTop (mkF m 187 #[.val (.long px), .second, .val (.int ps), .val (.int pk), .val (.int pm), .unset, .unset, .val (.int (pm &&& (3 : Int32))), .val (.ref b8), .val (.long (el127 + ((ps &&& (3 : Int32)) - (2 : Int32)).toInt64)), .second] [(.long (el127 + ((ps &&& (3 : Int32)) - (2 : Int32)).toInt64))])) _
          refine XS.lneg X121.here hx rfl (hb hby at_187) rfl ?_
          show Steps p.tables e below (T121.setTop (mkF m 188 #[.val (.long px), .second, .val (.int ps), .val (.int pk), .val (.int pm), .unset, .unset, .val (.int (pm &&& (3 : Int32))), .val (.ref b8), .val (.long (el127 + ((ps &&& (3 : Int32)) - (2 : Int32)).toInt64)), .second] [(.long (-(el127 + ((ps &&& (3 : Int32)) - (2 : Int32)).toInt64)))])) _
          refine XS.goto X121.here hx rfl (pc0 := 188) (pc' := 193) rfl (hb hby at_188) (by decide) (by decide) ?_
          exact kt
      obtain ⟨_, _, ⟨T131, L131, k131, n131⟩, -, X131, ⟨Lc131, hQ131, l131, y131, z131⟩, st131⟩ := Jvm.LawKit.callS X121 hx (y := (⟨"crestline/WholeDigits", "count", "(J)I"⟩ : MethodName)) hown (mvT hZ (hw _ (List.mem_of_getElem? (i := 0) rfl))) (mvT hZ (hw _ (List.mem_of_getElem? (i := 1) rfl))) (mvT hZ (hw _ (List.mem_of_getElem? (i := 2) rfl))) (mvT hZ (hw _ (List.mem_of_getElem? (i := 3) rfl))) (by decide) (backOf (W := 0) (rm6 l Z a0 hw [] vq pa cl h121 n0 Z126 f121_122 f121_123 hlen El1 El2 El3 El4 El5 El6 El7 El8 El9 El10 El11 El12 El13 El14 El15 El16 El17 El18) hZ (hw _ (List.mem_of_getElem? (i := 3) rfl)) (hw _ (List.mem_of_getElem? (i := 2) rfl)) (by decide) (by decide)) (g := (mkF m 231 #[.val (.long px), .second, .val (.int ps), .val (.int pk), .val (.int pm), .val (.long vq), .second, .val (.int (pm &&& (3 : Int32))), .val (.ref b8), .val (.long (el127 + ((ps &&& (3 : Int32)) - (2 : Int32)).toInt64)), .second] [(.long vq)])) rfl (by rw [hml]; rfl) (argsL := [(.long vq)]) (rest := []) (lenOf pd0_0 rfl) rfl (by show 2 * 0 + _ ≤ _; exact Nat.le_of_eq rfl) (hb hby at_231) (fun _ _ => ⟨rfl, e121, (by decide : 1 + 0 ≤ _), (by decide : 19 + 0 ≤ _)⟩)
      dsimp only [Pt.U, Pt.locs, Pt.cells, Pt.slots] at X131 l131 y131 z131 st131 hQ131
      subst l131 y131 z131
      obtain ⟨rfl, N131q, e131⟩ := hQ131
      have N131 := Fr.app N121 N131q
      obtain ⟨_, _, ⟨T132, L132, k132, n132⟩, -, X132, ⟨Lc132, hQ132, l132, y132, z132⟩, st132⟩ := Jvm.LawKit.callS X131 hx (y := (⟨"crestline/WholeDigitsCountPinLaw", "expected", "(J)I"⟩ : MethodName)) hown (mvT hZ (hw _ (List.mem_of_getElem? (i := 6) rfl))) (mvT hZ (hw _ (List.mem_of_getElem? (i := 7) rfl))) (mvT hZ (hw _ (List.mem_of_getElem? (i := 8) rfl))) (mvT hZ (hw _ (List.mem_of_getElem? (i := 9) rfl))) (by decide) (backOf (W := 1) (rm2 l Z a0 hw [] vq h121 n0 Z126) hZ (hw _ (List.mem_of_getElem? (i := 9) rfl)) (hw _ (List.mem_of_getElem? (i := 8) rfl)) (by decide) (by decide)) (g := (mkF m 236 #[.val (.long px), .second, .val (.int ps), .val (.int pk), .val (.int pm), .val (.long vq), .second, .val (.int (pm &&& (3 : Int32))), .val (.ref b8), .val (.long (el127 + ((ps &&& (3 : Int32)) - (2 : Int32)).toInt64)), .second] [(.long vq), (.int (cntF vq))])) rfl (by rw [hml]; rfl) (argsL := [(.long vq)]) (rest := [(.int (cntF vq))]) (lenOf pd0_0 rfl) rfl (by show 2 * 0 + _ ≤ _; exact Nat.le_of_eq rfl) (hb hby at_236) (fun _ _ => ⟨rfl, e131, (by decide : 1 + 0 ≤ _), (by decide : 19 + 0 ≤ _)⟩)
      dsimp only [Pt.U, Pt.locs, Pt.cells, Pt.slots] at X132 l132 y132 z132 st132 hQ132
      subst l132 y132 z132
      obtain ⟨rfl, N132q, e132⟩ := hQ132
      have N132 := Fr.app N131 N132q
      have pre133 : ∀ t, Steps p.tables e below (T132.setTop (mkF m 247 #[.val (.long px), .second, .val (.int ps), .val (.int pk), .val (.int pm), .val (.long vq), .second, .val (.int (pm &&& (3 : Int32))), .val (.ref b8), .val (.long (el127 + ((ps &&& (3 : Int32)) - (2 : Int32)).toInt64)), .second] [(.int (1 : Int32))])) t → Steps p.tables e below (s₁.setTop (entryFrame m #[(.long px), (.int ps), (.int pk), (.int pm)] maxLocals)) t := by
        intro t kt
        refine pre129 _ ?_
        show Steps p.tables e below (T121.setTop (mkF m 193 #[.val (.long px), .second, .val (.int ps), .val (.int pk), .val (.int pm), .unset, .unset, .val (.int (pm &&& (3 : Int32))), .val (.ref b8), .val (.long (el127 + ((ps &&& (3 : Int32)) - (2 : Int32)).toInt64)), .second] [(.long vq)])) _
        refine XS.lstore X121.here hx rfl (hb hby at_193) rfl (l' := #[.val (.long px), .second, .val (.int ps), .val (.int pk), .val (.int pm), .val (.long vq), .second, .val (.int (pm &&& (3 : Int32))), .val (.ref b8), .val (.long (el127 + ((ps &&& (3 : Int32)) - (2 : Int32)).toInt64)), .second]) rfl ?_
        show Steps p.tables e below (T121.setTop (mkF m 195 #[.val (.long px), .second, .val (.int ps), .val (.int pk), .val (.int pm), .val (.long vq), .second, .val (.int (pm &&& (3 : Int32))), .val (.ref b8), .val (.long (el127 + ((ps &&& (3 : Int32)) - (2 : Int32)).toInt64)), .second] [])) _
        refine XS.goto X121.here hx rfl (pc0 := 195) (pc' := 229) rfl (hb hby at_195) (by decide) (by decide) ?_
        show Steps p.tables e below (T121.setTop (mkF m 229 #[.val (.long px), .second, .val (.int ps), .val (.int pk), .val (.int pm), .val (.long vq), .second, .val (.int (pm &&& (3 : Int32))), .val (.ref b8), .val (.long (el127 + ((ps &&& (3 : Int32)) - (2 : Int32)).toInt64)), .second] [])) _
        refine XS.lload X121.here hx rfl (hb hby at_229) rfl ?_
        show Steps p.tables e below (T121.setTop (mkF m 231 #[.val (.long px), .second, .val (.int ps), .val (.int pk), .val (.int pm), .val (.long vq), .second, .val (.int (pm &&& (3 : Int32))), .val (.ref b8), .val (.long (el127 + ((ps &&& (3 : Int32)) - (2 : Int32)).toInt64)), .second] [(.long vq)])) _
        refine st131 _ ?_
        show Steps p.tables e below (T131.setTop (mkF m 234 #[.val (.long px), .second, .val (.int ps), .val (.int pk), .val (.int pm), .val (.long vq), .second, .val (.int (pm &&& (3 : Int32))), .val (.ref b8), .val (.long (el127 + ((ps &&& (3 : Int32)) - (2 : Int32)).toInt64)), .second] [(.int (cntF vq))])) _
        refine XS.lload X131.here hx rfl (hb hby at_234) rfl ?_
        show Steps p.tables e below (T131.setTop (mkF m 236 #[.val (.long px), .second, .val (.int ps), .val (.int pk), .val (.int pm), .val (.long vq), .second, .val (.int (pm &&& (3 : Int32))), .val (.ref b8), .val (.long (el127 + ((ps &&& (3 : Int32)) - (2 : Int32)).toInt64)), .second] [(.long vq), (.int (cntF vq))])) _
        refine st132 _ ?_
        show Steps p.tables e below (T132.setTop (mkF m 239 #[.val (.long px), .second, .val (.int ps), .val (.int pk), .val (.int pm), .val (.long vq), .second, .val (.int (pm &&& (3 : Int32))), .val (.ref b8), .val (.long (el127 + ((ps &&& (3 : Int32)) - (2 : Int32)).toInt64)), .second] [(.int (expF vq)), (.int (cntF vq))])) _
        refine XS.icmpNo X132.here hx rfl (hb hby at_239) rfl (XT.ii_ne_f (law_eq _)) ?_
        show Steps p.tables e below (T132.setTop (mkF m 242 #[.val (.long px), .second, .val (.int ps), .val (.int pk), .val (.int pm), .val (.long vq), .second, .val (.int (pm &&& (3 : Int32))), .val (.ref b8), .val (.long (el127 + ((ps &&& (3 : Int32)) - (2 : Int32)).toInt64)), .second] [])) _
        refine XS.iconst X132.here hx rfl (hb hby at_242) ?_
        show Steps p.tables e below (T132.setTop (mkF m 243 #[.val (.long px), .second, .val (.int ps), .val (.int pk), .val (.int pm), .val (.long vq), .second, .val (.int (pm &&& (3 : Int32))), .val (.ref b8), .val (.long (el127 + ((ps &&& (3 : Int32)) - (2 : Int32)).toInt64)), .second] [(.int (1 : Int32))])) _
        refine XS.goto X132.here hx rfl (pc0 := 243) (pc' := 247) rfl (hb hby at_243) (by decide) (by decide) ?_
        exact kt
      obtain ⟨fs, hr, hrun, hended, hW, hsame⟩ := X132.leave (v := some (.int (1 : Int32))) (fun h => by rw [Bd.returns] at h; cases h)
      refine ⟨_, _, pre133 _ ?_, hrun, hended, _, _, rfl, ?_, ⟨_, rfl⟩, hW, hsame.mono (by decide) (by decide)⟩
      · show Steps p.tables e below (T132.setTop (mkF m 247 #[.val (.long px), .second, .val (.int ps), .val (.int pk), .val (.int pm), .val (.long vq), .second, .val (.int (pm &&& (3 : Int32))), .val (.ref b8), .val (.long (el127 + ((ps &&& (3 : Int32)) - (2 : Int32)).toInt64)), .second] [(.int (1 : Int32))])) _
        exact retN X132 hx (t := .boolean) Bd.returns (by simp) (hb hby at_247) hr
      · show Q0 Z h0 n0 _ T132.heap _
        exact ⟨rfl, N132⟩
    · have pre134 : ∀ t, Steps p.tables e below (s₁.setTop (mkF m 201 #[.val (.long px), .second, .val (.int ps), .val (.int pk), .val (.int pm), .unset, .unset, .val (.int (pm &&& (3 : Int32))), .unset, .unset, .unset] [(.int (2 : Int32)), (.int (pm &&& (3 : Int32)))])) t → Steps p.tables e below (s₁.setTop (entryFrame m #[(.long px), (.int ps), (.int pk), (.int pm)] maxLocals)) t := by
        intro t kt
        refine pre6 _ ?_
        show Steps p.tables e below (s₁.setTop (mkF m 25 #[.val (.long px), .second, .val (.int ps), .val (.int pk), .val (.int pm), .unset, .unset, .val (.int (pm &&& (3 : Int32))), .unset, .unset, .unset] [(.int (1 : Int32)), (.int (pm &&& (3 : Int32)))])) _
        refine XS.icmpYes X0.here hx rfl (pc0 := 25) (pc' := 198) rfl (hb hby at_25) rfl (XT.ii_ne_t hc25_7) (by decide) (by decide) ?_
        show Steps p.tables e below (s₁.setTop (mkF m 198 #[.val (.long px), .second, .val (.int ps), .val (.int pk), .val (.int pm), .unset, .unset, .val (.int (pm &&& (3 : Int32))), .unset, .unset, .unset] [])) _
        refine XS.iload X0.here hx rfl (hb hby at_198) rfl ?_
        show Steps p.tables e below (s₁.setTop (mkF m 200 #[.val (.long px), .second, .val (.int ps), .val (.int pk), .val (.int pm), .unset, .unset, .val (.int (pm &&& (3 : Int32))), .unset, .unset, .unset] [(.int (pm &&& (3 : Int32)))])) _
        refine XS.iconst X0.here hx rfl (hb hby at_200) ?_
        exact kt
      by_cases hc201_135 : (pm &&& (3 : Int32)) = (2 : Int32)
      · obtain ⟨_, _, ⟨T136, L136, k136, n136⟩, -, X136, ⟨Lc136, hQ136, l136, y136, z136⟩, st136⟩ := Jvm.LawKit.callS X0 hx (y := (⟨"crestline/WholeDigits", "count", "(J)I"⟩ : MethodName)) hown (mvT hZ (hw _ (List.mem_of_getElem? (i := 0) rfl))) (mvT hZ (hw _ (List.mem_of_getElem? (i := 1) rfl))) (mvT hZ (hw _ (List.mem_of_getElem? (i := 2) rfl))) (mvT hZ (hw _ (List.mem_of_getElem? (i := 3) rfl))) (by decide) (backOf (W := 0) (rm6 l Z a0 hw [] ((-9223372036854775808 : Int64) + (px &&& (7 : Int64))) pa cl h0 n0 Z0 S_P Ar hlen El1 El2 El3 El4 El5 El6 El7 El8 El9 El10 El11 El12 El13 El14 El15 El16 El17 El18) hZ (hw _ (List.mem_of_getElem? (i := 3) rfl)) (hw _ (List.mem_of_getElem? (i := 2) rfl)) (by decide) (by decide)) (g := (mkF m 231 #[.val (.long px), .second, .val (.int ps), .val (.int pk), .val (.int pm), .val (.long ((-9223372036854775808 : Int64) + (px &&& (7 : Int64)))), .second, .val (.int (pm &&& (3 : Int32))), .unset, .unset, .unset] [(.long ((-9223372036854775808 : Int64) + (px &&& (7 : Int64))))])) rfl (by rw [hml]; rfl) (argsL := [(.long ((-9223372036854775808 : Int64) + (px &&& (7 : Int64))))]) (rest := []) (lenOf pd0_0 rfl) rfl (by show 2 * 0 + _ ≤ _; exact Nat.le_of_eq rfl) (hb hby at_231) (fun _ _ => ⟨rfl, e0, (by decide : 0 + 0 ≤ _), (by decide : 0 + 0 ≤ _)⟩)
        dsimp only [Pt.U, Pt.locs, Pt.cells, Pt.slots] at X136 l136 y136 z136 st136 hQ136
        subst l136 y136 z136
        obtain ⟨rfl, N136q, e136⟩ := hQ136
        have N136 := Fr.app N0 N136q
        obtain ⟨_, _, ⟨T137, L137, k137, n137⟩, -, X137, ⟨Lc137, hQ137, l137, y137, z137⟩, st137⟩ := Jvm.LawKit.callS X136 hx (y := (⟨"crestline/WholeDigitsCountPinLaw", "expected", "(J)I"⟩ : MethodName)) hown (mvT hZ (hw _ (List.mem_of_getElem? (i := 6) rfl))) (mvT hZ (hw _ (List.mem_of_getElem? (i := 7) rfl))) (mvT hZ (hw _ (List.mem_of_getElem? (i := 8) rfl))) (mvT hZ (hw _ (List.mem_of_getElem? (i := 9) rfl))) (by decide) (backOf (W := 1) (rm2 l Z a0 hw [] ((-9223372036854775808 : Int64) + (px &&& (7 : Int64))) h0 n0 Z0) hZ (hw _ (List.mem_of_getElem? (i := 9) rfl)) (hw _ (List.mem_of_getElem? (i := 8) rfl)) (by decide) (by decide)) (g := (mkF m 236 #[.val (.long px), .second, .val (.int ps), .val (.int pk), .val (.int pm), .val (.long ((-9223372036854775808 : Int64) + (px &&& (7 : Int64)))), .second, .val (.int (pm &&& (3 : Int32))), .unset, .unset, .unset] [(.long ((-9223372036854775808 : Int64) + (px &&& (7 : Int64)))), (.int (cntF ((-9223372036854775808 : Int64) + (px &&& (7 : Int64)))))])) rfl (by rw [hml]; rfl) (argsL := [(.long ((-9223372036854775808 : Int64) + (px &&& (7 : Int64))))]) (rest := [(.int (cntF ((-9223372036854775808 : Int64) + (px &&& (7 : Int64)))))]) (lenOf pd0_0 rfl) rfl (by show 2 * 0 + _ ≤ _; exact Nat.le_of_eq rfl) (hb hby at_236) (fun _ _ => ⟨rfl, e136, (by decide : 0 + 0 ≤ _), (by decide : 0 + 0 ≤ _)⟩)
        dsimp only [Pt.U, Pt.locs, Pt.cells, Pt.slots] at X137 l137 y137 z137 st137 hQ137
        subst l137 y137 z137
        obtain ⟨rfl, N137q, e137⟩ := hQ137
        have N137 := Fr.app N136 N137q
        have pre138 : ∀ t, Steps p.tables e below (T137.setTop (mkF m 247 #[.val (.long px), .second, .val (.int ps), .val (.int pk), .val (.int pm), .val (.long ((-9223372036854775808 : Int64) + (px &&& (7 : Int64)))), .second, .val (.int (pm &&& (3 : Int32))), .unset, .unset, .unset] [(.int (1 : Int32))])) t → Steps p.tables e below (s₁.setTop (entryFrame m #[(.long px), (.int ps), (.int pk), (.int pm)] maxLocals)) t := by
          intro t kt
          refine pre134 _ ?_
          show Steps p.tables e below (s₁.setTop (mkF m 201 #[.val (.long px), .second, .val (.int ps), .val (.int pk), .val (.int pm), .unset, .unset, .val (.int (pm &&& (3 : Int32))), .unset, .unset, .unset] [(.int (2 : Int32)), (.int (pm &&& (3 : Int32)))])) _
          refine XS.icmpNo X0.here hx rfl (hb hby at_201) rfl (XT.ii_ne_f hc201_135) ?_
          show Steps p.tables e below (s₁.setTop (mkF m 204 #[.val (.long px), .second, .val (.int ps), .val (.int pk), .val (.int pm), .unset, .unset, .val (.int (pm &&& (3 : Int32))), .unset, .unset, .unset] [])) _
          refine X0.ldc2J hx hown (mvT hZ (hw _ (List.mem_of_getElem? (i := 34) rfl))) (g := (mkF m 204 #[.val (.long px), .second, .val (.int ps), .val (.int pk), .val (.int pm), .unset, .unset, .val (.int (pm &&& (3 : Int32))), .unset, .unset, .unset] [])) rfl (hb hby at_204) ?_
          show Steps p.tables e below (s₁.setTop (mkF m 207 #[.val (.long px), .second, .val (.int ps), .val (.int pk), .val (.int pm), .unset, .unset, .val (.int (pm &&& (3 : Int32))), .unset, .unset, .unset] [(.long (-9223372036854775808 : Int64))])) _
          refine XS.lloadN X0.here hx rfl (hb hby at_207) rfl ?_
          show Steps p.tables e below (s₁.setTop (mkF m 208 #[.val (.long px), .second, .val (.int ps), .val (.int pk), .val (.int pm), .unset, .unset, .val (.int (pm &&& (3 : Int32))), .unset, .unset, .unset] [(.long px), (.long (-9223372036854775808 : Int64))])) _
          refine X0.ldc2J hx hown (mvT hZ (hw _ (List.mem_of_getElem? (i := 15) rfl))) (g := (mkF m 208 #[.val (.long px), .second, .val (.int ps), .val (.int pk), .val (.int pm), .unset, .unset, .val (.int (pm &&& (3 : Int32))), .unset, .unset, .unset] [(.long px), (.long (-9223372036854775808 : Int64))])) rfl (hb hby at_208) ?_
          show Steps p.tables e below (s₁.setTop (mkF m 211 #[.val (.long px), .second, .val (.int ps), .val (.int pk), .val (.int pm), .unset, .unset, .val (.int (pm &&& (3 : Int32))), .unset, .unset, .unset] [(.long (7 : Int64)), (.long px), (.long (-9223372036854775808 : Int64))])) _
          refine XS.land X0.here hx rfl (hb hby at_211) rfl ?_
          show Steps p.tables e below (s₁.setTop (mkF m 212 #[.val (.long px), .second, .val (.int ps), .val (.int pk), .val (.int pm), .unset, .unset, .val (.int (pm &&& (3 : Int32))), .unset, .unset, .unset] [(.long (px &&& (7 : Int64))), (.long (-9223372036854775808 : Int64))])) _
          refine XS.ladd X0.here hx rfl (hb hby at_212) rfl ?_
          show Steps p.tables e below (s₁.setTop (mkF m 213 #[.val (.long px), .second, .val (.int ps), .val (.int pk), .val (.int pm), .unset, .unset, .val (.int (pm &&& (3 : Int32))), .unset, .unset, .unset] [(.long ((-9223372036854775808 : Int64) + (px &&& (7 : Int64))))])) _
          refine XS.lstore X0.here hx rfl (hb hby at_213) rfl (l' := #[.val (.long px), .second, .val (.int ps), .val (.int pk), .val (.int pm), .val (.long ((-9223372036854775808 : Int64) + (px &&& (7 : Int64)))), .second, .val (.int (pm &&& (3 : Int32))), .unset, .unset, .unset]) rfl ?_
          show Steps p.tables e below (s₁.setTop (mkF m 215 #[.val (.long px), .second, .val (.int ps), .val (.int pk), .val (.int pm), .val (.long ((-9223372036854775808 : Int64) + (px &&& (7 : Int64)))), .second, .val (.int (pm &&& (3 : Int32))), .unset, .unset, .unset] [])) _
          refine XS.goto X0.here hx rfl (pc0 := 215) (pc' := 229) rfl (hb hby at_215) (by decide) (by decide) ?_
          show Steps p.tables e below (s₁.setTop (mkF m 229 #[.val (.long px), .second, .val (.int ps), .val (.int pk), .val (.int pm), .val (.long ((-9223372036854775808 : Int64) + (px &&& (7 : Int64)))), .second, .val (.int (pm &&& (3 : Int32))), .unset, .unset, .unset] [])) _
          refine XS.lload X0.here hx rfl (hb hby at_229) rfl ?_
          show Steps p.tables e below (s₁.setTop (mkF m 231 #[.val (.long px), .second, .val (.int ps), .val (.int pk), .val (.int pm), .val (.long ((-9223372036854775808 : Int64) + (px &&& (7 : Int64)))), .second, .val (.int (pm &&& (3 : Int32))), .unset, .unset, .unset] [(.long ((-9223372036854775808 : Int64) + (px &&& (7 : Int64))))])) _
          refine st136 _ ?_
          show Steps p.tables e below (T136.setTop (mkF m 234 #[.val (.long px), .second, .val (.int ps), .val (.int pk), .val (.int pm), .val (.long ((-9223372036854775808 : Int64) + (px &&& (7 : Int64)))), .second, .val (.int (pm &&& (3 : Int32))), .unset, .unset, .unset] [(.int (cntF ((-9223372036854775808 : Int64) + (px &&& (7 : Int64)))))])) _
          refine XS.lload X136.here hx rfl (hb hby at_234) rfl ?_
          show Steps p.tables e below (T136.setTop (mkF m 236 #[.val (.long px), .second, .val (.int ps), .val (.int pk), .val (.int pm), .val (.long ((-9223372036854775808 : Int64) + (px &&& (7 : Int64)))), .second, .val (.int (pm &&& (3 : Int32))), .unset, .unset, .unset] [(.long ((-9223372036854775808 : Int64) + (px &&& (7 : Int64)))), (.int (cntF ((-9223372036854775808 : Int64) + (px &&& (7 : Int64)))))])) _
          refine st137 _ ?_
          show Steps p.tables e below (T137.setTop (mkF m 239 #[.val (.long px), .second, .val (.int ps), .val (.int pk), .val (.int pm), .val (.long ((-9223372036854775808 : Int64) + (px &&& (7 : Int64)))), .second, .val (.int (pm &&& (3 : Int32))), .unset, .unset, .unset] [(.int (expF ((-9223372036854775808 : Int64) + (px &&& (7 : Int64))))), (.int (cntF ((-9223372036854775808 : Int64) + (px &&& (7 : Int64)))))])) _
          refine XS.icmpNo X137.here hx rfl (hb hby at_239) rfl (XT.ii_ne_f (law_eq _)) ?_
          show Steps p.tables e below (T137.setTop (mkF m 242 #[.val (.long px), .second, .val (.int ps), .val (.int pk), .val (.int pm), .val (.long ((-9223372036854775808 : Int64) + (px &&& (7 : Int64)))), .second, .val (.int (pm &&& (3 : Int32))), .unset, .unset, .unset] [])) _
          refine XS.iconst X137.here hx rfl (hb hby at_242) ?_
          show Steps p.tables e below (T137.setTop (mkF m 243 #[.val (.long px), .second, .val (.int ps), .val (.int pk), .val (.int pm), .val (.long ((-9223372036854775808 : Int64) + (px &&& (7 : Int64)))), .second, .val (.int (pm &&& (3 : Int32))), .unset, .unset, .unset] [(.int (1 : Int32))])) _
          refine XS.goto X137.here hx rfl (pc0 := 243) (pc' := 247) rfl (hb hby at_243) (by decide) (by decide) ?_
          exact kt
        obtain ⟨fs, hr, hrun, hended, hW, hsame⟩ := X137.leave (v := some (.int (1 : Int32))) (fun h => by rw [Bd.returns] at h; cases h)
        refine ⟨_, _, pre138 _ ?_, hrun, hended, _, _, rfl, ?_, ⟨_, rfl⟩, hW, hsame.mono (by decide) (by decide)⟩
        · show Steps p.tables e below (T137.setTop (mkF m 247 #[.val (.long px), .second, .val (.int ps), .val (.int pk), .val (.int pm), .val (.long ((-9223372036854775808 : Int64) + (px &&& (7 : Int64)))), .second, .val (.int (pm &&& (3 : Int32))), .unset, .unset, .unset] [(.int (1 : Int32))])) _
          exact retN X137 hx (t := .boolean) Bd.returns (by simp) (hb hby at_247) hr
        · show Q0 Z h0 n0 _ T137.heap _
          exact ⟨rfl, N137⟩
      · obtain ⟨_, _, ⟨T139, L139, k139, n139⟩, -, X139, ⟨Lc139, hQ139, l139, y139, z139⟩, st139⟩ := Jvm.LawKit.callS X0 hx (y := (⟨"crestline/WholeDigits", "count", "(J)I"⟩ : MethodName)) hown (mvT hZ (hw _ (List.mem_of_getElem? (i := 0) rfl))) (mvT hZ (hw _ (List.mem_of_getElem? (i := 1) rfl))) (mvT hZ (hw _ (List.mem_of_getElem? (i := 2) rfl))) (mvT hZ (hw _ (List.mem_of_getElem? (i := 3) rfl))) (by decide) (backOf (W := 0) (rm6 l Z a0 hw [] ((9223372036854775807 : Int64) - (px &&& (7 : Int64))) pa cl h0 n0 Z0 S_P Ar hlen El1 El2 El3 El4 El5 El6 El7 El8 El9 El10 El11 El12 El13 El14 El15 El16 El17 El18) hZ (hw _ (List.mem_of_getElem? (i := 3) rfl)) (hw _ (List.mem_of_getElem? (i := 2) rfl)) (by decide) (by decide)) (g := (mkF m 231 #[.val (.long px), .second, .val (.int ps), .val (.int pk), .val (.int pm), .val (.long ((9223372036854775807 : Int64) - (px &&& (7 : Int64)))), .second, .val (.int (pm &&& (3 : Int32))), .unset, .unset, .unset] [(.long ((9223372036854775807 : Int64) - (px &&& (7 : Int64))))])) rfl (by rw [hml]; rfl) (argsL := [(.long ((9223372036854775807 : Int64) - (px &&& (7 : Int64))))]) (rest := []) (lenOf pd0_0 rfl) rfl (by show 2 * 0 + _ ≤ _; exact Nat.le_of_eq rfl) (hb hby at_231) (fun _ _ => ⟨rfl, e0, (by decide : 0 + 0 ≤ _), (by decide : 0 + 0 ≤ _)⟩)
        dsimp only [Pt.U, Pt.locs, Pt.cells, Pt.slots] at X139 l139 y139 z139 st139 hQ139
        subst l139 y139 z139
        obtain ⟨rfl, N139q, e139⟩ := hQ139
        have N139 := Fr.app N0 N139q
        obtain ⟨_, _, ⟨T140, L140, k140, n140⟩, -, X140, ⟨Lc140, hQ140, l140, y140, z140⟩, st140⟩ := Jvm.LawKit.callS X139 hx (y := (⟨"crestline/WholeDigitsCountPinLaw", "expected", "(J)I"⟩ : MethodName)) hown (mvT hZ (hw _ (List.mem_of_getElem? (i := 6) rfl))) (mvT hZ (hw _ (List.mem_of_getElem? (i := 7) rfl))) (mvT hZ (hw _ (List.mem_of_getElem? (i := 8) rfl))) (mvT hZ (hw _ (List.mem_of_getElem? (i := 9) rfl))) (by decide) (backOf (W := 1) (rm2 l Z a0 hw [] ((9223372036854775807 : Int64) - (px &&& (7 : Int64))) h0 n0 Z0) hZ (hw _ (List.mem_of_getElem? (i := 9) rfl)) (hw _ (List.mem_of_getElem? (i := 8) rfl)) (by decide) (by decide)) (g := (mkF m 236 #[.val (.long px), .second, .val (.int ps), .val (.int pk), .val (.int pm), .val (.long ((9223372036854775807 : Int64) - (px &&& (7 : Int64)))), .second, .val (.int (pm &&& (3 : Int32))), .unset, .unset, .unset] [(.long ((9223372036854775807 : Int64) - (px &&& (7 : Int64)))), (.int (cntF ((9223372036854775807 : Int64) - (px &&& (7 : Int64)))))])) rfl (by rw [hml]; rfl) (argsL := [(.long ((9223372036854775807 : Int64) - (px &&& (7 : Int64))))]) (rest := [(.int (cntF ((9223372036854775807 : Int64) - (px &&& (7 : Int64)))))]) (lenOf pd0_0 rfl) rfl (by show 2 * 0 + _ ≤ _; exact Nat.le_of_eq rfl) (hb hby at_236) (fun _ _ => ⟨rfl, e139, (by decide : 0 + 0 ≤ _), (by decide : 0 + 0 ≤ _)⟩)
        dsimp only [Pt.U, Pt.locs, Pt.cells, Pt.slots] at X140 l140 y140 z140 st140 hQ140
        subst l140 y140 z140
        obtain ⟨rfl, N140q, e140⟩ := hQ140
        have N140 := Fr.app N139 N140q
        have pre141 : ∀ t, Steps p.tables e below (T140.setTop (mkF m 247 #[.val (.long px), .second, .val (.int ps), .val (.int pk), .val (.int pm), .val (.long ((9223372036854775807 : Int64) - (px &&& (7 : Int64)))), .second, .val (.int (pm &&& (3 : Int32))), .unset, .unset, .unset] [(.int (1 : Int32))])) t → Steps p.tables e below (s₁.setTop (entryFrame m #[(.long px), (.int ps), (.int pk), (.int pm)] maxLocals)) t := by
          intro t kt
          refine pre134 _ ?_
          show Steps p.tables e below (s₁.setTop (mkF m 201 #[.val (.long px), .second, .val (.int ps), .val (.int pk), .val (.int pm), .unset, .unset, .val (.int (pm &&& (3 : Int32))), .unset, .unset, .unset] [(.int (2 : Int32)), (.int (pm &&& (3 : Int32)))])) _
          refine XS.icmpYes X0.here hx rfl (pc0 := 201) (pc' := 218) rfl (hb hby at_201) rfl (XT.ii_ne_t hc201_135) (by decide) (by decide) ?_
          show Steps p.tables e below (s₁.setTop (mkF m 218 #[.val (.long px), .second, .val (.int ps), .val (.int pk), .val (.int pm), .unset, .unset, .val (.int (pm &&& (3 : Int32))), .unset, .unset, .unset] [])) _
          refine X0.ldc2J hx hown (mvT hZ (hw _ (List.mem_of_getElem? (i := 14) rfl))) (g := (mkF m 218 #[.val (.long px), .second, .val (.int ps), .val (.int pk), .val (.int pm), .unset, .unset, .val (.int (pm &&& (3 : Int32))), .unset, .unset, .unset] [])) rfl (hb hby at_218) ?_
          show Steps p.tables e below (s₁.setTop (mkF m 221 #[.val (.long px), .second, .val (.int ps), .val (.int pk), .val (.int pm), .unset, .unset, .val (.int (pm &&& (3 : Int32))), .unset, .unset, .unset] [(.long (9223372036854775807 : Int64))])) _
          refine XS.lloadN X0.here hx rfl (hb hby at_221) rfl ?_
          show Steps p.tables e below (s₁.setTop (mkF m 222 #[.val (.long px), .second, .val (.int ps), .val (.int pk), .val (.int pm), .unset, .unset, .val (.int (pm &&& (3 : Int32))), .unset, .unset, .unset] [(.long px), (.long (9223372036854775807 : Int64))])) _
          refine X0.ldc2J hx hown (mvT hZ (hw _ (List.mem_of_getElem? (i := 15) rfl))) (g := (mkF m 222 #[.val (.long px), .second, .val (.int ps), .val (.int pk), .val (.int pm), .unset, .unset, .val (.int (pm &&& (3 : Int32))), .unset, .unset, .unset] [(.long px), (.long (9223372036854775807 : Int64))])) rfl (hb hby at_222) ?_
          show Steps p.tables e below (s₁.setTop (mkF m 225 #[.val (.long px), .second, .val (.int ps), .val (.int pk), .val (.int pm), .unset, .unset, .val (.int (pm &&& (3 : Int32))), .unset, .unset, .unset] [(.long (7 : Int64)), (.long px), (.long (9223372036854775807 : Int64))])) _
          refine XS.land X0.here hx rfl (hb hby at_225) rfl ?_
          show Steps p.tables e below (s₁.setTop (mkF m 226 #[.val (.long px), .second, .val (.int ps), .val (.int pk), .val (.int pm), .unset, .unset, .val (.int (pm &&& (3 : Int32))), .unset, .unset, .unset] [(.long (px &&& (7 : Int64))), (.long (9223372036854775807 : Int64))])) _
          refine XS.lsub X0.here hx rfl (hb hby at_226) rfl ?_
          show Steps p.tables e below (s₁.setTop (mkF m 227 #[.val (.long px), .second, .val (.int ps), .val (.int pk), .val (.int pm), .unset, .unset, .val (.int (pm &&& (3 : Int32))), .unset, .unset, .unset] [(.long ((9223372036854775807 : Int64) - (px &&& (7 : Int64))))])) _
          refine XS.lstore X0.here hx rfl (hb hby at_227) rfl (l' := #[.val (.long px), .second, .val (.int ps), .val (.int pk), .val (.int pm), .val (.long ((9223372036854775807 : Int64) - (px &&& (7 : Int64)))), .second, .val (.int (pm &&& (3 : Int32))), .unset, .unset, .unset]) rfl ?_
          show Steps p.tables e below (s₁.setTop (mkF m 229 #[.val (.long px), .second, .val (.int ps), .val (.int pk), .val (.int pm), .val (.long ((9223372036854775807 : Int64) - (px &&& (7 : Int64)))), .second, .val (.int (pm &&& (3 : Int32))), .unset, .unset, .unset] [])) _
          refine XS.lload X0.here hx rfl (hb hby at_229) rfl ?_
          show Steps p.tables e below (s₁.setTop (mkF m 231 #[.val (.long px), .second, .val (.int ps), .val (.int pk), .val (.int pm), .val (.long ((9223372036854775807 : Int64) - (px &&& (7 : Int64)))), .second, .val (.int (pm &&& (3 : Int32))), .unset, .unset, .unset] [(.long ((9223372036854775807 : Int64) - (px &&& (7 : Int64))))])) _
          refine st139 _ ?_
          show Steps p.tables e below (T139.setTop (mkF m 234 #[.val (.long px), .second, .val (.int ps), .val (.int pk), .val (.int pm), .val (.long ((9223372036854775807 : Int64) - (px &&& (7 : Int64)))), .second, .val (.int (pm &&& (3 : Int32))), .unset, .unset, .unset] [(.int (cntF ((9223372036854775807 : Int64) - (px &&& (7 : Int64)))))])) _
          refine XS.lload X139.here hx rfl (hb hby at_234) rfl ?_
          show Steps p.tables e below (T139.setTop (mkF m 236 #[.val (.long px), .second, .val (.int ps), .val (.int pk), .val (.int pm), .val (.long ((9223372036854775807 : Int64) - (px &&& (7 : Int64)))), .second, .val (.int (pm &&& (3 : Int32))), .unset, .unset, .unset] [(.long ((9223372036854775807 : Int64) - (px &&& (7 : Int64)))), (.int (cntF ((9223372036854775807 : Int64) - (px &&& (7 : Int64)))))])) _
          refine st140 _ ?_
          show Steps p.tables e below (T140.setTop (mkF m 239 #[.val (.long px), .second, .val (.int ps), .val (.int pk), .val (.int pm), .val (.long ((9223372036854775807 : Int64) - (px &&& (7 : Int64)))), .second, .val (.int (pm &&& (3 : Int32))), .unset, .unset, .unset] [(.int (expF ((9223372036854775807 : Int64) - (px &&& (7 : Int64))))), (.int (cntF ((9223372036854775807 : Int64) - (px &&& (7 : Int64)))))])) _
          refine XS.icmpNo X140.here hx rfl (hb hby at_239) rfl (XT.ii_ne_f (law_eq _)) ?_
          show Steps p.tables e below (T140.setTop (mkF m 242 #[.val (.long px), .second, .val (.int ps), .val (.int pk), .val (.int pm), .val (.long ((9223372036854775807 : Int64) - (px &&& (7 : Int64)))), .second, .val (.int (pm &&& (3 : Int32))), .unset, .unset, .unset] [])) _
          refine XS.iconst X140.here hx rfl (hb hby at_242) ?_
          show Steps p.tables e below (T140.setTop (mkF m 243 #[.val (.long px), .second, .val (.int ps), .val (.int pk), .val (.int pm), .val (.long ((9223372036854775807 : Int64) - (px &&& (7 : Int64)))), .second, .val (.int (pm &&& (3 : Int32))), .unset, .unset, .unset] [(.int (1 : Int32))])) _
          refine XS.goto X140.here hx rfl (pc0 := 243) (pc' := 247) rfl (hb hby at_243) (by decide) (by decide) ?_
          exact kt
        obtain ⟨fs, hr, hrun, hended, hW, hsame⟩ := X140.leave (v := some (.int (1 : Int32))) (fun h => by rw [Bd.returns] at h; cases h)
        refine ⟨_, _, pre141 _ ?_, hrun, hended, _, _, rfl, ?_, ⟨_, rfl⟩, hW, hsame.mono (by decide) (by decide)⟩
        · show Steps p.tables e below (T140.setTop (mkF m 247 #[.val (.long px), .second, .val (.int ps), .val (.int pk), .val (.int pm), .val (.long ((9223372036854775807 : Int64) - (px &&& (7 : Int64)))), .second, .val (.int (pm &&& (3 : Int32))), .unset, .unset, .unset] [(.int (1 : Int32))])) _
          exact retN X140 hx (t := .boolean) Bd.returns (by simp) (hb hby at_247) hr
        · show Q0 Z h0 n0 _ T140.heap _
          exact ⟨rfl, N140⟩
theorem own_eqI {args : Array Value} {first s : State} {o : Option Outcome} {idx : List Nat} {t : Term} {k : Int32} (h : (Cond.eq t (.int k)).value args first o s idx = some true) : t.eval args first o idx s = some (.int k) := by
  obtain ⟨x, y, hx, hy, k1, -⟩ := cmp_v (Or.inl h)
  have hy' : y = .int k := (Option.some.inj hy).symm
  subst hy'
  cases x with
  | int z => rw [hx]; simp only [Cond.value, hx, hy] at h; simpa using h
  | _ => simp [Kin, Value.isRef] at k1
theorem own_eqJ {args : Array Value} {first s : State} {o : Option Outcome} {idx : List Nat} {t : Term} {k : Int64} (h : (Cond.eq t (.long k)).value args first o s idx = some true) : t.eval args first o idx s = some (.long k) := by
  obtain ⟨x, y, hx, hy, k1, -⟩ := cmp_v (Or.inl h)
  have hy' : y = .long k := (Option.some.inj hy).symm
  subst hy'
  cases x with
  | long z => rw [hx]; simp only [Cond.value, hx, hy] at h; simpa using h
  | _ => simp [Kin, Value.isRef] at k1
theorem own_len {args : Array Value} {s : State} {t : Term} {a : Addr} {cl : Cell} {k : Int32} (h : (Term.length t).eval args s none [] s = some (.int k)) (ht : t.eval args s none [] s = some (.ref a)) (hc : s.heap[a]? = some cl) : cl.slots.size.toInt32 = k := by
  obtain ⟨a', cell, h1, h2, h3⟩ := Term.length_spec h
  cases ht.symm.trans h1
  cases hc.symm.trans (State.arrayAt?_spec h2).1
  exact (Value.int.inj h3).symm
set_option maxRecDepth 65536 in
set_option maxHeartbeats 40000000 in
theorem comes_1 {Post : Tables → Env → Array Value → State → Outcome → State → Prop} (hpost : ∀ tb e args s v u, (limb_1_1.after args s (.returned v) u = true ∧ limb_1_2.after args s (.returned v) u = true ∧ True) → FrameEnd s (.returned v) u (Jvm.fieldLocs frame_1_writes args s ++ Jvm.arrayLocs frame_1_arrays args s ++ Jvm.staticLocs frame_1_statics s) 16 128 → Post tb e args s (.returned v) u) :
    ArmFor flags0 classFile x code maxLocals ret World_1 tables_1 room_1 Calls_1 rest_1 Pre_1 Post := by
  intro l hfl _ _ p e ha hc hk s m args below hf hA hF happ hP
  obtain ⟨hcalls, hrest, hpre⟩ := hP
  obtain ⟨-, -, -, hnamed, -, -, -, hat⟩ := (Spec.applies_iff hf).mp happ
  obtain ⟨hg, hn⟩ := and_e (Cond.before_iff.mp (show (Jvm.Cond.and given_1 narrow_1).before args s = true from hpre))
  obtain ⟨hg0, hg1⟩ := and_e hg
  obtain ⟨ga0, hgg0⟩ := and_e hg1
  obtain ⟨ga1, hgg1⟩ := and_e hgg0
  obtain ⟨ga2, hgg2⟩ := and_e hgg1
  have ga3 := hgg2
  obtain ⟨w0_, w1_, w2_, w3_, rfl⟩ : ∃ w0_ w1_ w2_ w3_ : Value, args = #[w0_, w1_, w2_, w3_] := by
    have hs : args.size = 4 := by simpa [Cond.value, given_1] using hg0
    obtain ⟨L⟩ := args
    match L, hs with
    | [w0_, w1_, w2_, w3_], _ => exact ⟨w0_, w1_, w2_, w3_, rfl⟩
  have hw := fun d (hd : d ∈ tables_1) => atoms_spec (ws := Jvm.Cond.code x code maxLocals ret :: tables_1) hat d (List.mem_cons_of_mem _ hd)
  have hfit : Fit s := fun {y c} hc i hi => by
    obtain ⟨ha, rfl⟩ := Array.getElem?_eq_some_iff.mp hc
    have q := List.all_eq_true.mp ((Array.all_eq_true_iff_forall_mem.mp hF) _ (Array.getElem_mem ha)) i (List.mem_range.mpr hi)
    simpa [Array.getElem?_eq_getElem hi] using q
  obtain ⟨i0, ei0⟩ := isL_v ga0
  obtain rfl : w0_ = (.long i0) := Option.some.inj ei0
  obtain ⟨i1, ei1⟩ := is_v ga1
  obtain rfl : w1_ = (.int i1) := Option.some.inj ei1
  obtain ⟨i2, ei2⟩ := is_v ga2
  obtain rfl : w2_ = (.int i2) := Option.some.inj ei2
  obtain ⟨i3, ei3⟩ := is_v ga3
  obtain rfl : w3_ = (.int i3) := Option.some.inj ei3
  obtain ⟨a_P, hn1⟩ := and_e hn
  obtain ⟨l_P, hn2⟩ := and_e hn1
  obtain ⟨e_0, hm0⟩ := and_e hn2
  obtain ⟨e_1, hm1⟩ := and_e hm0
  obtain ⟨e_2, hm2⟩ := and_e hm1
  obtain ⟨e_3, hm3⟩ := and_e hm2
  obtain ⟨e_4, hm4⟩ := and_e hm3
  obtain ⟨e_5, hm5⟩ := and_e hm4
  obtain ⟨e_6, hm6⟩ := and_e hm5
  obtain ⟨e_7, hm7⟩ := and_e hm6
  obtain ⟨e_8, hm8⟩ := and_e hm7
  obtain ⟨e_9, hm9⟩ := and_e hm8
  obtain ⟨e_10, hm10⟩ := and_e hm9
  obtain ⟨e_11, hm11⟩ := and_e hm10
  obtain ⟨e_12, hm12⟩ := and_e hm11
  obtain ⟨e_13, hm13⟩ := and_e hm12
  obtain ⟨e_14, hm14⟩ := and_e hm13
  obtain ⟨e_15, hm15⟩ := and_e hm14
  obtain ⟨e_16, hm16⟩ := and_e hm15
  obtain ⟨e_17, hm17⟩ := and_e hm16
  have e_18 := hm17
  obtain ⟨pa, n_P⟩ := arr_v a_P
  have S_P : Sta s s.heap "crestline/WholeDigits" "POWERS_OF_TEN" "[J" (.ref pa) := Sta.start n_P (Or.inr ⟨hw _ (List.mem_of_getElem? (i := 2) rfl), hw _ (List.mem_of_getElem? (i := 5) rfl)⟩)
  obtain ⟨cl, Ar⟩ := Arr.start n_P a_P
  have hlen := own_len (own_eqI l_P) n_P Ar.1
  have El1 : ElJ cl 1 10 := elem_in (own_eqJ e_1) n_P rfl Ar.1
  have El2 : ElJ cl 2 100 := elem_in (own_eqJ e_2) n_P rfl Ar.1
  have El3 : ElJ cl 3 1000 := elem_in (own_eqJ e_3) n_P rfl Ar.1
  have El4 : ElJ cl 4 10000 := elem_in (own_eqJ e_4) n_P rfl Ar.1
  have El5 : ElJ cl 5 100000 := elem_in (own_eqJ e_5) n_P rfl Ar.1
  have El6 : ElJ cl 6 1000000 := elem_in (own_eqJ e_6) n_P rfl Ar.1
  have El7 : ElJ cl 7 10000000 := elem_in (own_eqJ e_7) n_P rfl Ar.1
  have El8 : ElJ cl 8 100000000 := elem_in (own_eqJ e_8) n_P rfl Ar.1
  have El9 : ElJ cl 9 1000000000 := elem_in (own_eqJ e_9) n_P rfl Ar.1
  have El10 : ElJ cl 10 10000000000 := elem_in (own_eqJ e_10) n_P rfl Ar.1
  have El11 : ElJ cl 11 100000000000 := elem_in (own_eqJ e_11) n_P rfl Ar.1
  have El12 : ElJ cl 12 1000000000000 := elem_in (own_eqJ e_12) n_P rfl Ar.1
  have El13 : ElJ cl 13 10000000000000 := elem_in (own_eqJ e_13) n_P rfl Ar.1
  have El14 : ElJ cl 14 100000000000000 := elem_in (own_eqJ e_14) n_P rfl Ar.1
  have El15 : ElJ cl 15 1000000000000000 := elem_in (own_eqJ e_15) n_P rfl Ar.1
  have El16 : ElJ cl 16 10000000000000000 := elem_in (own_eqJ e_16) n_P rfl Ar.1
  have El17 : ElJ cl 17 100000000000000000 := elem_in (own_eqJ e_17) n_P rfl Ar.1
  have El18 : ElJ cl 18 1000000000000000000 := elem_in (own_eqJ e_18) n_P rfl Ar.1
  obtain ⟨n, o, h1, h2, h3, _, L, rfl, ⟨rfl, N⟩, hq⟩ := rm0 l s _ hw tables_1 i0 i1 i2 i3 pa cl s.heap s.heap.size (Nat.le_refl _) S_P Ar hlen El1 El2 El3 El4 El5 El6 El7 El8 El9 El10 El11 El12 El13 El14 El15 El16 El17 El18 p e ha hc hk s m _ below hf ((Spec.applies_iff_loose hf).mp happ).1 ⟨rfl, State.Warmed39.refl s, rfl⟩ trivial
  refine ⟨n, _, h1, h2, h3, hpost _ _ _ _ _ _ ⟨Cond.after_iff.mpr rfl, Cond.after_iff.mpr (eq_i res_at (Term.int_eval (1)) rfl), trivial⟩ ⟨hq.1, hq.2.1, (hq.2.2.sift fun y hy => Or.inr (N y hy)).mono (by decide) (by decide)⟩⟩
theorem main_1_1 : Claimed_1_1 := comes_1 fun _ _ _ _ _ _ h hF => ⟨h.1, hF⟩
theorem main_1_2 : Claimed_1_2 := comes_1 fun _ _ _ _ _ _ h hF => ⟨h.2.1, hF⟩
end Jvm.Pilot.@@N@@
namespace Jvm.Pilot.@@N@@
open Jvm Jvm.ClassFile Sem Op Lib Jvm.Free Jvm.Stand Jvm.Pilot.@@N@@.Jvm.D
/-! MADE BY PROGRAM (witnessworld.py) out of the Statement's table words and the real class files: 11 classes; the members and pool entries that the words name. The judged class is class 1, her method 1. -/
namespace start1
open Jvm.ClassFile
def u (s : String) : CpInfo := .utf8 (stringToUtf16 s)
/-- a pool by its gaps: so many unusable entries, then the entry; so many at the end -/
def gap : Nat → List CpInfo → List CpInfo
  | 0, r => r
  | n + 1, r => .unusable :: gap n r
def poolList (es : List (Nat × CpInfo)) (last : Nat) : List CpInfo := es.foldr (fun e r => gap e.1 (e.2 :: r)) (gap last [])
def pool (es : List (Nat × CpInfo)) (last : Nat) : Array CpInfo := ⟨poolList es last⟩
def fileOf (pool : Array CpInfo) (this : Nat) (attrs : Array Attribute := #[]) (ms : Array MethodInfo := #[]) (fl : Nat := 33) (sup : Nat := 0) (ifs : Array Nat := #[]) (fds : Array FieldInfo := #[]) : ClassFile where
  minorVersion := 0
  majorVersion := 65
  constantPool := pool
  accessFlags := fl
  thisClass := this
  superClass := sup
  interfaces := ifs
  fields := fds
  methods := ms
  attributes := attrs
def plain (name : String) (sup : Option ClassId) : Class where
  name := name
  kind := .ordinary
  loader := none
  accessFlags := 33
  super := sup
  interfaces := #[]
  cf := none
  fields := #[]
  methods := #[]
  instanceTypes := #[]
  staticTypes := #[]
  resolved := #[]
  callSites := []
  init := .initialized
  statics := none
  mirror := none

def pool0 : Array CpInfo := pool [(5, u "<init>"), (0, u "()V"), (1, .class_ 10), (1, u "java/lang/Object")] 113

def k0m0 : Method := { name := "<init>", desc := "()V", sig := { parameters := [], returnType := none }, accessFlags := 1, code := none }
/-- java/lang/Object -/
def k0 : Class := { plain "java/lang/Object" none with
  accessFlags := 33
  interfaces := #[]
  cf := some (fileOf pool0 8 #[] #[{ accessFlags := 1, nameIndex := 5, descriptorIndex := 6, attributes := #[] }] 33 0 #[] #[])
  fields := #[]
  methods := #[k0m0]
  instanceTypes := #[]
  staticTypes := #[]
  resolved := Array.replicate 124 none
  statics := none }

def pool1 : Array CpInfo := pool [(2, .class_ 4), (1, u "java/lang/Object"), (0, u "<init>"), (0, u "()V"), (0, .long 10), (1, .long 100), (1, .long 1000), (1, .long 10000), (1, .long 100000), (1, .long 1000000), (1, .long 10000000), (1, .long 100000000), (1, .long 1000000000), (1, .long 10000000000), (1, .long 100000000000), (1, .long 1000000000000), (1, .long 10000000000000), (1, .long 100000000000000), (1, .long 1000000000000000), (1, .long 10000000000000000), (1, .long 100000000000000000), (1, .long 1000000000000000000), (1, .integer 2147483647), (0, .long 9223372036854775808), (1, .long 7), (1, .long 9223372036854775807), (1, .methodref 51 52), (0, .class_ 53), (0, .nameAndType 54 55), (0, u "crestline/WholeDigits"), (0, u "count"), (0, u "(J)I"), (0, .methodref 57 58), (0, .class_ 59), (0, .nameAndType 60 55), (0, u "crestline/WholeDigitsCountPinLaw"), (0, u "expected"), (0, .methodref 57 62), (0, .nameAndType 63 55), (0, u "digits"), (0, .long 18446744073709551606), (1, .long 18446744073709551516), (1, .long 18446744073709550616), (1, .long 18446744073709541616), (1, .long 18446744073709451616), (1, .long 18446744073708551616), (1, .long 18446744073699551616), (1, .long 18446744073609551616), (1, .long 18446744072709551616), (1, .long 18446744063709551616), (1, .long 18446743973709551616), (1, .long 18446743073709551616), (1, .long 18446734073709551616), (1, .long 18446644073709551616), (1, .long 18445744073709551616), (1, .long 18436744073709551616), (1, .long 18346744073709551616), (1, .long 17446744073709551616), (3, u "law"), (0, u "(JIII)Z")] 5

def k1m0 : Method := { name := "<init>", desc := "()V", sig := { parameters := [], returnType := none }, accessFlags := 1, code := none }
def k1c1 : Code := { maxStack := 6, maxLocals := 11, code := code, exceptionTable := #[], attributes := #[] }
def k1m1 : Method := { name := "law", desc := "(JIII)Z", sig := { parameters := [.long, .int, .int, .int], returnType := some .boolean }, accessFlags := 9, code := some k1c1 }
def k1c2 : Code := { maxStack := 4, maxLocals := 5, code := method_3_code, exceptionTable := #[], attributes := #[] }
def k1m2 : Method := { name := "expected", desc := "(J)I", sig := { parameters := [.long], returnType := some .int }, accessFlags := 10, code := some k1c2 }
def k1c3 : Code := { maxStack := 4, maxLocals := 2, code := method_4_code, exceptionTable := #[], attributes := #[] }
def k1m3 : Method := { name := "digits", desc := "(J)I", sig := { parameters := [.long], returnType := some .int }, accessFlags := 10, code := some k1c3 }
/-- crestline/WholeDigitsCountPinLaw -/
def k1 : Class := { plain "crestline/WholeDigitsCountPinLaw" (some 0) with
  accessFlags := 49
  interfaces := #[]
  cf := some (fileOf pool1 57 #[] #[{ accessFlags := 1, nameIndex := 5, descriptorIndex := 6, attributes := #[] }, { accessFlags := 9, nameIndex := 102, descriptorIndex := 103, attributes := #[] }, { accessFlags := 10, nameIndex := 60, descriptorIndex := 55, attributes := #[] }, { accessFlags := 10, nameIndex := 63, descriptorIndex := 55, attributes := #[] }] 49 2 #[] #[])
  fields := #[]
  methods := #[k1m0, k1m1, k1m2, k1m3]
  instanceTypes := #[]
  staticTypes := #[]
  resolved := Array.replicate 109 none
  statics := none }

def pool2 : Array CpInfo := pool [(2, .class_ 4), (1, u "java/lang/Object"), (0, u "<init>"), (0, u "()V"), (0, .long 10), (1, .methodref 10 11), (0, .class_ 12), (0, .nameAndType 13 14), (0, u "crestline/WholeDigits"), (0, u "count"), (0, u "(J)I"), (0, .fieldref 10 16), (0, .nameAndType 17 18), (0, u "POWERS_OF_TEN"), (0, u "[J"), (25, u "DIGIT_PAIRS"), (0, u "[B"), (14, u "EIGHT_DIGITS"), (0, u "J")] 9

def k2m0 : Method := { name := "<init>", desc := "()V", sig := { parameters := [], returnType := none }, accessFlags := 2, code := none }
def k2c1 : Code := { maxStack := 4, maxLocals := 5, code := prog_75_method_2_code, exceptionTable := #[], attributes := #[] }
def k2m1 : Method := { name := "count", desc := "(J)I", sig := { parameters := [.long], returnType := some .int }, accessFlags := 8, code := some k2c1 }
/-- crestline/WholeDigits -/
def k2 : Class := { plain "crestline/WholeDigits" (some 0) with
  accessFlags := 48
  interfaces := #[]
  cf := some (fileOf pool2 10 #[] #[{ accessFlags := 2, nameIndex := 5, descriptorIndex := 6, attributes := #[] }, { accessFlags := 8, nameIndex := 13, descriptorIndex := 14, attributes := #[] }] 48 2 #[] #[{ accessFlags := 26, nameIndex := 17, descriptorIndex := 18, attributes := #[] }, { accessFlags := 26, nameIndex := 60, descriptorIndex := 61, attributes := #[] }, { accessFlags := 26, nameIndex := 44, descriptorIndex := 45, attributes := #[] }])
  fields := #[{ name := "POWERS_OF_TEN", type := (.array .long), accessFlags := 26, slot := 0, constantValue := 0 }, { name := "EIGHT_DIGITS", type := .long, accessFlags := 26, slot := 1, constantValue := 0 }, { name := "DIGIT_PAIRS", type := (.array .byte), accessFlags := 26, slot := 2, constantValue := 0 }]
  methods := #[k2m0, k2m1]
  instanceTypes := #[]
  staticTypes := #[(.array .long), .long, (.array .byte)]
  resolved := Array.replicate 71 none
  statics := some 0 }

def pool3 : Array CpInfo := pool [(1, u "java/lang/Cloneable"), (0, .class_ 1), (0, u "java/lang/Object"), (0, .class_ 3)] 3

/-- java/lang/Cloneable -/
def k3 : Class := { plain "java/lang/Cloneable" (some 0) with
  accessFlags := 1537
  interfaces := #[]
  cf := some (fileOf pool3 2 #[] #[] 1537 4 #[] #[])
  fields := #[]
  methods := #[]
  instanceTypes := #[]
  staticTypes := #[]
  resolved := Array.replicate 8 none
  statics := none }

def pool4 : Array CpInfo := pool [(1, u "java/io/Serializable"), (0, .class_ 1), (0, u "java/lang/Object"), (0, .class_ 3)] 3

/-- java/io/Serializable -/
def k4 : Class := { plain "java/io/Serializable" (some 0) with
  accessFlags := 1537
  interfaces := #[]
  cf := some (fileOf pool4 2 #[] #[] 1537 4 #[] #[])
  fields := #[]
  methods := #[]
  instanceTypes := #[]
  staticTypes := #[]
  resolved := Array.replicate 8 none
  statics := none }

/-- the primitive byte -/
def k5 : Class := { plain "byte" none with kind := .primitive 'B', accessFlags := 0x411 }
/-- [B -/
def k6 : Class := { plain "[B" (some 0) with kind := .array 5 .byte, interfaces := #[3, 4], accessFlags := 1041 }

/-- the primitive int -/
def k7 : Class := { plain "int" none with kind := .primitive 'I', accessFlags := 0x411 }
/-- [I -/
def k8 : Class := { plain "[I" (some 0) with kind := .array 7 .int, interfaces := #[3, 4], accessFlags := 1041 }

/-- the primitive long -/
def k9 : Class := { plain "long" none with kind := .primitive 'J', accessFlags := 0x411 }
/-- [J -/
def k10 : Class := { plain "[J" (some 0) with kind := .array 9 .long, interfaces := #[3, 4], accessFlags := 1041 }

def heap : Heap := #[{ cls := 2, slots := #[.ref 1, .long 0, .null], vm := .statics 2 },
  { cls := 10, slots := #[.long 1, .long 10, .long 100, .long 1000, .long 10000, .long 100000, .long 1000000, .long 10000000, .long 100000000, .long 1000000000, .long 10000000000, .long 100000000000, .long 1000000000000, .long 10000000000000, .long 100000000000000, .long 1000000000000000, .long 10000000000000000, .long 100000000000000000, .long 1000000000000000000], vm := .none }]
def classes : Array Class := #[k0, k1, k2, k3, k4, k5, k6, k7, k8, k9, k10]
def interned : List (Array UInt16 × Addr) := []
def slotsUsed : Nat := 22
def theMethod : MethodId := ⟨1, 1⟩
def args0 : Array Value := #[.long 5, .int 3, .int 4, .int 0]
def aboutOver (below : List Frame) : State where
  vm := { classes := classes, interned := interned.toArray }
  heap := heap
  slotsUsed := slotsUsed
  threads := #[{ frames := .invoking theMethod args0 :: below }]
def below0 : List Frame := [.native { method := ⟨0, 0⟩, args := #[] }]
def about1 : State := aboutOver below0
def p0 : Program := .bare "" "" ""
def e0 : Env := launch0.env 0 0 0
theorem w_frames : about1.frames = Frame.invoking theMethod args0 :: below0 := rfl
set_option maxRecDepth 65536 in
theorem w_args : argsFit about1.vm theMethod args0 = true := by decide +kernel
set_option maxRecDepth 65536 in
theorem w_heap : heapFits about1 = true := by decide +kernel
set_option maxRecDepth 65536 in
theorem w_runnable : about1.curStatus? = some .runnable := by decide +kernel
set_option maxRecDepth 65536 in
theorem w_alone : about1.alone = true := by decide +kernel
set_option maxRecDepth 65536 in
theorem w_named : about1.methodNamed? x = some theMethod := by decide +kernel
set_option maxRecDepth 65536 in
theorem w_hears : about1.hears theMethod below0 = true := by decide +kernel
set_option maxRecDepth 65536 in
theorem w_ripe : about1.ripe theMethod args0 below0 = true := by decide +kernel
theorem w_running : about1.status = .running := rfl
set_option maxRecDepth 65536 in
theorem w_room : about1.hasRoom e0.platform room_1 = true :=
  launch0.hasRoom_least _ room_1 (by decide +kernel) (by decide +kernel) (by decide +kernel) (by decide +kernel) (by decide +kernel) (by decide +kernel)
theorem allAtoms_all (ts : List Jvm.Cond) (a : Array Jvm.Value) (st : Jvm.State) : (allAtoms ts).before a st = ts.all (fun c => c.before a st) := by
  induction ts with
  | nil => rfl
  | cons c t ih =>
    show (Jvm.Cond.and c (allAtoms t)).before a st = _
    rw [Jvm.Cond.before_and, ih, List.all_cons]
def words1 : List Jvm.Cond := Jvm.Cond.code x code maxLocals ret :: tables_1
/-- a 'code' word, met by the world's own term for the bytes: nothing is compared byte by byte -/
theorem code_word {y : MethodName} {bytes : ByteArray} {mx : Nat} {rt : Option FieldType} {a : Array Value} {s : State} {m : MethodId} {meth : Method} {c : Code} (h1 : s.methodNamed? y = some m) (h2 : s.vm.method? m = some meth) (h3 : meth.code = some c) (h4 : c.code = bytes)
    (h5 : (c.maxLocals == mx && c.exceptionTable.isEmpty && decide (c.maxStack ≤ mostOperands) && decide (meth.sig.returnType = rt) && !meth.locks && decide (parseMethodDescriptor y.desc = some meth.sig)) = true) : (Jvm.Cond.code y bytes mx rt).before a s = true := by
  simp only [Bool.and_eq_true, beq_iff_eq, Bool.not_eq_true', decide_eq_true_eq] at h5
  obtain ⟨⟨⟨⟨⟨g1, g2⟩, g3⟩, g4⟩, g5⟩, g6⟩ := h5
  simp [Cond.before, Cond.holds, Cond.value, h1, h2, h3, h4, g1, g2, g3, g4, g5, g6]
def isCode : Jvm.Cond → Bool
  | .code _ _ _ _ => true
  | _ => false
theorem all_split {L : List Jvm.Cond} {P : Jvm.Cond → Bool} (h1 : L.all (fun c => isCode c || P c) = true) (h2 : ∀ c ∈ L.filter isCode, P c = true) : L.all P = true := by
  refine List.all_eq_true.mpr fun c hc => ?_
  have h := List.all_eq_true.mp h1 c hc
  rcases Bool.eq_false_or_eq_true (isCode c) with hi | hi
  · exact h2 c (List.mem_filter.mpr ⟨hc, hi⟩)
  · simpa [hi] using h
set_option maxRecDepth 65536 in
theorem w_c0 : (Jvm.Cond.code x code maxLocals ret).before args0 about1 = true := code_word (m := ⟨1, 1⟩) (meth := k1m1) (c := k1c1) (by decide +kernel) rfl rfl rfl (by decide +kernel)
set_option maxRecDepth 65536 in
theorem w_c1 : (Jvm.Cond.code ({ cls := "crestline/WholeDigits", name := "count", desc := "(J)I" } : Jvm.MethodName) prog_75_method_2_code (5 : Nat) (Option.some Jvm.ClassFile.FieldType.int)).before args0 about1 = true := code_word (m := ⟨2, 1⟩) (meth := k2m1) (c := k2c1) (by decide +kernel) rfl rfl rfl (by decide +kernel)
set_option maxRecDepth 65536 in
theorem w_c2 : (Jvm.Cond.code ({ cls := "crestline/WholeDigitsCountPinLaw", name := "expected", desc := "(J)I" } : Jvm.MethodName) method_3_code (5 : Nat) (Option.some Jvm.ClassFile.FieldType.int)).before args0 about1 = true := code_word (m := ⟨1, 2⟩) (meth := k1m2) (c := k1c2) (by decide +kernel) rfl rfl rfl (by decide +kernel)
set_option maxRecDepth 65536 in
theorem w_c3 : (Jvm.Cond.code ({ cls := "crestline/WholeDigitsCountPinLaw", name := "digits", desc := "(J)I" } : Jvm.MethodName) method_4_code (2 : Nat) (Option.some Jvm.ClassFile.FieldType.int)).before args0 about1 = true := code_word (m := ⟨1, 3⟩) (meth := k1m3) (c := k1c3) (by decide +kernel) rfl rfl rfl (by decide +kernel)
def codes1 : List Jvm.Cond := [Jvm.Cond.code x code maxLocals ret, Jvm.Cond.code ({ cls := "crestline/WholeDigits", name := "count", desc := "(J)I" } : Jvm.MethodName) prog_75_method_2_code (5 : Nat) (Option.some Jvm.ClassFile.FieldType.int), Jvm.Cond.code ({ cls := "crestline/WholeDigitsCountPinLaw", name := "expected", desc := "(J)I" } : Jvm.MethodName) method_3_code (5 : Nat) (Option.some Jvm.ClassFile.FieldType.int), Jvm.Cond.code ({ cls := "crestline/WholeDigitsCountPinLaw", name := "digits", desc := "(J)I" } : Jvm.MethodName) method_4_code (2 : Nat) (Option.some Jvm.ClassFile.FieldType.int)]
set_option maxRecDepth 65536 in
theorem codes_eq : words1.filter isCode = codes1 := rfl
theorem w_codes : ∀ c ∈ words1.filter isCode, c.before args0 about1 = true := by
  rw [codes_eq]
  intro c hc
  simp only [codes1, List.mem_cons, List.not_mem_nil, or_false] at hc
  rcases hc with rfl | rfl | rfl | rfl
  · exact w_c0
  · exact w_c1
  · exact w_c2
  · exact w_c3
set_option maxRecDepth 65536 in
theorem w_t1 : (words1.take 24).all (fun c => isCode c || c.before args0 about1) = true := by decide +kernel
set_option maxRecDepth 65536 in
theorem w_t2 : ((words1.drop 24).take 24).all (fun c => isCode c || c.before args0 about1) = true := by decide +kernel
set_option maxRecDepth 65536 in
theorem w_t3 : ((words1.drop 24).drop 24).all (fun c => isCode c || c.before args0 about1) = true := by decide +kernel
theorem w_tables : (allAtoms (Jvm.Cond.code x code maxLocals ret :: tables_1)).before args0 about1 = true := by
  rw [allAtoms_all]
  show words1.all (fun c => c.before args0 about1) = true
  refine all_split ?_ w_codes
  rw [← List.take_append_drop 24 words1, List.all_append, w_t1, ← List.take_append_drop 24 (words1.drop 24), List.all_append, w_t2, w_t3]
  rfl
set_option maxRecDepth 65536 in
theorem w_case : (Jvm.Cond.and given_1 narrow_1).before args0 about1 = true := by decide +kernel
theorem w_applies : (headSpec (Jvm.Cond.code x code maxLocals ret :: tables_1) room_1).applies x e0.platform about1 = true :=
  (Spec.applies_iff w_frames).mpr ⟨w_running, w_runnable, w_alone, w_named, w_hears, w_ripe, w_room, w_tables⟩
theorem atStart : AtStart classFile x code maxLocals ret World_1 tables_1 room_1 Calls_1 rest_1 Pre_1 launch0 p0 e0 about1 theMethod args0 below0 :=
  ⟨lists_1, trivial, launch0.admits_env _ _ _, launch0.least_env, fairChoices_fair.cas, fairChoices_fair.clock, w_frames, w_args, w_heap, w_applies, trivial, trivial, w_case⟩
end start1
theorem witness_1 : WitnessClaimed_1 := ⟨start1.p0, start1.e0, start1.about1, start1.theMethod, start1.args0, start1.below0, start1.atStart⟩
end Jvm.Pilot.@@N@@
