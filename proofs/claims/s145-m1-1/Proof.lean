import JvmDerived
import JvmDerived.Pilot.@@N@@Statement
import JvmDerived.Pilot.@@N@@Code
set_option linter.unusedVariables false
set_option linter.unusedSimpArgs false

namespace Jvm.RoadKit
open Sem ClassFile Op Lib Jvm.Stand Jvm.Free Jvm.LawKit
section New
variable {p : Program} {l : Launch} {e : Env} {R : Room} {s : State} {m : MethodId} {args : Array Value} {below : List Frame} {meth : Method} {c : Code} {T : State} {locs : List Loc} {cells slots : Nat}
theorem retI (X : Stand p l e R s m args below meth c T locs cells slots) (hx : p.tables.exec = Jvm.exec) {pc : Nat} {Ls : Array Slot} {z : Int32} {rest : List Value} (hret : meth.sig.returnType = some .int) (hd : decode c.code pc = .ok (.ireturn, 1)) {fs : List Frame}
    (hl : ∀ (f : JFrame) (acts : List Action), f.method = m → f.locked = none → f.entered = [] → (doReturn e (T.setTop f) acts (some (.int z))).1 = T.setFrames fs) : Steps p.tables e below (T.setTop (mkF m pc Ls (.int z :: rest))) (T.setFrames fs) := by
  have hm' : T.vm.method? m = some meth := X.method'
  have hn : narrow .int (.int z) = .int z := rfl
  show Steps p.tables e below (T.setTop { method := m, pc := pc, locals := Ls, stack := _ :: rest, locked := none }) _
  jvm_step X.here [X.here.top, hx, hd, hm', hret, hn]
  first | (intro acts; rw [hl _ acts rfl rfl rfl]) | rw [hl _ _ rfl rfl rfl]
  exact Steps.refl _
end New
end Jvm.RoadKit

namespace Jvm.Pilot.@@N@@
open Jvm Jvm.ClassFile Sem Op Lib Jvm.Free Jvm.Stand Jvm.LawKit Jvm.RoadKit Bundle Jvm.Pilot.@@N@@.Jvm.D

def Q1 (Z : State) (r : Value) (h0 : Heap) (n0 : Nat) (v : Option Value) (h : Heap) (L : List Loc) : Prop := v = some r ∧ Fr n0 L ∧ h = h0
def sgF (x y : UInt64) : UInt64 := if cmpValue (FP.dcmp x y) .g < 0 then 13830554455654793216 else if 0 < cmpValue (FP.dcmp x y) .l then FP.dconst1 else if cmpValue (FP.dcmp x y) .l = 0 then FP.dconst0 else 9221120237041090560
theorem own_i2d (a : Int32) : FP.Core.DInt a.toInt (FP.i2d a) := FP.Core.i2d_int a
theorem own_dneg {i : Int} {a : UInt64} (h : FP.Core.DInt i a) : FP.Core.DInt (-i) (FP.dneg a) := by
  unfold FP.Core.DInt
  rw [FP.val64_dneg]
  exact FP.Core.whole_negate h
theorem own_ltV {i j : Int} {a b : UInt64} (ha : FP.Core.DInt i a) (hb : FP.Core.DInt j b) (h : i < j) (o : CmpOp) : cmpValue (FP.dcmp a b) o = -1 := by
  have q : FP.dcmp a b = some .lt := (FP.Core.dcmp_int ha hb).trans (by rw [Int.compare_eq_lt.mpr h])
  rw [q]; rfl
theorem own_gtV {i j : Int} {a b : UInt64} (ha : FP.Core.DInt i a) (hb : FP.Core.DInt j b) (h : j < i) (o : CmpOp) : cmpValue (FP.dcmp a b) o = 1 := by
  have q : FP.dcmp a b = some .gt := (FP.Core.dcmp_int ha hb).trans (by rw [Int.compare_eq_gt.mpr h])
  rw [q]; rfl
theorem own_eqV {i j : Int} {a b : UInt64} (ha : FP.Core.DInt i a) (hb : FP.Core.DInt j b) (h : i = j) (o : CmpOp) : cmpValue (FP.dcmp a b) o = 0 := by
  have q : FP.dcmp a b = some .eq := (FP.Core.dcmp_int ha hb).trans (by rw [Int.compare_eq_eq.mpr h])
  rw [q]; rfl
theorem own_sg_lt {i j : Int} {a b : UInt64} (ha : FP.Core.DInt i a) (hb : FP.Core.DInt j b) (h : i < j) : sgF a b = 13830554455654793216 := by
  unfold sgF; rw [own_ltV ha hb h .g]; rfl
theorem own_sg_gt {i j : Int} {a b : UInt64} (ha : FP.Core.DInt i a) (hb : FP.Core.DInt j b) (h : j < i) : sgF a b = FP.dconst1 := by
  unfold sgF; rw [own_gtV ha hb h .g, own_gtV ha hb h .l]; rfl
theorem own_sg_eq {i j : Int} {a b : UInt64} (ha : FP.Core.DInt i a) (hb : FP.Core.DInt j b) (h : i = j) : sgF a b = FP.dconst0 := by
  unfold sgF; rw [own_eqV ha hb h .g, own_eqV ha hb h .l]; rfl
theorem own_same (x : UInt64) (h : x = 13830554455654793216 ∨ x = FP.dconst1 ∨ x = FP.dconst0) : cmpValue (FP.dcmp x x) .l = 0 := by
  rcases h with rfl | rfl | rfl <;> decide +kernel
theorem own_i2l (a : Int32) : a.toInt64.toInt = a.toInt := Int32.toInt_toInt64 a
theorem own_i2ln (a : Int32) : (-a.toInt64).toInt = -a.toInt := by
  rw [Int64.toInt_neg, Int32.toInt_toInt64]
  have h1 := a.toInt_lt
  have h2 := a.le_toInt
  exact Int.bmod_eq_of_le (by omega) (by omega)
theorem d1_0 : decode prog_147_method_8_code 0 = .ok (.dload_n 0, 1) := by decide +kernel
theorem d1_1 : decode prog_147_method_8_code 1 = .ok (.dload_n 2, 1) := by decide +kernel
theorem d1_2 : decode prog_147_method_8_code 2 = .ok (.dcmp .g, 1) := by decide +kernel
theorem d1_3 : decode prog_147_method_8_code 3 = .ok (.ifCond .ge 11, 3) := by decide +kernel
theorem d1_6 : decode prog_147_method_8_code 6 = .ok (.ldc2_w 117, 3) := by decide +kernel
theorem d1_9 : decode prog_147_method_8_code 9 = .ok (.dstore 4, 2) := by decide +kernel
theorem d1_11 : decode prog_147_method_8_code 11 = .ok (.goto 32, 3) := by decide +kernel
theorem d1_14 : decode prog_147_method_8_code 14 = .ok (.dload_n 0, 1) := by decide +kernel
theorem d1_15 : decode prog_147_method_8_code 15 = .ok (.dload_n 2, 1) := by decide +kernel
theorem d1_16 : decode prog_147_method_8_code 16 = .ok (.dcmp .l, 1) := by decide +kernel
theorem d1_17 : decode prog_147_method_8_code 17 = .ok (.ifCond .le 9, 3) := by decide +kernel
theorem d1_20 : decode prog_147_method_8_code 20 = .ok (.dconst 1, 1) := by decide +kernel
theorem d1_21 : decode prog_147_method_8_code 21 = .ok (.dstore 4, 2) := by decide +kernel
theorem d1_23 : decode prog_147_method_8_code 23 = .ok (.goto 20, 3) := by decide +kernel
theorem d1_26 : decode prog_147_method_8_code 26 = .ok (.dload_n 0, 1) := by decide +kernel
theorem d1_27 : decode prog_147_method_8_code 27 = .ok (.dload_n 2, 1) := by decide +kernel
theorem d1_28 : decode prog_147_method_8_code 28 = .ok (.dcmp .l, 1) := by decide +kernel
theorem d1_29 : decode prog_147_method_8_code 29 = .ok (.ifCond .ne 9, 3) := by decide +kernel
theorem d1_32 : decode prog_147_method_8_code 32 = .ok (.dconst 0, 1) := by decide +kernel
theorem d1_33 : decode prog_147_method_8_code 33 = .ok (.dstore 4, 2) := by decide +kernel
theorem d1_35 : decode prog_147_method_8_code 35 = .ok (.goto 8, 3) := by decide +kernel
theorem d1_38 : decode prog_147_method_8_code 38 = .ok (.ldc2_w 119, 3) := by decide +kernel
theorem d1_41 : decode prog_147_method_8_code 41 = .ok (.dstore 4, 2) := by decide +kernel
theorem d1_43 : decode prog_147_method_8_code 43 = .ok (.dload 4, 2) := by decide +kernel
theorem d1_45 : decode prog_147_method_8_code 45 = .ok (.dreturn, 1) := by decide +kernel
theorem pn1 : plainName "com/example/adjudica/adjudica/engine/Arithmetic" = true := by first | (simp [plainName, overriddenIn]; done) | decide +kernel
theorem ef1 (m : MethodId) (x0 : UInt64) (x1 : UInt64) : entryFrame m #[(.double x0), (.double x1)] 6 = mkF m 0 #[.val (.double x0), .second, .val (.double x1), .second, .unset, .unset] [] := by first | (simp [entryFrame, mkF, argsToLocals, Value.category]; done) | rfl
set_option maxRecDepth 65536 in
set_option maxHeartbeats 40000000 in
theorem rm1 (l : Launch) (Z : State) (a0 : Array Value) (hw : ∀ d ∈ tables_1, d.before a0 Z = true) (ws : List Jvm.Cond) (a b : UInt64) (h0 : Heap) (n0 : Nat) (Z0 : n0 ≤ h0.size) :
    MetFree l (⟨"com/example/adjudica/adjudica/engine/Arithmetic", "sign", "(DD)D"⟩ : MethodName) (head1 (Jvm.Cond.code (⟨"com/example/adjudica/adjudica/engine/Arithmetic", "sign", "(DD)D"⟩ : MethodName) prog_147_method_8_code 6 (some .double) :: ws) ({ frames := 0, cells := 0, slots := 0, locals := 0 } : Room)) (fun aa_ U => aa_ = #[(.double a), (.double b)] ∧ Z.Warmed39 U.vm ∧ U.heap = h0) (fun _ _ _ _ _ => True) (fun _ U o U' => ∃ v L, o = .returned v ∧ Q1 Z (.double (sgF a b)) h0 n0 v U'.heap L ∧ FrameEnd U o U' L ({ frames := 0, cells := 0, slots := 0, locals := 0 } : Room).cells ({ frames := 0, cells := 0, slots := 0, locals := 0 } : Room).slots) := by
  refine MetFree.of_bodySF (plainFor_of_name pn1) hisR ?_
  intro p e s m args below meth c s₁ Bd hml0 hP hK
  obtain ⟨rfl, hZ, hh⟩ := hP
  have hx := Bd.exec
  have hby := Bd.bytes
  have hml : c.maxLocals = 6 := hml0
  have hown : s.vm.findClass "com/example/adjudica/adjudica/engine/Arithmetic" = some m.cls := findClass_of_methodNamed Bd.named
  have hnm := (name_of_methodNamed Bd.named Bd.method).1
  have X0 : Stand p l e ({ frames := 0, cells := 0, slots := 0, locals := 0 } : Room) s m #[(.double a), (.double b)] below meth c s₁ [] 0 0 := Stand.of_body Bd
  have e0 : s₁.heap = h0 := by rw [← hh, Bd.state]; rfl
  have N0 := Fr.nil n0
  have pre0 : ∀ t, Steps p.tables e below (s₁.setTop (mkF m 0 #[.val (.double a), .second, .val (.double b), .second, .unset, .unset] [])) t → Steps p.tables e below (s₁.setTop (entryFrame m #[(.double a), (.double b)] 6)) t := fun t kt => castTop (ef1 m a b) kt
  have pre1 : ∀ t, Steps p.tables e below (s₁.setTop (mkF m 3 #[.val (.double a), .second, .val (.double b), .second, .unset, .unset] [(.int (cmpValue (FP.dcmp a b) .g))])) t → Steps p.tables e below (s₁.setTop (entryFrame m #[(.double a), (.double b)] 6)) t := by
    intro t kt
    refine pre0 _ ?_
    show Steps p.tables e below (s₁.setTop (mkF m 0 #[.val (.double a), .second, .val (.double b), .second, .unset, .unset] [])) _
    refine XS.dloadN X0.here hx rfl (hb hby d1_0) rfl ?_
    show Steps p.tables e below (s₁.setTop (mkF m 1 #[.val (.double a), .second, .val (.double b), .second, .unset, .unset] [(.double a)])) _
    refine XS.dloadN X0.here hx rfl (hb hby d1_1) rfl ?_
    show Steps p.tables e below (s₁.setTop (mkF m 2 #[.val (.double a), .second, .val (.double b), .second, .unset, .unset] [(.double b), (.double a)])) _
    refine XS.dcmpS X0.here hx rfl (hb hby d1_2) rfl rfl ?_
    exact kt
  by_cases hc3_2 : (cmpValue (FP.dcmp a b) .g) < (0 : Int32)
  · have pre3 : ∀ t, Steps p.tables e below (s₁.setTop (mkF m 45 #[.val (.double a), .second, .val (.double b), .second, .val (.double (13830554455654793216 : UInt64)), .second] [(.double (13830554455654793216 : UInt64))])) t → Steps p.tables e below (s₁.setTop (entryFrame m #[(.double a), (.double b)] 6)) t := by
      intro t kt
      refine pre1 _ ?_
      show Steps p.tables e below (s₁.setTop (mkF m 3 #[.val (.double a), .second, .val (.double b), .second, .unset, .unset] [(.int (cmpValue (FP.dcmp a b) .g))])) _
      refine XS.ifNo X0.here hx rfl (hb hby d1_3) rfl (XT.i0_ge_f hc3_2) ?_
      show Steps p.tables e below (s₁.setTop (mkF m 6 #[.val (.double a), .second, .val (.double b), .second, .unset, .unset] [])) _
      refine X0.ldc2DoubleC hx hown (mvT hZ (hw _ (List.mem_of_getElem? (i := 5) rfl))) (g := (mkF m 6 #[.val (.double a), .second, .val (.double b), .second, .unset, .unset] [])) rfl (hb hby d1_6) _ ?_
      show Steps p.tables e below (s₁.setTop (mkF m 9 #[.val (.double a), .second, .val (.double b), .second, .unset, .unset] [(.double (13830554455654793216 : UInt64))])) _
      refine XS.dstore X0.here hx rfl (hb hby d1_9) rfl (l' := #[.val (.double a), .second, .val (.double b), .second, .val (.double (13830554455654793216 : UInt64)), .second]) rfl ?_
      show Steps p.tables e below (s₁.setTop (mkF m 11 #[.val (.double a), .second, .val (.double b), .second, .val (.double (13830554455654793216 : UInt64)), .second] [])) _
      refine XS.goto X0.here hx rfl (pc0 := 11) (pc' := 43) rfl (hb hby d1_11) (by decide) (by decide) ?_
      show Steps p.tables e below (s₁.setTop (mkF m 43 #[.val (.double a), .second, .val (.double b), .second, .val (.double (13830554455654793216 : UInt64)), .second] [])) _
      refine XS.dload X0.here hx rfl (hb hby d1_43) rfl ?_
      exact kt
    obtain ⟨fs, hr, hrun, hended, hW, hsame⟩ := X0.leave (v := some (.double (13830554455654793216 : UInt64))) (fun h => by rw [Bd.returns] at h; cases h)
    refine ⟨_, _, pre3 _ ?_, hrun, hended, _, _, rfl, ?_, ⟨_, rfl⟩, hW, hsame.mono (by decide) (by decide)⟩
    · show Steps p.tables e below (s₁.setTop (mkF m 45 #[.val (.double a), .second, .val (.double b), .second, .val (.double (13830554455654793216 : UInt64)), .second] [(.double (13830554455654793216 : UInt64))])) _
      jvm_step X0.here [X0.here.top, hx, (hb hby d1_45), X0.method', Bd.returns, narrow]
      first | (intro acts; rw [hr _ acts rfl rfl rfl]) | rw [hr _ _ rfl rfl rfl]
      exact Steps.refl _
    · show Q1 Z (.double (sgF a b)) h0 n0 _ s₁.heap _
      rw [e0]
      exact ⟨by simp [sgF, hc3_2], N0, rfl⟩
  · have pre4 : ∀ t, Steps p.tables e below (s₁.setTop (mkF m 17 #[.val (.double a), .second, .val (.double b), .second, .unset, .unset] [(.int (cmpValue (FP.dcmp a b) .l))])) t → Steps p.tables e below (s₁.setTop (entryFrame m #[(.double a), (.double b)] 6)) t := by
      intro t kt
      refine pre1 _ ?_
      show Steps p.tables e below (s₁.setTop (mkF m 3 #[.val (.double a), .second, .val (.double b), .second, .unset, .unset] [(.int (cmpValue (FP.dcmp a b) .g))])) _
      refine XS.ifYes X0.here hx rfl (pc0 := 3) (pc' := 14) rfl (hb hby d1_3) rfl (XT.i0_ge_t hc3_2) (by decide) (by decide) ?_
      show Steps p.tables e below (s₁.setTop (mkF m 14 #[.val (.double a), .second, .val (.double b), .second, .unset, .unset] [])) _
      refine XS.dloadN X0.here hx rfl (hb hby d1_14) rfl ?_
      show Steps p.tables e below (s₁.setTop (mkF m 15 #[.val (.double a), .second, .val (.double b), .second, .unset, .unset] [(.double a)])) _
      refine XS.dloadN X0.here hx rfl (hb hby d1_15) rfl ?_
      show Steps p.tables e below (s₁.setTop (mkF m 16 #[.val (.double a), .second, .val (.double b), .second, .unset, .unset] [(.double b), (.double a)])) _
      refine XS.dcmpS X0.here hx rfl (hb hby d1_16) rfl rfl ?_
      exact kt
    by_cases hc17_5 : (0 : Int32) < (cmpValue (FP.dcmp a b) .l)
    · have pre6 : ∀ t, Steps p.tables e below (s₁.setTop (mkF m 45 #[.val (.double a), .second, .val (.double b), .second, .val (.double FP.dconst1), .second] [(.double FP.dconst1)])) t → Steps p.tables e below (s₁.setTop (entryFrame m #[(.double a), (.double b)] 6)) t := by
        intro t kt
        refine pre4 _ ?_
        show Steps p.tables e below (s₁.setTop (mkF m 17 #[.val (.double a), .second, .val (.double b), .second, .unset, .unset] [(.int (cmpValue (FP.dcmp a b) .l))])) _
        refine XS.ifNo X0.here hx rfl (hb hby d1_17) rfl (XT.i0_le_f hc17_5) ?_
        show Steps p.tables e below (s₁.setTop (mkF m 20 #[.val (.double a), .second, .val (.double b), .second, .unset, .unset] [])) _
        refine XS.dconst1 X0.here hx rfl (hb hby d1_20) rfl ?_
        show Steps p.tables e below (s₁.setTop (mkF m 21 #[.val (.double a), .second, .val (.double b), .second, .unset, .unset] [(.double FP.dconst1)])) _
        refine XS.dstore X0.here hx rfl (hb hby d1_21) rfl (l' := #[.val (.double a), .second, .val (.double b), .second, .val (.double FP.dconst1), .second]) rfl ?_
        show Steps p.tables e below (s₁.setTop (mkF m 23 #[.val (.double a), .second, .val (.double b), .second, .val (.double FP.dconst1), .second] [])) _
        refine XS.goto X0.here hx rfl (pc0 := 23) (pc' := 43) rfl (hb hby d1_23) (by decide) (by decide) ?_
        show Steps p.tables e below (s₁.setTop (mkF m 43 #[.val (.double a), .second, .val (.double b), .second, .val (.double FP.dconst1), .second] [])) _
        refine XS.dload X0.here hx rfl (hb hby d1_43) rfl ?_
        exact kt
      obtain ⟨fs, hr, hrun, hended, hW, hsame⟩ := X0.leave (v := some (.double FP.dconst1)) (fun h => by rw [Bd.returns] at h; cases h)
      refine ⟨_, _, pre6 _ ?_, hrun, hended, _, _, rfl, ?_, ⟨_, rfl⟩, hW, hsame.mono (by decide) (by decide)⟩
      · show Steps p.tables e below (s₁.setTop (mkF m 45 #[.val (.double a), .second, .val (.double b), .second, .val (.double FP.dconst1), .second] [(.double FP.dconst1)])) _
        jvm_step X0.here [X0.here.top, hx, (hb hby d1_45), X0.method', Bd.returns, narrow]
        first | (intro acts; rw [hr _ acts rfl rfl rfl]) | rw [hr _ _ rfl rfl rfl]
        exact Steps.refl _
      · show Q1 Z (.double (sgF a b)) h0 n0 _ s₁.heap _
        rw [e0]
        exact ⟨by simp [sgF, hc3_2, hc17_5], N0, rfl⟩
    · have pre7 : ∀ t, Steps p.tables e below (s₁.setTop (mkF m 29 #[.val (.double a), .second, .val (.double b), .second, .unset, .unset] [(.int (cmpValue (FP.dcmp a b) .l))])) t → Steps p.tables e below (s₁.setTop (entryFrame m #[(.double a), (.double b)] 6)) t := by
        intro t kt
        refine pre4 _ ?_
        show Steps p.tables e below (s₁.setTop (mkF m 17 #[.val (.double a), .second, .val (.double b), .second, .unset, .unset] [(.int (cmpValue (FP.dcmp a b) .l))])) _
        refine XS.ifYes X0.here hx rfl (pc0 := 17) (pc' := 26) rfl (hb hby d1_17) rfl (XT.i0_le_t hc17_5) (by decide) (by decide) ?_
        show Steps p.tables e below (s₁.setTop (mkF m 26 #[.val (.double a), .second, .val (.double b), .second, .unset, .unset] [])) _
        refine XS.dloadN X0.here hx rfl (hb hby d1_26) rfl ?_
        show Steps p.tables e below (s₁.setTop (mkF m 27 #[.val (.double a), .second, .val (.double b), .second, .unset, .unset] [(.double a)])) _
        refine XS.dloadN X0.here hx rfl (hb hby d1_27) rfl ?_
        show Steps p.tables e below (s₁.setTop (mkF m 28 #[.val (.double a), .second, .val (.double b), .second, .unset, .unset] [(.double b), (.double a)])) _
        refine XS.dcmpS X0.here hx rfl (hb hby d1_28) rfl rfl ?_
        exact kt
      by_cases hc29_8 : (cmpValue (FP.dcmp a b) .l) = (0 : Int32)
      · have pre9 : ∀ t, Steps p.tables e below (s₁.setTop (mkF m 45 #[.val (.double a), .second, .val (.double b), .second, .val (.double FP.dconst0), .second] [(.double FP.dconst0)])) t → Steps p.tables e below (s₁.setTop (entryFrame m #[(.double a), (.double b)] 6)) t := by
          intro t kt
          refine pre7 _ ?_
          show Steps p.tables e below (s₁.setTop (mkF m 29 #[.val (.double a), .second, .val (.double b), .second, .unset, .unset] [(.int (cmpValue (FP.dcmp a b) .l))])) _
          refine XS.ifNo X0.here hx rfl (hb hby d1_29) rfl (XT.i0_ne_f hc29_8) ?_
          show Steps p.tables e below (s₁.setTop (mkF m 32 #[.val (.double a), .second, .val (.double b), .second, .unset, .unset] [])) _
          refine XS.dconst0 X0.here hx rfl (hb hby d1_32) rfl ?_
          show Steps p.tables e below (s₁.setTop (mkF m 33 #[.val (.double a), .second, .val (.double b), .second, .unset, .unset] [(.double FP.dconst0)])) _
          refine XS.dstore X0.here hx rfl (hb hby d1_33) rfl (l' := #[.val (.double a), .second, .val (.double b), .second, .val (.double FP.dconst0), .second]) rfl ?_
          show Steps p.tables e below (s₁.setTop (mkF m 35 #[.val (.double a), .second, .val (.double b), .second, .val (.double FP.dconst0), .second] [])) _
          refine XS.goto X0.here hx rfl (pc0 := 35) (pc' := 43) rfl (hb hby d1_35) (by decide) (by decide) ?_
          show Steps p.tables e below (s₁.setTop (mkF m 43 #[.val (.double a), .second, .val (.double b), .second, .val (.double FP.dconst0), .second] [])) _
          refine XS.dload X0.here hx rfl (hb hby d1_43) rfl ?_
          exact kt
        obtain ⟨fs, hr, hrun, hended, hW, hsame⟩ := X0.leave (v := some (.double FP.dconst0)) (fun h => by rw [Bd.returns] at h; cases h)
        refine ⟨_, _, pre9 _ ?_, hrun, hended, _, _, rfl, ?_, ⟨_, rfl⟩, hW, hsame.mono (by decide) (by decide)⟩
        · show Steps p.tables e below (s₁.setTop (mkF m 45 #[.val (.double a), .second, .val (.double b), .second, .val (.double FP.dconst0), .second] [(.double FP.dconst0)])) _
          jvm_step X0.here [X0.here.top, hx, (hb hby d1_45), X0.method', Bd.returns, narrow]
          first | (intro acts; rw [hr _ acts rfl rfl rfl]) | rw [hr _ _ rfl rfl rfl]
          exact Steps.refl _
        · show Q1 Z (.double (sgF a b)) h0 n0 _ s₁.heap _
          rw [e0]
          exact ⟨by simp [sgF, hc3_2, hc17_5, hc29_8], N0, rfl⟩
      · have pre10 : ∀ t, Steps p.tables e below (s₁.setTop (mkF m 45 #[.val (.double a), .second, .val (.double b), .second, .val (.double (9221120237041090560 : UInt64)), .second] [(.double (9221120237041090560 : UInt64))])) t → Steps p.tables e below (s₁.setTop (entryFrame m #[(.double a), (.double b)] 6)) t := by
          intro t kt
          refine pre7 _ ?_
          show Steps p.tables e below (s₁.setTop (mkF m 29 #[.val (.double a), .second, .val (.double b), .second, .unset, .unset] [(.int (cmpValue (FP.dcmp a b) .l))])) _
          refine XS.ifYes X0.here hx rfl (pc0 := 29) (pc' := 38) rfl (hb hby d1_29) rfl (XT.i0_ne_t hc29_8) (by decide) (by decide) ?_
          show Steps p.tables e below (s₁.setTop (mkF m 38 #[.val (.double a), .second, .val (.double b), .second, .unset, .unset] [])) _
          refine X0.ldc2DoubleC hx hown (mvT hZ (hw _ (List.mem_of_getElem? (i := 6) rfl))) (g := (mkF m 38 #[.val (.double a), .second, .val (.double b), .second, .unset, .unset] [])) rfl (hb hby d1_38) _ ?_
          show Steps p.tables e below (s₁.setTop (mkF m 41 #[.val (.double a), .second, .val (.double b), .second, .unset, .unset] [(.double (9221120237041090560 : UInt64))])) _
          refine XS.dstore X0.here hx rfl (hb hby d1_41) rfl (l' := #[.val (.double a), .second, .val (.double b), .second, .val (.double (9221120237041090560 : UInt64)), .second]) rfl ?_
          show Steps p.tables e below (s₁.setTop (mkF m 43 #[.val (.double a), .second, .val (.double b), .second, .val (.double (9221120237041090560 : UInt64)), .second] [])) _
          refine XS.dload X0.here hx rfl (hb hby d1_43) rfl ?_
          exact kt
        obtain ⟨fs, hr, hrun, hended, hW, hsame⟩ := X0.leave (v := some (.double (9221120237041090560 : UInt64))) (fun h => by rw [Bd.returns] at h; cases h)
        refine ⟨_, _, pre10 _ ?_, hrun, hended, _, _, rfl, ?_, ⟨_, rfl⟩, hW, hsame.mono (by decide) (by decide)⟩
        · show Steps p.tables e below (s₁.setTop (mkF m 45 #[.val (.double a), .second, .val (.double b), .second, .val (.double (9221120237041090560 : UInt64)), .second] [(.double (9221120237041090560 : UInt64))])) _
          jvm_step X0.here [X0.here.top, hx, (hb hby d1_45), X0.method', Bd.returns, narrow]
          first | (intro acts; rw [hr _ acts rfl rfl rfl]) | rw [hr _ _ rfl rfl rfl]
          exact Steps.refl _
        · show Q1 Z (.double (sgF a b)) h0 n0 _ s₁.heap _
          rw [e0]
          exact ⟨by simp [sgF, hc3_2, hc17_5, hc29_8], N0, rfl⟩
theorem pn0 : plainName "com/example/adjudica/adjudica/engine/ArithmeticSignPinLaw" = true := by first | (simp [plainName, overriddenIn]; done) | decide +kernel
theorem pd0_0 : parseMethodDescriptor "(DD)D" = some ⟨[.double, .double], some .double⟩ := by decide +kernel
theorem ef0 (m : MethodId) (x0 : Int32) (x1 : Int32) (x2 : Int32) : entryFrame m #[(.int x0), (.int x1), (.int x2)] maxLocals = mkF m 0 #[.val (.int x0), .val (.int x1), .val (.int x2), .unset, .unset, .unset, .unset, .unset, .unset, .unset, .unset, .unset, .unset, .unset, .unset, .unset, .unset] [] := by first | (simp [entryFrame, mkF, argsToLocals, Value.category, maxLocals]; done) | rfl
set_option maxRecDepth 65536 in
set_option maxHeartbeats 40000000 in
theorem rm0 (l : Launch) (Z : State) (a0 : Array Value) (hw : ∀ d ∈ tables_1, d.before a0 Z = true) (ws : List Jvm.Cond) (pa pb pf : Int32) (h0 : Heap) (n0 : Nat) (Z0 : n0 ≤ h0.size) :
    MetFree l x (head1 (Jvm.Cond.code x code maxLocals ret :: ws) room_1) (fun aa_ U => aa_ = #[(.int pa), (.int pb), (.int pf)] ∧ Z.Warmed39 U.vm ∧ U.heap = h0) (fun _ _ _ _ _ => True) (fun _ U o U' => ∃ v L, o = .returned v ∧ Q1 Z (.int 1) h0 n0 v U'.heap L ∧ FrameEnd U o U' L room_1.cells room_1.slots) := by
  refine MetFree.of_bodySF (plainFor_of_name pn0) hisR ?_
  intro p e s m args below meth c s₁ Bd hml0 hP hK
  obtain ⟨rfl, hZ, hh⟩ := hP
  have hx := Bd.exec
  have hby := Bd.bytes
  have hml : c.maxLocals = 17 := hml0
  have hown : s.vm.findClass "com/example/adjudica/adjudica/engine/ArithmeticSignPinLaw" = some m.cls := findClass_of_methodNamed Bd.named
  have hnm := (name_of_methodNamed Bd.named Bd.method).1
  have X0 : Stand p l e room_1 s m #[(.int pa), (.int pb), (.int pf)] below meth c s₁ [] 0 0 := Stand.of_body Bd
  have e0 : s₁.heap = h0 := by rw [← hh, Bd.state]; rfl
  have N0 := Fr.nil n0
  have pre0 : ∀ t, Steps p.tables e below (s₁.setTop (mkF m 0 #[.val (.int pa), .val (.int pb), .val (.int pf), .unset, .unset, .unset, .unset, .unset, .unset, .unset, .unset, .unset, .unset, .unset, .unset, .unset, .unset] [])) t → Steps p.tables e below (s₁.setTop (entryFrame m #[(.int pa), (.int pb), (.int pf)] maxLocals)) t := fun t kt => castTop (ef0 m pa pb pf) kt
  have pre1 : ∀ t, Steps p.tables e below (s₁.setTop (mkF m 3 #[.val (.int pa), .val (.int pb), .val (.int pf), .unset, .unset, .unset, .unset, .unset, .unset, .unset, .unset, .unset, .unset, .unset, .unset, .unset, .unset] [(.int (pf &&& (1 : Int32)))])) t → Steps p.tables e below (s₁.setTop (entryFrame m #[(.int pa), (.int pb), (.int pf)] maxLocals)) t := by
    intro t kt
    refine pre0 _ ?_
    show Steps p.tables e below (s₁.setTop (mkF m 0 #[.val (.int pa), .val (.int pb), .val (.int pf), .unset, .unset, .unset, .unset, .unset, .unset, .unset, .unset, .unset, .unset, .unset, .unset, .unset, .unset] [])) _
    refine XS.iloadN X0.here hx rfl (hb hby at_0) rfl ?_
    show Steps p.tables e below (s₁.setTop (mkF m 1 #[.val (.int pa), .val (.int pb), .val (.int pf), .unset, .unset, .unset, .unset, .unset, .unset, .unset, .unset, .unset, .unset, .unset, .unset, .unset, .unset] [(.int pf)])) _
    refine XS.iconst X0.here hx rfl (hb hby at_1) ?_
    show Steps p.tables e below (s₁.setTop (mkF m 2 #[.val (.int pa), .val (.int pb), .val (.int pf), .unset, .unset, .unset, .unset, .unset, .unset, .unset, .unset, .unset, .unset, .unset, .unset, .unset, .unset] [(.int (1 : Int32)), (.int pf)])) _
    refine XS.iand X0.here hx rfl (hb hby at_2) rfl ?_
    exact kt
  by_cases hc3_2 : (pf &&& (1 : Int32)) = (0 : Int32)
  · have pre3 : ∀ t, Steps p.tables e below (s₁.setTop (mkF m 15 #[.val (.int pa), .val (.int pb), .val (.int pf), .val (.int (0 : Int32)), .unset, .unset, .unset, .unset, .unset, .unset, .unset, .unset, .unset, .unset, .unset, .unset, .unset] [(.int (pf &&& (2 : Int32)))])) t → Steps p.tables e below (s₁.setTop (entryFrame m #[(.int pa), (.int pb), (.int pf)] maxLocals)) t := by
      intro t kt
      refine pre1 _ ?_
      show Steps p.tables e below (s₁.setTop (mkF m 3 #[.val (.int pa), .val (.int pb), .val (.int pf), .unset, .unset, .unset, .unset, .unset, .unset, .unset, .unset, .unset, .unset, .unset, .unset, .unset, .unset] [(.int (pf &&& (1 : Int32)))])) _
      refine XS.ifYes X0.here hx rfl (pc0 := 3) (pc' := 10) rfl (hb hby at_3) rfl (XT.i0_eq_t hc3_2) (by decide) (by decide) ?_
      show Steps p.tables e below (s₁.setTop (mkF m 10 #[.val (.int pa), .val (.int pb), .val (.int pf), .unset, .unset, .unset, .unset, .unset, .unset, .unset, .unset, .unset, .unset, .unset, .unset, .unset, .unset] [])) _
      refine XS.iconst X0.here hx rfl (hb hby at_10) ?_
      show Steps p.tables e below (s₁.setTop (mkF m 11 #[.val (.int pa), .val (.int pb), .val (.int pf), .unset, .unset, .unset, .unset, .unset, .unset, .unset, .unset, .unset, .unset, .unset, .unset, .unset, .unset] [(.int (0 : Int32))])) _
      refine XS.istoreN X0.here hx rfl (hb hby at_11) rfl (l' := #[.val (.int pa), .val (.int pb), .val (.int pf), .val (.int (0 : Int32)), .unset, .unset, .unset, .unset, .unset, .unset, .unset, .unset, .unset, .unset, .unset, .unset, .unset]) rfl ?_
      show Steps p.tables e below (s₁.setTop (mkF m 12 #[.val (.int pa), .val (.int pb), .val (.int pf), .val (.int (0 : Int32)), .unset, .unset, .unset, .unset, .unset, .unset, .unset, .unset, .unset, .unset, .unset, .unset, .unset] [])) _
      refine XS.iloadN X0.here hx rfl (hb hby at_12) rfl ?_
      show Steps p.tables e below (s₁.setTop (mkF m 13 #[.val (.int pa), .val (.int pb), .val (.int pf), .val (.int (0 : Int32)), .unset, .unset, .unset, .unset, .unset, .unset, .unset, .unset, .unset, .unset, .unset, .unset, .unset] [(.int pf)])) _
      refine XS.iconst X0.here hx rfl (hb hby at_13) ?_
      show Steps p.tables e below (s₁.setTop (mkF m 14 #[.val (.int pa), .val (.int pb), .val (.int pf), .val (.int (0 : Int32)), .unset, .unset, .unset, .unset, .unset, .unset, .unset, .unset, .unset, .unset, .unset, .unset, .unset] [(.int (2 : Int32)), (.int pf)])) _
      refine XS.iand X0.here hx rfl (hb hby at_14) rfl ?_
      exact kt
    by_cases hc15_4 : (pf &&& (2 : Int32)) = (0 : Int32)
    · have pre5 : ∀ t, Steps p.tables e below (s₁.setTop (mkF m 86 #[.val (.int pa), .val (.int pb), .val (.int pf), .val (.int (0 : Int32)), .val (.int (0 : Int32)), .val (.double (FP.i2d pa)), .second, .val (.double (FP.i2d pb)), .second, .val (.long pa.toInt64), .second, .val (.long pb.toInt64), .second, .unset, .unset, .unset, .unset] [(.int (XT.cmpL pa.toInt64 pb.toInt64))])) t → Steps p.tables e below (s₁.setTop (entryFrame m #[(.int pa), (.int pb), (.int pf)] maxLocals)) t := by
        intro t kt
        refine pre3 _ ?_
        show Steps p.tables e below (s₁.setTop (mkF m 15 #[.val (.int pa), .val (.int pb), .val (.int pf), .val (.int (0 : Int32)), .unset, .unset, .unset, .unset, .unset, .unset, .unset, .unset, .unset, .unset, .unset, .unset, .unset] [(.int (pf &&& (2 : Int32)))])) _
        refine XS.ifYes X0.here hx rfl (pc0 := 15) (pc' := 22) rfl (hb hby at_15) rfl (XT.i0_eq_t hc15_4) (by decide) (by decide) ?_
        show Steps p.tables e below (s₁.setTop (mkF m 22 #[.val (.int pa), .val (.int pb), .val (.int pf), .val (.int (0 : Int32)), .unset, .unset, .unset, .unset, .unset, .unset, .unset, .unset, .unset, .unset, .unset, .unset, .unset] [])) _
        refine XS.iconst X0.here hx rfl (hb hby at_22) ?_
        show Steps p.tables e below (s₁.setTop (mkF m 23 #[.val (.int pa), .val (.int pb), .val (.int pf), .val (.int (0 : Int32)), .unset, .unset, .unset, .unset, .unset, .unset, .unset, .unset, .unset, .unset, .unset, .unset, .unset] [(.int (0 : Int32))])) _
        refine XS.istore X0.here hx rfl (hb hby at_23) rfl (l' := #[.val (.int pa), .val (.int pb), .val (.int pf), .val (.int (0 : Int32)), .val (.int (0 : Int32)), .unset, .unset, .unset, .unset, .unset, .unset, .unset, .unset, .unset, .unset, .unset, .unset]) rfl ?_
        show Steps p.tables e below (s₁.setTop (mkF m 25 #[.val (.int pa), .val (.int pb), .val (.int pf), .val (.int (0 : Int32)), .val (.int (0 : Int32)), .unset, .unset, .unset, .unset, .unset, .unset, .unset, .unset, .unset, .unset, .unset, .unset] [])) _
        refine XS.iloadN X0.here hx rfl (hb hby at_25) rfl ?_
        show Steps p.tables e below (s₁.setTop (mkF m 26 #[.val (.int pa), .val (.int pb), .val (.int pf), .val (.int (0 : Int32)), .val (.int (0 : Int32)), .unset, .unset, .unset, .unset, .unset, .unset, .unset, .unset, .unset, .unset, .unset, .unset] [(.int pa)])) _
        refine XS.i2dS X0.here hx rfl (hb hby at_26) rfl rfl ?_
        show Steps p.tables e below (s₁.setTop (mkF m 27 #[.val (.int pa), .val (.int pb), .val (.int pf), .val (.int (0 : Int32)), .val (.int (0 : Int32)), .unset, .unset, .unset, .unset, .unset, .unset, .unset, .unset, .unset, .unset, .unset, .unset] [(.double (FP.i2d pa))])) _
        refine XS.dstore X0.here hx rfl (hb hby at_27) rfl (l' := #[.val (.int pa), .val (.int pb), .val (.int pf), .val (.int (0 : Int32)), .val (.int (0 : Int32)), .val (.double (FP.i2d pa)), .second, .unset, .unset, .unset, .unset, .unset, .unset, .unset, .unset, .unset, .unset]) rfl ?_
        show Steps p.tables e below (s₁.setTop (mkF m 29 #[.val (.int pa), .val (.int pb), .val (.int pf), .val (.int (0 : Int32)), .val (.int (0 : Int32)), .val (.double (FP.i2d pa)), .second, .unset, .unset, .unset, .unset, .unset, .unset, .unset, .unset, .unset, .unset] [])) _
        refine XS.iloadN X0.here hx rfl (hb hby at_29) rfl ?_
        show Steps p.tables e below (s₁.setTop (mkF m 30 #[.val (.int pa), .val (.int pb), .val (.int pf), .val (.int (0 : Int32)), .val (.int (0 : Int32)), .val (.double (FP.i2d pa)), .second, .unset, .unset, .unset, .unset, .unset, .unset, .unset, .unset, .unset, .unset] [(.int (0 : Int32))])) _
        refine XS.ifYes X0.here hx rfl (pc0 := 30) (pc' := 38) rfl (hb hby at_30) rfl (XT.i0_eq_t (by decide)) (by decide) (by decide) ?_
        show Steps p.tables e below (s₁.setTop (mkF m 38 #[.val (.int pa), .val (.int pb), .val (.int pf), .val (.int (0 : Int32)), .val (.int (0 : Int32)), .val (.double (FP.i2d pa)), .second, .unset, .unset, .unset, .unset, .unset, .unset, .unset, .unset, .unset, .unset] [])) _
        refine XS.iloadN X0.here hx rfl (hb hby at_38) rfl ?_
        show Steps p.tables e below (s₁.setTop (mkF m 39 #[.val (.int pa), .val (.int pb), .val (.int pf), .val (.int (0 : Int32)), .val (.int (0 : Int32)), .val (.double (FP.i2d pa)), .second, .unset, .unset, .unset, .unset, .unset, .unset, .unset, .unset, .unset, .unset] [(.int pb)])) _
        refine XS.i2dS X0.here hx rfl (hb hby at_39) rfl rfl ?_
        show Steps p.tables e below (s₁.setTop (mkF m 40 #[.val (.int pa), .val (.int pb), .val (.int pf), .val (.int (0 : Int32)), .val (.int (0 : Int32)), .val (.double (FP.i2d pa)), .second, .unset, .unset, .unset, .unset, .unset, .unset, .unset, .unset, .unset, .unset] [(.double (FP.i2d pb))])) _
        refine XS.dstore X0.here hx rfl (hb hby at_40) rfl (l' := #[.val (.int pa), .val (.int pb), .val (.int pf), .val (.int (0 : Int32)), .val (.int (0 : Int32)), .val (.double (FP.i2d pa)), .second, .val (.double (FP.i2d pb)), .second, .unset, .unset, .unset, .unset, .unset, .unset, .unset, .unset]) rfl ?_
        show Steps p.tables e below (s₁.setTop (mkF m 42 #[.val (.int pa), .val (.int pb), .val (.int pf), .val (.int (0 : Int32)), .val (.int (0 : Int32)), .val (.double (FP.i2d pa)), .second, .val (.double (FP.i2d pb)), .second, .unset, .unset, .unset, .unset, .unset, .unset, .unset, .unset] [])) _
        refine XS.iload X0.here hx rfl (hb hby at_42) rfl ?_
        show Steps p.tables e below (s₁.setTop (mkF m 44 #[.val (.int pa), .val (.int pb), .val (.int pf), .val (.int (0 : Int32)), .val (.int (0 : Int32)), .val (.double (FP.i2d pa)), .second, .val (.double (FP.i2d pb)), .second, .unset, .unset, .unset, .unset, .unset, .unset, .unset, .unset] [(.int (0 : Int32))])) _
        refine XS.ifYes X0.here hx rfl (pc0 := 44) (pc' := 52) rfl (hb hby at_44) rfl (XT.i0_eq_t (by decide)) (by decide) (by decide) ?_
        show Steps p.tables e below (s₁.setTop (mkF m 52 #[.val (.int pa), .val (.int pb), .val (.int pf), .val (.int (0 : Int32)), .val (.int (0 : Int32)), .val (.double (FP.i2d pa)), .second, .val (.double (FP.i2d pb)), .second, .unset, .unset, .unset, .unset, .unset, .unset, .unset, .unset] [])) _
        refine XS.iloadN X0.here hx rfl (hb hby at_52) rfl ?_
        show Steps p.tables e below (s₁.setTop (mkF m 53 #[.val (.int pa), .val (.int pb), .val (.int pf), .val (.int (0 : Int32)), .val (.int (0 : Int32)), .val (.double (FP.i2d pa)), .second, .val (.double (FP.i2d pb)), .second, .unset, .unset, .unset, .unset, .unset, .unset, .unset, .unset] [(.int (0 : Int32))])) _
        refine XS.ifYes X0.here hx rfl (pc0 := 53) (pc' := 62) rfl (hb hby at_53) rfl (XT.i0_eq_t (by decide)) (by decide) (by decide) ?_
        show Steps p.tables e below (s₁.setTop (mkF m 62 #[.val (.int pa), .val (.int pb), .val (.int pf), .val (.int (0 : Int32)), .val (.int (0 : Int32)), .val (.double (FP.i2d pa)), .second, .val (.double (FP.i2d pb)), .second, .unset, .unset, .unset, .unset, .unset, .unset, .unset, .unset] [])) _
        refine XS.iloadN X0.here hx rfl (hb hby at_62) rfl ?_
        show Steps p.tables e below (s₁.setTop (mkF m 63 #[.val (.int pa), .val (.int pb), .val (.int pf), .val (.int (0 : Int32)), .val (.int (0 : Int32)), .val (.double (FP.i2d pa)), .second, .val (.double (FP.i2d pb)), .second, .unset, .unset, .unset, .unset, .unset, .unset, .unset, .unset] [(.int pa)])) _
        refine XS.i2l X0.here hx rfl (hb hby at_63) rfl ?_
        show Steps p.tables e below (s₁.setTop (mkF m 64 #[.val (.int pa), .val (.int pb), .val (.int pf), .val (.int (0 : Int32)), .val (.int (0 : Int32)), .val (.double (FP.i2d pa)), .second, .val (.double (FP.i2d pb)), .second, .unset, .unset, .unset, .unset, .unset, .unset, .unset, .unset] [(.long pa.toInt64)])) _
        refine XS.lstore X0.here hx rfl (hb hby at_64) rfl (l' := #[.val (.int pa), .val (.int pb), .val (.int pf), .val (.int (0 : Int32)), .val (.int (0 : Int32)), .val (.double (FP.i2d pa)), .second, .val (.double (FP.i2d pb)), .second, .val (.long pa.toInt64), .second, .unset, .unset, .unset, .unset, .unset, .unset]) rfl ?_
        show Steps p.tables e below (s₁.setTop (mkF m 66 #[.val (.int pa), .val (.int pb), .val (.int pf), .val (.int (0 : Int32)), .val (.int (0 : Int32)), .val (.double (FP.i2d pa)), .second, .val (.double (FP.i2d pb)), .second, .val (.long pa.toInt64), .second, .unset, .unset, .unset, .unset, .unset, .unset] [])) _
        refine XS.iload X0.here hx rfl (hb hby at_66) rfl ?_
        show Steps p.tables e below (s₁.setTop (mkF m 68 #[.val (.int pa), .val (.int pb), .val (.int pf), .val (.int (0 : Int32)), .val (.int (0 : Int32)), .val (.double (FP.i2d pa)), .second, .val (.double (FP.i2d pb)), .second, .val (.long pa.toInt64), .second, .unset, .unset, .unset, .unset, .unset, .unset] [(.int (0 : Int32))])) _
        refine XS.ifYes X0.here hx rfl (pc0 := 68) (pc' := 77) rfl (hb hby at_68) rfl (XT.i0_eq_t (by decide)) (by decide) (by decide) ?_
        show Steps p.tables e below (s₁.setTop (mkF m 77 #[.val (.int pa), .val (.int pb), .val (.int pf), .val (.int (0 : Int32)), .val (.int (0 : Int32)), .val (.double (FP.i2d pa)), .second, .val (.double (FP.i2d pb)), .second, .val (.long pa.toInt64), .second, .unset, .unset, .unset, .unset, .unset, .unset] [])) _
        refine XS.iloadN X0.here hx rfl (hb hby at_77) rfl ?_
        show Steps p.tables e below (s₁.setTop (mkF m 78 #[.val (.int pa), .val (.int pb), .val (.int pf), .val (.int (0 : Int32)), .val (.int (0 : Int32)), .val (.double (FP.i2d pa)), .second, .val (.double (FP.i2d pb)), .second, .val (.long pa.toInt64), .second, .unset, .unset, .unset, .unset, .unset, .unset] [(.int pb)])) _
        refine XS.i2l X0.here hx rfl (hb hby at_78) rfl ?_
        show Steps p.tables e below (s₁.setTop (mkF m 79 #[.val (.int pa), .val (.int pb), .val (.int pf), .val (.int (0 : Int32)), .val (.int (0 : Int32)), .val (.double (FP.i2d pa)), .second, .val (.double (FP.i2d pb)), .second, .val (.long pa.toInt64), .second, .unset, .unset, .unset, .unset, .unset, .unset] [(.long pb.toInt64)])) _
        refine XS.lstore X0.here hx rfl (hb hby at_79) rfl (l' := #[.val (.int pa), .val (.int pb), .val (.int pf), .val (.int (0 : Int32)), .val (.int (0 : Int32)), .val (.double (FP.i2d pa)), .second, .val (.double (FP.i2d pb)), .second, .val (.long pa.toInt64), .second, .val (.long pb.toInt64), .second, .unset, .unset, .unset, .unset]) rfl ?_
        show Steps p.tables e below (s₁.setTop (mkF m 81 #[.val (.int pa), .val (.int pb), .val (.int pf), .val (.int (0 : Int32)), .val (.int (0 : Int32)), .val (.double (FP.i2d pa)), .second, .val (.double (FP.i2d pb)), .second, .val (.long pa.toInt64), .second, .val (.long pb.toInt64), .second, .unset, .unset, .unset, .unset] [])) _
        refine XS.lload X0.here hx rfl (hb hby at_81) rfl ?_
        show Steps p.tables e below (s₁.setTop (mkF m 83 #[.val (.int pa), .val (.int pb), .val (.int pf), .val (.int (0 : Int32)), .val (.int (0 : Int32)), .val (.double (FP.i2d pa)), .second, .val (.double (FP.i2d pb)), .second, .val (.long pa.toInt64), .second, .val (.long pb.toInt64), .second, .unset, .unset, .unset, .unset] [(.long pa.toInt64)])) _
        refine XS.lload X0.here hx rfl (hb hby at_83) rfl ?_
        show Steps p.tables e below (s₁.setTop (mkF m 85 #[.val (.int pa), .val (.int pb), .val (.int pf), .val (.int (0 : Int32)), .val (.int (0 : Int32)), .val (.double (FP.i2d pa)), .second, .val (.double (FP.i2d pb)), .second, .val (.long pa.toInt64), .second, .val (.long pb.toInt64), .second, .unset, .unset, .unset, .unset] [(.long pb.toInt64), (.long pa.toInt64)])) _
        refine XT.lcmp X0.here hx rfl (hb hby at_85) rfl ?_
        exact kt
      by_cases hc86_6 : pa.toInt64 < pb.toInt64
      · obtain ⟨_, _, ⟨T7, L7, k7, n7⟩, -, X7, ⟨Lc7, hQ7, l7, y7, z7⟩, st7⟩ := Jvm.LawKit.callS X0 hx (y := (⟨"com/example/adjudica/adjudica/engine/Arithmetic", "sign", "(DD)D"⟩ : MethodName)) hown (mvT hZ (hw _ (List.mem_of_getElem? (i := 0) rfl))) (mvT hZ (hw _ (List.mem_of_getElem? (i := 1) rfl))) (mvT hZ (hw _ (List.mem_of_getElem? (i := 2) rfl))) (mvT hZ (hw _ (List.mem_of_getElem? (i := 3) rfl))) (by decide) (backOf (W := 0) (rm1 l Z a0 hw [] (FP.i2d pa) (FP.i2d pb) h0 n0 Z0) hZ (hw _ (List.mem_of_getElem? (i := 3) rfl)) (hw _ (List.mem_of_getElem? (i := 2) rfl)) (by decide) (by decide)) (g := (mkF m 118 #[.val (.int pa), .val (.int pb), .val (.int pf), .val (.int (0 : Int32)), .val (.int (0 : Int32)), .val (.double (FP.i2d pa)), .second, .val (.double (FP.i2d pb)), .second, .val (.long pa.toInt64), .second, .val (.long pb.toInt64), .second, .val (.double (13830554455654793216 : UInt64)), .second, .unset, .unset] [(.double (FP.i2d pb)), (.double (FP.i2d pa))])) rfl (by rw [hml]; rfl) (argsL := [(.double (FP.i2d pa)), (.double (FP.i2d pb))]) (rest := []) (lenOf pd0_0 rfl) rfl (by show 2 * 0 + _ ≤ _; exact Nat.le_of_eq rfl) (hb hby at_118) (fun _ _ => ⟨rfl, e0, (by decide : 0 + 0 ≤ _), (by decide : 0 + 0 ≤ _)⟩)
        dsimp only [Pt.U, Pt.locs, Pt.cells, Pt.slots] at X7 l7 y7 z7 st7 hQ7
        subst l7 y7 z7
        obtain ⟨rfl, N7q, e7⟩ := hQ7
        have N7 := Fr.app N0 N7q
        have pre8 : ∀ t, Steps p.tables e below (T7.setTop (mkF m 136 #[.val (.int pa), .val (.int pb), .val (.int pf), .val (.int (0 : Int32)), .val (.int (0 : Int32)), .val (.double (FP.i2d pa)), .second, .val (.double (FP.i2d pb)), .second, .val (.long pa.toInt64), .second, .val (.long pb.toInt64), .second, .val (.double (13830554455654793216 : UInt64)), .second, .val (.double (sgF (FP.i2d pa) (FP.i2d pb))), .second] [(.int (1 : Int32))])) t → Steps p.tables e below (s₁.setTop (entryFrame m #[(.int pa), (.int pb), (.int pf)] maxLocals)) t := by
          intro t kt
          refine pre5 _ ?_
          show Steps p.tables e below (s₁.setTop (mkF m 86 #[.val (.int pa), .val (.int pb), .val (.int pf), .val (.int (0 : Int32)), .val (.int (0 : Int32)), .val (.double (FP.i2d pa)), .second, .val (.double (FP.i2d pb)), .second, .val (.long pa.toInt64), .second, .val (.long pb.toInt64), .second, .unset, .unset, .unset, .unset] [(.int (XT.cmpL pa.toInt64 pb.toInt64))])) _
          refine XS.ifNo X0.here hx rfl (hb hby at_86) rfl (XT.ll_ge_f hc86_6) ?_
          show Steps p.tables e below (s₁.setTop (mkF m 89 #[.val (.int pa), .val (.int pb), .val (.int pf), .val (.int (0 : Int32)), .val (.int (0 : Int32)), .val (.double (FP.i2d pa)), .second, .val (.double (FP.i2d pb)), .second, .val (.long pa.toInt64), .second, .val (.long pb.toInt64), .second, .unset, .unset, .unset, .unset] [])) _
          refine X0.ldc2DoubleC hx hown (mvT hZ (hw _ (List.mem_of_getElem? (i := 4) rfl))) (g := (mkF m 89 #[.val (.int pa), .val (.int pb), .val (.int pf), .val (.int (0 : Int32)), .val (.int (0 : Int32)), .val (.double (FP.i2d pa)), .second, .val (.double (FP.i2d pb)), .second, .val (.long pa.toInt64), .second, .val (.long pb.toInt64), .second, .unset, .unset, .unset, .unset] [])) rfl (hb hby at_89) _ ?_
          show Steps p.tables e below (s₁.setTop (mkF m 92 #[.val (.int pa), .val (.int pb), .val (.int pf), .val (.int (0 : Int32)), .val (.int (0 : Int32)), .val (.double (FP.i2d pa)), .second, .val (.double (FP.i2d pb)), .second, .val (.long pa.toInt64), .second, .val (.long pb.toInt64), .second, .unset, .unset, .unset, .unset] [(.double (13830554455654793216 : UInt64))])) _
          refine XS.dstore X0.here hx rfl (hb hby at_92) rfl (l' := #[.val (.int pa), .val (.int pb), .val (.int pf), .val (.int (0 : Int32)), .val (.int (0 : Int32)), .val (.double (FP.i2d pa)), .second, .val (.double (FP.i2d pb)), .second, .val (.long pa.toInt64), .second, .val (.long pb.toInt64), .second, .val (.double (13830554455654793216 : UInt64)), .second, .unset, .unset]) rfl ?_
          show Steps p.tables e below (s₁.setTop (mkF m 94 #[.val (.int pa), .val (.int pb), .val (.int pf), .val (.int (0 : Int32)), .val (.int (0 : Int32)), .val (.double (FP.i2d pa)), .second, .val (.double (FP.i2d pb)), .second, .val (.long pa.toInt64), .second, .val (.long pb.toInt64), .second, .val (.double (13830554455654793216 : UInt64)), .second, .unset, .unset] [])) _
          refine XS.goto X0.here hx rfl (pc0 := 94) (pc' := 114) rfl (hb hby at_94) (by decide) (by decide) ?_
          show Steps p.tables e below (s₁.setTop (mkF m 114 #[.val (.int pa), .val (.int pb), .val (.int pf), .val (.int (0 : Int32)), .val (.int (0 : Int32)), .val (.double (FP.i2d pa)), .second, .val (.double (FP.i2d pb)), .second, .val (.long pa.toInt64), .second, .val (.long pb.toInt64), .second, .val (.double (13830554455654793216 : UInt64)), .second, .unset, .unset] [])) _
          refine XS.dload X0.here hx rfl (hb hby at_114) rfl ?_
          show Steps p.tables e below (s₁.setTop (mkF m 116 #[.val (.int pa), .val (.int pb), .val (.int pf), .val (.int (0 : Int32)), .val (.int (0 : Int32)), .val (.double (FP.i2d pa)), .second, .val (.double (FP.i2d pb)), .second, .val (.long pa.toInt64), .second, .val (.long pb.toInt64), .second, .val (.double (13830554455654793216 : UInt64)), .second, .unset, .unset] [(.double (FP.i2d pa))])) _
          refine XS.dload X0.here hx rfl (hb hby at_116) rfl ?_
          show Steps p.tables e below (s₁.setTop (mkF m 118 #[.val (.int pa), .val (.int pb), .val (.int pf), .val (.int (0 : Int32)), .val (.int (0 : Int32)), .val (.double (FP.i2d pa)), .second, .val (.double (FP.i2d pb)), .second, .val (.long pa.toInt64), .second, .val (.long pb.toInt64), .second, .val (.double (13830554455654793216 : UInt64)), .second, .unset, .unset] [(.double (FP.i2d pb)), (.double (FP.i2d pa))])) _
          refine st7 _ ?_
          show Steps p.tables e below (T7.setTop (mkF m 121 #[.val (.int pa), .val (.int pb), .val (.int pf), .val (.int (0 : Int32)), .val (.int (0 : Int32)), .val (.double (FP.i2d pa)), .second, .val (.double (FP.i2d pb)), .second, .val (.long pa.toInt64), .second, .val (.long pb.toInt64), .second, .val (.double (13830554455654793216 : UInt64)), .second, .unset, .unset] [(.double (sgF (FP.i2d pa) (FP.i2d pb)))])) _
          refine XS.dstore X7.here hx rfl (hb hby at_121) rfl (l' := #[.val (.int pa), .val (.int pb), .val (.int pf), .val (.int (0 : Int32)), .val (.int (0 : Int32)), .val (.double (FP.i2d pa)), .second, .val (.double (FP.i2d pb)), .second, .val (.long pa.toInt64), .second, .val (.long pb.toInt64), .second, .val (.double (13830554455654793216 : UInt64)), .second, .val (.double (sgF (FP.i2d pa) (FP.i2d pb))), .second]) rfl ?_
          show Steps p.tables e below (T7.setTop (mkF m 123 #[.val (.int pa), .val (.int pb), .val (.int pf), .val (.int (0 : Int32)), .val (.int (0 : Int32)), .val (.double (FP.i2d pa)), .second, .val (.double (FP.i2d pb)), .second, .val (.long pa.toInt64), .second, .val (.long pb.toInt64), .second, .val (.double (13830554455654793216 : UInt64)), .second, .val (.double (sgF (FP.i2d pa) (FP.i2d pb))), .second] [])) _
          refine XS.dload X7.here hx rfl (hb hby at_123) rfl ?_
          show Steps p.tables e below (T7.setTop (mkF m 125 #[.val (.int pa), .val (.int pb), .val (.int pf), .val (.int (0 : Int32)), .val (.int (0 : Int32)), .val (.double (FP.i2d pa)), .second, .val (.double (FP.i2d pb)), .second, .val (.long pa.toInt64), .second, .val (.long pb.toInt64), .second, .val (.double (13830554455654793216 : UInt64)), .second, .val (.double (sgF (FP.i2d pa) (FP.i2d pb))), .second] [(.double (sgF (FP.i2d pa) (FP.i2d pb)))])) _
          refine XS.dload X7.here hx rfl (hb hby at_125) rfl ?_
          show Steps p.tables e below (T7.setTop (mkF m 127 #[.val (.int pa), .val (.int pb), .val (.int pf), .val (.int (0 : Int32)), .val (.int (0 : Int32)), .val (.double (FP.i2d pa)), .second, .val (.double (FP.i2d pb)), .second, .val (.long pa.toInt64), .second, .val (.long pb.toInt64), .second, .val (.double (13830554455654793216 : UInt64)), .second, .val (.double (sgF (FP.i2d pa) (FP.i2d pb))), .second] [(.double (13830554455654793216 : UInt64)), (.double (sgF (FP.i2d pa) (FP.i2d pb)))])) _
          refine XS.dcmpS X7.here hx rfl (hb hby at_127) rfl rfl ?_
          show Steps p.tables e below (T7.setTop (mkF m 128 #[.val (.int pa), .val (.int pb), .val (.int pf), .val (.int (0 : Int32)), .val (.int (0 : Int32)), .val (.double (FP.i2d pa)), .second, .val (.double (FP.i2d pb)), .second, .val (.long pa.toInt64), .second, .val (.long pb.toInt64), .second, .val (.double (13830554455654793216 : UInt64)), .second, .val (.double (sgF (FP.i2d pa) (FP.i2d pb))), .second] [(.int (cmpValue (FP.dcmp (sgF (FP.i2d pa) (FP.i2d pb)) (13830554455654793216 : UInt64)) .l))])) _
          refine XS.ifNo X7.here hx rfl (hb hby at_128) rfl (XT.i0_ne_f (by rw [own_sg_lt (own_i2d pa) (own_i2d pb) (by have q := Int64.lt_iff_toInt_lt.mp hc86_6; rw [own_i2l pa, own_i2l pb] at q; exact q)]; exact own_same _ (Or.inl rfl))) ?_
          show Steps p.tables e below (T7.setTop (mkF m 131 #[.val (.int pa), .val (.int pb), .val (.int pf), .val (.int (0 : Int32)), .val (.int (0 : Int32)), .val (.double (FP.i2d pa)), .second, .val (.double (FP.i2d pb)), .second, .val (.long pa.toInt64), .second, .val (.long pb.toInt64), .second, .val (.double (13830554455654793216 : UInt64)), .second, .val (.double (sgF (FP.i2d pa) (FP.i2d pb))), .second] [])) _
          refine XS.iconst X7.here hx rfl (hb hby at_131) ?_
          show Steps p.tables e below (T7.setTop (mkF m 132 #[.val (.int pa), .val (.int pb), .val (.int pf), .val (.int (0 : Int32)), .val (.int (0 : Int32)), .val (.double (FP.i2d pa)), .second, .val (.double (FP.i2d pb)), .second, .val (.long pa.toInt64), .second, .val (.long pb.toInt64), .second, .val (.double (13830554455654793216 : UInt64)), .second, .val (.double (sgF (FP.i2d pa) (FP.i2d pb))), .second] [(.int (1 : Int32))])) _
          refine XS.goto X7.here hx rfl (pc0 := 132) (pc' := 136) rfl (hb hby at_132) (by decide) (by decide) ?_
          exact kt
        obtain ⟨fs, hr, hrun, hended, hW, hsame⟩ := X7.leave (v := some (.int (1 : Int32))) (fun h => by rw [Bd.returns] at h; cases h)
        refine ⟨_, _, pre8 _ ?_, hrun, hended, _, _, rfl, ?_, ⟨_, rfl⟩, hW, hsame.mono (by decide) (by decide)⟩
        · show Steps p.tables e below (T7.setTop (mkF m 136 #[.val (.int pa), .val (.int pb), .val (.int pf), .val (.int (0 : Int32)), .val (.int (0 : Int32)), .val (.double (FP.i2d pa)), .second, .val (.double (FP.i2d pb)), .second, .val (.long pa.toInt64), .second, .val (.long pb.toInt64), .second, .val (.double (13830554455654793216 : UInt64)), .second, .val (.double (sgF (FP.i2d pa) (FP.i2d pb))), .second] [(.int (1 : Int32))])) _
          exact retN X7 hx (t := .boolean) Bd.returns (by simp) (hb hby at_136) hr
        · show Q1 Z (.int 1) h0 n0 _ T7.heap _
          rw [e7]
          exact ⟨rfl, N7, rfl⟩
      · have pre9 : ∀ t, Steps p.tables e below (s₁.setTop (mkF m 102 #[.val (.int pa), .val (.int pb), .val (.int pf), .val (.int (0 : Int32)), .val (.int (0 : Int32)), .val (.double (FP.i2d pa)), .second, .val (.double (FP.i2d pb)), .second, .val (.long pa.toInt64), .second, .val (.long pb.toInt64), .second, .unset, .unset, .unset, .unset] [(.int (XT.cmpL pa.toInt64 pb.toInt64))])) t → Steps p.tables e below (s₁.setTop (entryFrame m #[(.int pa), (.int pb), (.int pf)] maxLocals)) t := by
          intro t kt
          refine pre5 _ ?_
          show Steps p.tables e below (s₁.setTop (mkF m 86 #[.val (.int pa), .val (.int pb), .val (.int pf), .val (.int (0 : Int32)), .val (.int (0 : Int32)), .val (.double (FP.i2d pa)), .second, .val (.double (FP.i2d pb)), .second, .val (.long pa.toInt64), .second, .val (.long pb.toInt64), .second, .unset, .unset, .unset, .unset] [(.int (XT.cmpL pa.toInt64 pb.toInt64))])) _
          refine XS.ifYes X0.here hx rfl (pc0 := 86) (pc' := 97) rfl (hb hby at_86) rfl (XT.ll_ge_t hc86_6) (by decide) (by decide) ?_
          show Steps p.tables e below (s₁.setTop (mkF m 97 #[.val (.int pa), .val (.int pb), .val (.int pf), .val (.int (0 : Int32)), .val (.int (0 : Int32)), .val (.double (FP.i2d pa)), .second, .val (.double (FP.i2d pb)), .second, .val (.long pa.toInt64), .second, .val (.long pb.toInt64), .second, .unset, .unset, .unset, .unset] [])) _
          refine XS.lload X0.here hx rfl (hb hby at_97) rfl ?_
          show Steps p.tables e below (s₁.setTop (mkF m 99 #[.val (.int pa), .val (.int pb), .val (.int pf), .val (.int (0 : Int32)), .val (.int (0 : Int32)), .val (.double (FP.i2d pa)), .second, .val (.double (FP.i2d pb)), .second, .val (.long pa.toInt64), .second, .val (.long pb.toInt64), .second, .unset, .unset, .unset, .unset] [(.long pa.toInt64)])) _
          refine XS.lload X0.here hx rfl (hb hby at_99) rfl ?_
          show Steps p.tables e below (s₁.setTop (mkF m 101 #[.val (.int pa), .val (.int pb), .val (.int pf), .val (.int (0 : Int32)), .val (.int (0 : Int32)), .val (.double (FP.i2d pa)), .second, .val (.double (FP.i2d pb)), .second, .val (.long pa.toInt64), .second, .val (.long pb.toInt64), .second, .unset, .unset, .unset, .unset] [(.long pb.toInt64), (.long pa.toInt64)])) _
          refine XT.lcmp X0.here hx rfl (hb hby at_101) rfl ?_
          exact kt
        by_cases hc102_10 : pb.toInt64 < pa.toInt64
        · obtain ⟨_, _, ⟨T11, L11, k11, n11⟩, -, X11, ⟨Lc11, hQ11, l11, y11, z11⟩, st11⟩ := Jvm.LawKit.callS X0 hx (y := (⟨"com/example/adjudica/adjudica/engine/Arithmetic", "sign", "(DD)D"⟩ : MethodName)) hown (mvT hZ (hw _ (List.mem_of_getElem? (i := 0) rfl))) (mvT hZ (hw _ (List.mem_of_getElem? (i := 1) rfl))) (mvT hZ (hw _ (List.mem_of_getElem? (i := 2) rfl))) (mvT hZ (hw _ (List.mem_of_getElem? (i := 3) rfl))) (by decide) (backOf (W := 0) (rm1 l Z a0 hw [] (FP.i2d pa) (FP.i2d pb) h0 n0 Z0) hZ (hw _ (List.mem_of_getElem? (i := 3) rfl)) (hw _ (List.mem_of_getElem? (i := 2) rfl)) (by decide) (by decide)) (g := (mkF m 118 #[.val (.int pa), .val (.int pb), .val (.int pf), .val (.int (0 : Int32)), .val (.int (0 : Int32)), .val (.double (FP.i2d pa)), .second, .val (.double (FP.i2d pb)), .second, .val (.long pa.toInt64), .second, .val (.long pb.toInt64), .second, .val (.double FP.dconst1), .second, .unset, .unset] [(.double (FP.i2d pb)), (.double (FP.i2d pa))])) rfl (by rw [hml]; rfl) (argsL := [(.double (FP.i2d pa)), (.double (FP.i2d pb))]) (rest := []) (lenOf pd0_0 rfl) rfl (by show 2 * 0 + _ ≤ _; exact Nat.le_of_eq rfl) (hb hby at_118) (fun _ _ => ⟨rfl, e0, (by decide : 0 + 0 ≤ _), (by decide : 0 + 0 ≤ _)⟩)
          dsimp only [Pt.U, Pt.locs, Pt.cells, Pt.slots] at X11 l11 y11 z11 st11 hQ11
          subst l11 y11 z11
          obtain ⟨rfl, N11q, e11⟩ := hQ11
          have N11 := Fr.app N0 N11q
          have pre12 : ∀ t, Steps p.tables e below (T11.setTop (mkF m 136 #[.val (.int pa), .val (.int pb), .val (.int pf), .val (.int (0 : Int32)), .val (.int (0 : Int32)), .val (.double (FP.i2d pa)), .second, .val (.double (FP.i2d pb)), .second, .val (.long pa.toInt64), .second, .val (.long pb.toInt64), .second, .val (.double FP.dconst1), .second, .val (.double (sgF (FP.i2d pa) (FP.i2d pb))), .second] [(.int (1 : Int32))])) t → Steps p.tables e below (s₁.setTop (entryFrame m #[(.int pa), (.int pb), (.int pf)] maxLocals)) t := by
            intro t kt
            refine pre9 _ ?_
            show Steps p.tables e below (s₁.setTop (mkF m 102 #[.val (.int pa), .val (.int pb), .val (.int pf), .val (.int (0 : Int32)), .val (.int (0 : Int32)), .val (.double (FP.i2d pa)), .second, .val (.double (FP.i2d pb)), .second, .val (.long pa.toInt64), .second, .val (.long pb.toInt64), .second, .unset, .unset, .unset, .unset] [(.int (XT.cmpL pa.toInt64 pb.toInt64))])) _
            refine XS.ifNo X0.here hx rfl (hb hby at_102) rfl (XT.ll_le_f hc102_10) ?_
            show Steps p.tables e below (s₁.setTop (mkF m 105 #[.val (.int pa), .val (.int pb), .val (.int pf), .val (.int (0 : Int32)), .val (.int (0 : Int32)), .val (.double (FP.i2d pa)), .second, .val (.double (FP.i2d pb)), .second, .val (.long pa.toInt64), .second, .val (.long pb.toInt64), .second, .unset, .unset, .unset, .unset] [])) _
            refine XS.dconst1 X0.here hx rfl (hb hby at_105) rfl ?_
            show Steps p.tables e below (s₁.setTop (mkF m 106 #[.val (.int pa), .val (.int pb), .val (.int pf), .val (.int (0 : Int32)), .val (.int (0 : Int32)), .val (.double (FP.i2d pa)), .second, .val (.double (FP.i2d pb)), .second, .val (.long pa.toInt64), .second, .val (.long pb.toInt64), .second, .unset, .unset, .unset, .unset] [(.double FP.dconst1)])) _
            refine XS.dstore X0.here hx rfl (hb hby at_106) rfl (l' := #[.val (.int pa), .val (.int pb), .val (.int pf), .val (.int (0 : Int32)), .val (.int (0 : Int32)), .val (.double (FP.i2d pa)), .second, .val (.double (FP.i2d pb)), .second, .val (.long pa.toInt64), .second, .val (.long pb.toInt64), .second, .val (.double FP.dconst1), .second, .unset, .unset]) rfl ?_
            show Steps p.tables e below (s₁.setTop (mkF m 108 #[.val (.int pa), .val (.int pb), .val (.int pf), .val (.int (0 : Int32)), .val (.int (0 : Int32)), .val (.double (FP.i2d pa)), .second, .val (.double (FP.i2d pb)), .second, .val (.long pa.toInt64), .second, .val (.long pb.toInt64), .second, .val (.double FP.dconst1), .second, .unset, .unset] [])) _
            refine XS.goto X0.here hx rfl (pc0 := 108) (pc' := 114) rfl (hb hby at_108) (by decide) (by decide) ?_
            show Steps p.tables e below (s₁.setTop (mkF m 114 #[.val (.int pa), .val (.int pb), .val (.int pf), .val (.int (0 : Int32)), .val (.int (0 : Int32)), .val (.double (FP.i2d pa)), .second, .val (.double (FP.i2d pb)), .second, .val (.long pa.toInt64), .second, .val (.long pb.toInt64), .second, .val (.double FP.dconst1), .second, .unset, .unset] [])) _
            refine XS.dload X0.here hx rfl (hb hby at_114) rfl ?_
            show Steps p.tables e below (s₁.setTop (mkF m 116 #[.val (.int pa), .val (.int pb), .val (.int pf), .val (.int (0 : Int32)), .val (.int (0 : Int32)), .val (.double (FP.i2d pa)), .second, .val (.double (FP.i2d pb)), .second, .val (.long pa.toInt64), .second, .val (.long pb.toInt64), .second, .val (.double FP.dconst1), .second, .unset, .unset] [(.double (FP.i2d pa))])) _
            refine XS.dload X0.here hx rfl (hb hby at_116) rfl ?_
            show Steps p.tables e below (s₁.setTop (mkF m 118 #[.val (.int pa), .val (.int pb), .val (.int pf), .val (.int (0 : Int32)), .val (.int (0 : Int32)), .val (.double (FP.i2d pa)), .second, .val (.double (FP.i2d pb)), .second, .val (.long pa.toInt64), .second, .val (.long pb.toInt64), .second, .val (.double FP.dconst1), .second, .unset, .unset] [(.double (FP.i2d pb)), (.double (FP.i2d pa))])) _
            refine st11 _ ?_
            show Steps p.tables e below (T11.setTop (mkF m 121 #[.val (.int pa), .val (.int pb), .val (.int pf), .val (.int (0 : Int32)), .val (.int (0 : Int32)), .val (.double (FP.i2d pa)), .second, .val (.double (FP.i2d pb)), .second, .val (.long pa.toInt64), .second, .val (.long pb.toInt64), .second, .val (.double FP.dconst1), .second, .unset, .unset] [(.double (sgF (FP.i2d pa) (FP.i2d pb)))])) _
            refine XS.dstore X11.here hx rfl (hb hby at_121) rfl (l' := #[.val (.int pa), .val (.int pb), .val (.int pf), .val (.int (0 : Int32)), .val (.int (0 : Int32)), .val (.double (FP.i2d pa)), .second, .val (.double (FP.i2d pb)), .second, .val (.long pa.toInt64), .second, .val (.long pb.toInt64), .second, .val (.double FP.dconst1), .second, .val (.double (sgF (FP.i2d pa) (FP.i2d pb))), .second]) rfl ?_
            show Steps p.tables e below (T11.setTop (mkF m 123 #[.val (.int pa), .val (.int pb), .val (.int pf), .val (.int (0 : Int32)), .val (.int (0 : Int32)), .val (.double (FP.i2d pa)), .second, .val (.double (FP.i2d pb)), .second, .val (.long pa.toInt64), .second, .val (.long pb.toInt64), .second, .val (.double FP.dconst1), .second, .val (.double (sgF (FP.i2d pa) (FP.i2d pb))), .second] [])) _
            refine XS.dload X11.here hx rfl (hb hby at_123) rfl ?_
            show Steps p.tables e below (T11.setTop (mkF m 125 #[.val (.int pa), .val (.int pb), .val (.int pf), .val (.int (0 : Int32)), .val (.int (0 : Int32)), .val (.double (FP.i2d pa)), .second, .val (.double (FP.i2d pb)), .second, .val (.long pa.toInt64), .second, .val (.long pb.toInt64), .second, .val (.double FP.dconst1), .second, .val (.double (sgF (FP.i2d pa) (FP.i2d pb))), .second] [(.double (sgF (FP.i2d pa) (FP.i2d pb)))])) _
            refine XS.dload X11.here hx rfl (hb hby at_125) rfl ?_
            show Steps p.tables e below (T11.setTop (mkF m 127 #[.val (.int pa), .val (.int pb), .val (.int pf), .val (.int (0 : Int32)), .val (.int (0 : Int32)), .val (.double (FP.i2d pa)), .second, .val (.double (FP.i2d pb)), .second, .val (.long pa.toInt64), .second, .val (.long pb.toInt64), .second, .val (.double FP.dconst1), .second, .val (.double (sgF (FP.i2d pa) (FP.i2d pb))), .second] [(.double FP.dconst1), (.double (sgF (FP.i2d pa) (FP.i2d pb)))])) _
            refine XS.dcmpS X11.here hx rfl (hb hby at_127) rfl rfl ?_
            show Steps p.tables e below (T11.setTop (mkF m 128 #[.val (.int pa), .val (.int pb), .val (.int pf), .val (.int (0 : Int32)), .val (.int (0 : Int32)), .val (.double (FP.i2d pa)), .second, .val (.double (FP.i2d pb)), .second, .val (.long pa.toInt64), .second, .val (.long pb.toInt64), .second, .val (.double FP.dconst1), .second, .val (.double (sgF (FP.i2d pa) (FP.i2d pb))), .second] [(.int (cmpValue (FP.dcmp (sgF (FP.i2d pa) (FP.i2d pb)) FP.dconst1) .l))])) _
            refine XS.ifNo X11.here hx rfl (hb hby at_128) rfl (XT.i0_ne_f (by rw [own_sg_gt (own_i2d pa) (own_i2d pb) (by have q := Int64.lt_iff_toInt_lt.mp hc102_10; rw [own_i2l pb, own_i2l pa] at q; exact q)]; exact own_same _ (Or.inr (Or.inl rfl)))) ?_
            show Steps p.tables e below (T11.setTop (mkF m 131 #[.val (.int pa), .val (.int pb), .val (.int pf), .val (.int (0 : Int32)), .val (.int (0 : Int32)), .val (.double (FP.i2d pa)), .second, .val (.double (FP.i2d pb)), .second, .val (.long pa.toInt64), .second, .val (.long pb.toInt64), .second, .val (.double FP.dconst1), .second, .val (.double (sgF (FP.i2d pa) (FP.i2d pb))), .second] [])) _
            refine XS.iconst X11.here hx rfl (hb hby at_131) ?_
            show Steps p.tables e below (T11.setTop (mkF m 132 #[.val (.int pa), .val (.int pb), .val (.int pf), .val (.int (0 : Int32)), .val (.int (0 : Int32)), .val (.double (FP.i2d pa)), .second, .val (.double (FP.i2d pb)), .second, .val (.long pa.toInt64), .second, .val (.long pb.toInt64), .second, .val (.double FP.dconst1), .second, .val (.double (sgF (FP.i2d pa) (FP.i2d pb))), .second] [(.int (1 : Int32))])) _
            refine XS.goto X11.here hx rfl (pc0 := 132) (pc' := 136) rfl (hb hby at_132) (by decide) (by decide) ?_
            exact kt
          obtain ⟨fs, hr, hrun, hended, hW, hsame⟩ := X11.leave (v := some (.int (1 : Int32))) (fun h => by rw [Bd.returns] at h; cases h)
          refine ⟨_, _, pre12 _ ?_, hrun, hended, _, _, rfl, ?_, ⟨_, rfl⟩, hW, hsame.mono (by decide) (by decide)⟩
          · show Steps p.tables e below (T11.setTop (mkF m 136 #[.val (.int pa), .val (.int pb), .val (.int pf), .val (.int (0 : Int32)), .val (.int (0 : Int32)), .val (.double (FP.i2d pa)), .second, .val (.double (FP.i2d pb)), .second, .val (.long pa.toInt64), .second, .val (.long pb.toInt64), .second, .val (.double FP.dconst1), .second, .val (.double (sgF (FP.i2d pa) (FP.i2d pb))), .second] [(.int (1 : Int32))])) _
            exact retN X11 hx (t := .boolean) Bd.returns (by simp) (hb hby at_136) hr
          · show Q1 Z (.int 1) h0 n0 _ T11.heap _
            rw [e11]
            exact ⟨rfl, N11, rfl⟩
        · obtain ⟨_, _, ⟨T13, L13, k13, n13⟩, -, X13, ⟨Lc13, hQ13, l13, y13, z13⟩, st13⟩ := Jvm.LawKit.callS X0 hx (y := (⟨"com/example/adjudica/adjudica/engine/Arithmetic", "sign", "(DD)D"⟩ : MethodName)) hown (mvT hZ (hw _ (List.mem_of_getElem? (i := 0) rfl))) (mvT hZ (hw _ (List.mem_of_getElem? (i := 1) rfl))) (mvT hZ (hw _ (List.mem_of_getElem? (i := 2) rfl))) (mvT hZ (hw _ (List.mem_of_getElem? (i := 3) rfl))) (by decide) (backOf (W := 0) (rm1 l Z a0 hw [] (FP.i2d pa) (FP.i2d pb) h0 n0 Z0) hZ (hw _ (List.mem_of_getElem? (i := 3) rfl)) (hw _ (List.mem_of_getElem? (i := 2) rfl)) (by decide) (by decide)) (g := (mkF m 118 #[.val (.int pa), .val (.int pb), .val (.int pf), .val (.int (0 : Int32)), .val (.int (0 : Int32)), .val (.double (FP.i2d pa)), .second, .val (.double (FP.i2d pb)), .second, .val (.long pa.toInt64), .second, .val (.long pb.toInt64), .second, .val (.double FP.dconst0), .second, .unset, .unset] [(.double (FP.i2d pb)), (.double (FP.i2d pa))])) rfl (by rw [hml]; rfl) (argsL := [(.double (FP.i2d pa)), (.double (FP.i2d pb))]) (rest := []) (lenOf pd0_0 rfl) rfl (by show 2 * 0 + _ ≤ _; exact Nat.le_of_eq rfl) (hb hby at_118) (fun _ _ => ⟨rfl, e0, (by decide : 0 + 0 ≤ _), (by decide : 0 + 0 ≤ _)⟩)
          dsimp only [Pt.U, Pt.locs, Pt.cells, Pt.slots] at X13 l13 y13 z13 st13 hQ13
          subst l13 y13 z13
          obtain ⟨rfl, N13q, e13⟩ := hQ13
          have N13 := Fr.app N0 N13q
          have pre14 : ∀ t, Steps p.tables e below (T13.setTop (mkF m 136 #[.val (.int pa), .val (.int pb), .val (.int pf), .val (.int (0 : Int32)), .val (.int (0 : Int32)), .val (.double (FP.i2d pa)), .second, .val (.double (FP.i2d pb)), .second, .val (.long pa.toInt64), .second, .val (.long pb.toInt64), .second, .val (.double FP.dconst0), .second, .val (.double (sgF (FP.i2d pa) (FP.i2d pb))), .second] [(.int (1 : Int32))])) t → Steps p.tables e below (s₁.setTop (entryFrame m #[(.int pa), (.int pb), (.int pf)] maxLocals)) t := by
            intro t kt
            refine pre9 _ ?_
            show Steps p.tables e below (s₁.setTop (mkF m 102 #[.val (.int pa), .val (.int pb), .val (.int pf), .val (.int (0 : Int32)), .val (.int (0 : Int32)), .val (.double (FP.i2d pa)), .second, .val (.double (FP.i2d pb)), .second, .val (.long pa.toInt64), .second, .val (.long pb.toInt64), .second, .unset, .unset, .unset, .unset] [(.int (XT.cmpL pa.toInt64 pb.toInt64))])) _
            refine XS.ifYes X0.here hx rfl (pc0 := 102) (pc' := 111) rfl (hb hby at_102) rfl (XT.ll_le_t hc102_10) (by decide) (by decide) ?_
            show Steps p.tables e below (s₁.setTop (mkF m 111 #[.val (.int pa), .val (.int pb), .val (.int pf), .val (.int (0 : Int32)), .val (.int (0 : Int32)), .val (.double (FP.i2d pa)), .second, .val (.double (FP.i2d pb)), .second, .val (.long pa.toInt64), .second, .val (.long pb.toInt64), .second, .unset, .unset, .unset, .unset] [])) _
            refine XS.dconst0 X0.here hx rfl (hb hby at_111) rfl ?_
            show Steps p.tables e below (s₁.setTop (mkF m 112 #[.val (.int pa), .val (.int pb), .val (.int pf), .val (.int (0 : Int32)), .val (.int (0 : Int32)), .val (.double (FP.i2d pa)), .second, .val (.double (FP.i2d pb)), .second, .val (.long pa.toInt64), .second, .val (.long pb.toInt64), .second, .unset, .unset, .unset, .unset] [(.double FP.dconst0)])) _
            refine XS.dstore X0.here hx rfl (hb hby at_112) rfl (l' := #[.val (.int pa), .val (.int pb), .val (.int pf), .val (.int (0 : Int32)), .val (.int (0 : Int32)), .val (.double (FP.i2d pa)), .second, .val (.double (FP.i2d pb)), .second, .val (.long pa.toInt64), .second, .val (.long pb.toInt64), .second, .val (.double FP.dconst0), .second, .unset, .unset]) rfl ?_
            show Steps p.tables e below (s₁.setTop (mkF m 114 #[.val (.int pa), .val (.int pb), .val (.int pf), .val (.int (0 : Int32)), .val (.int (0 : Int32)), .val (.double (FP.i2d pa)), .second, .val (.double (FP.i2d pb)), .second, .val (.long pa.toInt64), .second, .val (.long pb.toInt64), .second, .val (.double FP.dconst0), .second, .unset, .unset] [])) _
            refine XS.dload X0.here hx rfl (hb hby at_114) rfl ?_
            show Steps p.tables e below (s₁.setTop (mkF m 116 #[.val (.int pa), .val (.int pb), .val (.int pf), .val (.int (0 : Int32)), .val (.int (0 : Int32)), .val (.double (FP.i2d pa)), .second, .val (.double (FP.i2d pb)), .second, .val (.long pa.toInt64), .second, .val (.long pb.toInt64), .second, .val (.double FP.dconst0), .second, .unset, .unset] [(.double (FP.i2d pa))])) _
            refine XS.dload X0.here hx rfl (hb hby at_116) rfl ?_
            show Steps p.tables e below (s₁.setTop (mkF m 118 #[.val (.int pa), .val (.int pb), .val (.int pf), .val (.int (0 : Int32)), .val (.int (0 : Int32)), .val (.double (FP.i2d pa)), .second, .val (.double (FP.i2d pb)), .second, .val (.long pa.toInt64), .second, .val (.long pb.toInt64), .second, .val (.double FP.dconst0), .second, .unset, .unset] [(.double (FP.i2d pb)), (.double (FP.i2d pa))])) _
            refine st13 _ ?_
            show Steps p.tables e below (T13.setTop (mkF m 121 #[.val (.int pa), .val (.int pb), .val (.int pf), .val (.int (0 : Int32)), .val (.int (0 : Int32)), .val (.double (FP.i2d pa)), .second, .val (.double (FP.i2d pb)), .second, .val (.long pa.toInt64), .second, .val (.long pb.toInt64), .second, .val (.double FP.dconst0), .second, .unset, .unset] [(.double (sgF (FP.i2d pa) (FP.i2d pb)))])) _
            refine XS.dstore X13.here hx rfl (hb hby at_121) rfl (l' := #[.val (.int pa), .val (.int pb), .val (.int pf), .val (.int (0 : Int32)), .val (.int (0 : Int32)), .val (.double (FP.i2d pa)), .second, .val (.double (FP.i2d pb)), .second, .val (.long pa.toInt64), .second, .val (.long pb.toInt64), .second, .val (.double FP.dconst0), .second, .val (.double (sgF (FP.i2d pa) (FP.i2d pb))), .second]) rfl ?_
            show Steps p.tables e below (T13.setTop (mkF m 123 #[.val (.int pa), .val (.int pb), .val (.int pf), .val (.int (0 : Int32)), .val (.int (0 : Int32)), .val (.double (FP.i2d pa)), .second, .val (.double (FP.i2d pb)), .second, .val (.long pa.toInt64), .second, .val (.long pb.toInt64), .second, .val (.double FP.dconst0), .second, .val (.double (sgF (FP.i2d pa) (FP.i2d pb))), .second] [])) _
            refine XS.dload X13.here hx rfl (hb hby at_123) rfl ?_
            show Steps p.tables e below (T13.setTop (mkF m 125 #[.val (.int pa), .val (.int pb), .val (.int pf), .val (.int (0 : Int32)), .val (.int (0 : Int32)), .val (.double (FP.i2d pa)), .second, .val (.double (FP.i2d pb)), .second, .val (.long pa.toInt64), .second, .val (.long pb.toInt64), .second, .val (.double FP.dconst0), .second, .val (.double (sgF (FP.i2d pa) (FP.i2d pb))), .second] [(.double (sgF (FP.i2d pa) (FP.i2d pb)))])) _
            refine XS.dload X13.here hx rfl (hb hby at_125) rfl ?_
            show Steps p.tables e below (T13.setTop (mkF m 127 #[.val (.int pa), .val (.int pb), .val (.int pf), .val (.int (0 : Int32)), .val (.int (0 : Int32)), .val (.double (FP.i2d pa)), .second, .val (.double (FP.i2d pb)), .second, .val (.long pa.toInt64), .second, .val (.long pb.toInt64), .second, .val (.double FP.dconst0), .second, .val (.double (sgF (FP.i2d pa) (FP.i2d pb))), .second] [(.double FP.dconst0), (.double (sgF (FP.i2d pa) (FP.i2d pb)))])) _
            refine XS.dcmpS X13.here hx rfl (hb hby at_127) rfl rfl ?_
            show Steps p.tables e below (T13.setTop (mkF m 128 #[.val (.int pa), .val (.int pb), .val (.int pf), .val (.int (0 : Int32)), .val (.int (0 : Int32)), .val (.double (FP.i2d pa)), .second, .val (.double (FP.i2d pb)), .second, .val (.long pa.toInt64), .second, .val (.long pb.toInt64), .second, .val (.double FP.dconst0), .second, .val (.double (sgF (FP.i2d pa) (FP.i2d pb))), .second] [(.int (cmpValue (FP.dcmp (sgF (FP.i2d pa) (FP.i2d pb)) FP.dconst0) .l))])) _
            refine XS.ifNo X13.here hx rfl (hb hby at_128) rfl (XT.i0_ne_f (by rw [own_sg_eq (own_i2d pa) (own_i2d pb) (by have q := mt Int64.lt_iff_toInt_lt.mpr hc86_6; have q2 := mt Int64.lt_iff_toInt_lt.mpr hc102_10; rw [own_i2l pa, own_i2l pb] at q; rw [own_i2l pb, own_i2l pa] at q2; omega)]; exact own_same _ (Or.inr (Or.inr rfl)))) ?_
            show Steps p.tables e below (T13.setTop (mkF m 131 #[.val (.int pa), .val (.int pb), .val (.int pf), .val (.int (0 : Int32)), .val (.int (0 : Int32)), .val (.double (FP.i2d pa)), .second, .val (.double (FP.i2d pb)), .second, .val (.long pa.toInt64), .second, .val (.long pb.toInt64), .second, .val (.double FP.dconst0), .second, .val (.double (sgF (FP.i2d pa) (FP.i2d pb))), .second] [])) _
            refine XS.iconst X13.here hx rfl (hb hby at_131) ?_
            show Steps p.tables e below (T13.setTop (mkF m 132 #[.val (.int pa), .val (.int pb), .val (.int pf), .val (.int (0 : Int32)), .val (.int (0 : Int32)), .val (.double (FP.i2d pa)), .second, .val (.double (FP.i2d pb)), .second, .val (.long pa.toInt64), .second, .val (.long pb.toInt64), .second, .val (.double FP.dconst0), .second, .val (.double (sgF (FP.i2d pa) (FP.i2d pb))), .second] [(.int (1 : Int32))])) _
            refine XS.goto X13.here hx rfl (pc0 := 132) (pc' := 136) rfl (hb hby at_132) (by decide) (by decide) ?_
            exact kt
          obtain ⟨fs, hr, hrun, hended, hW, hsame⟩ := X13.leave (v := some (.int (1 : Int32))) (fun h => by rw [Bd.returns] at h; cases h)
          refine ⟨_, _, pre14 _ ?_, hrun, hended, _, _, rfl, ?_, ⟨_, rfl⟩, hW, hsame.mono (by decide) (by decide)⟩
          · show Steps p.tables e below (T13.setTop (mkF m 136 #[.val (.int pa), .val (.int pb), .val (.int pf), .val (.int (0 : Int32)), .val (.int (0 : Int32)), .val (.double (FP.i2d pa)), .second, .val (.double (FP.i2d pb)), .second, .val (.long pa.toInt64), .second, .val (.long pb.toInt64), .second, .val (.double FP.dconst0), .second, .val (.double (sgF (FP.i2d pa) (FP.i2d pb))), .second] [(.int (1 : Int32))])) _
            exact retN X13 hx (t := .boolean) Bd.returns (by simp) (hb hby at_136) hr
          · show Q1 Z (.int 1) h0 n0 _ T13.heap _
            rw [e13]
            exact ⟨rfl, N13, rfl⟩
    · have pre15 : ∀ t, Steps p.tables e below (s₁.setTop (mkF m 86 #[.val (.int pa), .val (.int pb), .val (.int pf), .val (.int (0 : Int32)), .val (.int (1 : Int32)), .val (.double (FP.i2d pa)), .second, .val (.double (FP.dneg (FP.i2d pb))), .second, .val (.long pa.toInt64), .second, .val (.long (-pb.toInt64)), .second, .unset, .unset, .unset, .unset] [(.int (XT.cmpL pa.toInt64 (-pb.toInt64)))])) t → Steps p.tables e below (s₁.setTop (entryFrame m #[(.int pa), (.int pb), (.int pf)] maxLocals)) t := by
        intro t kt
        refine pre3 _ ?_
        show Steps p.tables e below (s₁.setTop (mkF m 15 #[.val (.int pa), .val (.int pb), .val (.int pf), .val (.int (0 : Int32)), .unset, .unset, .unset, .unset, .unset, .unset, .unset, .unset, .unset, .unset, .unset, .unset, .unset] [(.int (pf &&& (2 : Int32)))])) _
        refine XS.ifNo X0.here hx rfl (hb hby at_15) rfl (XT.i0_eq_f hc15_4) ?_
        show Steps p.tables e below (s₁.setTop (mkF m 18 #[.val (.int pa), .val (.int pb), .val (.int pf), .val (.int (0 : Int32)), .unset, .unset, .unset, .unset, .unset, .unset, .unset, .unset, .unset, .unset, .unset, .unset, .unset] [])) _
        refine XS.iconst X0.here hx rfl (hb hby at_18) ?_
        show Steps p.tables e below (s₁.setTop (mkF m 19 #[.val (.int pa), .val (.int pb), .val (.int pf), .val (.int (0 : Int32)), .unset, .unset, .unset, .unset, .unset, .unset, .unset, .unset, .unset, .unset, .unset, .unset, .unset] [(.int (1 : Int32))])) _
        refine XS.goto X0.here hx rfl (pc0 := 19) (pc' := 23) rfl (hb hby at_19) (by decide) (by decide) ?_
        show Steps p.tables e below (s₁.setTop (mkF m 23 #[.val (.int pa), .val (.int pb), .val (.int pf), .val (.int (0 : Int32)), .unset, .unset, .unset, .unset, .unset, .unset, .unset, .unset, .unset, .unset, .unset, .unset, .unset] [(.int (1 : Int32))])) _
        refine XS.istore X0.here hx rfl (hb hby at_23) rfl (l' := #[.val (.int pa), .val (.int pb), .val (.int pf), .val (.int (0 : Int32)), .val (.int (1 : Int32)), .unset, .unset, .unset, .unset, .unset, .unset, .unset, .unset, .unset, .unset, .unset, .unset]) rfl ?_
        show Steps p.tables e below (s₁.setTop (mkF m 25 #[.val (.int pa), .val (.int pb), .val (.int pf), .val (.int (0 : Int32)), .val (.int (1 : Int32)), .unset, .unset, .unset, .unset, .unset, .unset, .unset, .unset, .unset, .unset, .unset, .unset] [])) _
        refine XS.iloadN X0.here hx rfl (hb hby at_25) rfl ?_
        show Steps p.tables e below (s₁.setTop (mkF m 26 #[.val (.int pa), .val (.int pb), .val (.int pf), .val (.int (0 : Int32)), .val (.int (1 : Int32)), .unset, .unset, .unset, .unset, .unset, .unset, .unset, .unset, .unset, .unset, .unset, .unset] [(.int pa)])) _
        refine XS.i2dS X0.here hx rfl (hb hby at_26) rfl rfl ?_
        show Steps p.tables e below (s₁.setTop (mkF m 27 #[.val (.int pa), .val (.int pb), .val (.int pf), .val (.int (0 : Int32)), .val (.int (1 : Int32)), .unset, .unset, .unset, .unset, .unset, .unset, .unset, .unset, .unset, .unset, .unset, .unset] [(.double (FP.i2d pa))])) _
        refine XS.dstore X0.here hx rfl (hb hby at_27) rfl (l' := #[.val (.int pa), .val (.int pb), .val (.int pf), .val (.int (0 : Int32)), .val (.int (1 : Int32)), .val (.double (FP.i2d pa)), .second, .unset, .unset, .unset, .unset, .unset, .unset, .unset, .unset, .unset, .unset]) rfl ?_
        show Steps p.tables e below (s₁.setTop (mkF m 29 #[.val (.int pa), .val (.int pb), .val (.int pf), .val (.int (0 : Int32)), .val (.int (1 : Int32)), .val (.double (FP.i2d pa)), .second, .unset, .unset, .unset, .unset, .unset, .unset, .unset, .unset, .unset, .unset] [])) _
        refine XS.iloadN X0.here hx rfl (hb hby at_29) rfl ?_
        show Steps p.tables e below (s₁.setTop (mkF m 30 #[.val (.int pa), .val (.int pb), .val (.int pf), .val (.int (0 : Int32)), .val (.int (1 : Int32)), .val (.double (FP.i2d pa)), .second, .unset, .unset, .unset, .unset, .unset, .unset, .unset, .unset, .unset, .unset] [(.int (0 : Int32))])) _
        refine XS.ifYes X0.here hx rfl (pc0 := 30) (pc' := 38) rfl (hb hby at_30) rfl (XT.i0_eq_t (by decide)) (by decide) (by decide) ?_
        show Steps p.tables e below (s₁.setTop (mkF m 38 #[.val (.int pa), .val (.int pb), .val (.int pf), .val (.int (0 : Int32)), .val (.int (1 : Int32)), .val (.double (FP.i2d pa)), .second, .unset, .unset, .unset, .unset, .unset, .unset, .unset, .unset, .unset, .unset] [])) _
        refine XS.iloadN X0.here hx rfl (hb hby at_38) rfl ?_
        show Steps p.tables e below (s₁.setTop (mkF m 39 #[.val (.int pa), .val (.int pb), .val (.int pf), .val (.int (0 : Int32)), .val (.int (1 : Int32)), .val (.double (FP.i2d pa)), .second, .unset, .unset, .unset, .unset, .unset, .unset, .unset, .unset, .unset, .unset] [(.int pb)])) _
        refine XS.i2dS X0.here hx rfl (hb hby at_39) rfl rfl ?_
        show Steps p.tables e below (s₁.setTop (mkF m 40 #[.val (.int pa), .val (.int pb), .val (.int pf), .val (.int (0 : Int32)), .val (.int (1 : Int32)), .val (.double (FP.i2d pa)), .second, .unset, .unset, .unset, .unset, .unset, .unset, .unset, .unset, .unset, .unset] [(.double (FP.i2d pb))])) _
        refine XS.dstore X0.here hx rfl (hb hby at_40) rfl (l' := #[.val (.int pa), .val (.int pb), .val (.int pf), .val (.int (0 : Int32)), .val (.int (1 : Int32)), .val (.double (FP.i2d pa)), .second, .val (.double (FP.i2d pb)), .second, .unset, .unset, .unset, .unset, .unset, .unset, .unset, .unset]) rfl ?_
        show Steps p.tables e below (s₁.setTop (mkF m 42 #[.val (.int pa), .val (.int pb), .val (.int pf), .val (.int (0 : Int32)), .val (.int (1 : Int32)), .val (.double (FP.i2d pa)), .second, .val (.double (FP.i2d pb)), .second, .unset, .unset, .unset, .unset, .unset, .unset, .unset, .unset] [])) _
        refine XS.iload X0.here hx rfl (hb hby at_42) rfl ?_
        show Steps p.tables e below (s₁.setTop (mkF m 44 #[.val (.int pa), .val (.int pb), .val (.int pf), .val (.int (0 : Int32)), .val (.int (1 : Int32)), .val (.double (FP.i2d pa)), .second, .val (.double (FP.i2d pb)), .second, .unset, .unset, .unset, .unset, .unset, .unset, .unset, .unset] [(.int (1 : Int32))])) _
        refine XS.ifNo X0.here hx rfl (hb hby at_44) rfl (XT.i0_eq_f (by decide)) ?_
        show Steps p.tables e below (s₁.setTop (mkF m 47 #[.val (.int pa), .val (.int pb), .val (.int pf), .val (.int (0 : Int32)), .val (.int (1 : Int32)), .val (.double (FP.i2d pa)), .second, .val (.double (FP.i2d pb)), .second, .unset, .unset, .unset, .unset, .unset, .unset, .unset, .unset] [])) _
        refine XS.dload X0.here hx rfl (hb hby at_47) rfl ?_
        show Steps p.tables e below (s₁.setTop (mkF m 49 #[.val (.int pa), .val (.int pb), .val (.int pf), .val (.int (0 : Int32)), .val (.int (1 : Int32)), .val (.double (FP.i2d pa)), .second, .val (.double (FP.i2d pb)), .second, .unset, .unset, .unset, .unset, .unset, .unset, .unset, .unset] [(.double (FP.i2d pb))])) _
        refine XS.dnegS X0.here hx rfl (hb hby at_49) rfl rfl ?_
        show Steps p.tables e below (s₁.setTop (mkF m 50 #[.val (.int pa), .val (.int pb), .val (.int pf), .val (.int (0 : Int32)), .val (.int (1 : Int32)), .val (.double (FP.i2d pa)), .second, .val (.double (FP.i2d pb)), .second, .unset, .unset, .unset, .unset, .unset, .unset, .unset, .unset] [(.double (FP.dneg (FP.i2d pb)))])) _
        refine XS.dstore X0.here hx rfl (hb hby at_50) rfl (l' := #[.val (.int pa), .val (.int pb), .val (.int pf), .val (.int (0 : Int32)), .val (.int (1 : Int32)), .val (.double (FP.i2d pa)), .second, .val (.double (FP.dneg (FP.i2d pb))), .second, .unset, .unset, .unset, .unset, .unset, .unset, .unset, .unset]) rfl ?_
        show Steps p.tables e below (s₁.setTop (mkF m 52 #[.val (.int pa), .val (.int pb), .val (.int pf), .val (.int (0 : Int32)), .val (.int (1 : Int32)), .val (.double (FP.i2d pa)), .second, .val (.double (FP.dneg (FP.i2d pb))), .second, .unset, .unset, .unset, .unset, .unset, .unset, .unset, .unset] [])) _
        refine XS.iloadN X0.here hx rfl (hb hby at_52) rfl ?_
        show Steps p.tables e below (s₁.setTop (mkF m 53 #[.val (.int pa), .val (.int pb), .val (.int pf), .val (.int (0 : Int32)), .val (.int (1 : Int32)), .val (.double (FP.i2d pa)), .second, .val (.double (FP.dneg (FP.i2d pb))), .second, .unset, .unset, .unset, .unset, .unset, .unset, .unset, .unset] [(.int (0 : Int32))])) _
        refine XS.ifYes X0.here hx rfl (pc0 := 53) (pc' := 62) rfl (hb hby at_53) rfl (XT.i0_eq_t (by decide)) (by decide) (by decide) ?_
        show Steps p.tables e below (s₁.setTop (mkF m 62 #[.val (.int pa), .val (.int pb), .val (.int pf), .val (.int (0 : Int32)), .val (.int (1 : Int32)), .val (.double (FP.i2d pa)), .second, .val (.double (FP.dneg (FP.i2d pb))), .second, .unset, .unset, .unset, .unset, .unset, .unset, .unset, .unset] [])) _
        refine XS.iloadN X0.here hx rfl (hb hby at_62) rfl ?_
        show Steps p.tables e below (s₁.setTop (mkF m 63 #[.val (.int pa), .val (.int pb), .val (.int pf), .val (.int (0 : Int32)), .val (.int (1 : Int32)), .val (.double (FP.i2d pa)), .second, .val (.double (FP.dneg (FP.i2d pb))), .second, .unset, .unset, .unset, .unset, .unset, .unset, .unset, .unset] [(.int pa)])) _
        refine XS.i2l X0.here hx rfl (hb hby at_63) rfl ?_
        show Steps p.tables e below (s₁.setTop (mkF m 64 #[.val (.int pa), .val (.int pb), .val (.int pf), .val (.int (0 : Int32)), .val (.int (1 : Int32)), .val (.double (FP.i2d pa)), .second, .val (.double (FP.dneg (FP.i2d pb))), .second, .unset, .unset, .unset, .unset, .unset, .unset, .unset, .unset] [(.long pa.toInt64)])) _
        refine XS.lstore X0.here hx rfl (hb hby at_64) rfl (l' := #[.val (.int pa), .val (.int pb), .val (.int pf), .val (.int (0 : Int32)), .val (.int (1 : Int32)), .val (.double (FP.i2d pa)), .second, .val (.double (FP.dneg (FP.i2d pb))), .second, .val (.long pa.toInt64), .second, .unset, .unset, .unset, .unset, .unset, .unset]) rfl ?_
        show Steps p.tables e below (s₁.setTop (mkF m 66 #[.val (.int pa), .val (.int pb), .val (.int pf), .val (.int (0 : Int32)), .val (.int (1 : Int32)), .val (.double (FP.i2d pa)), .second, .val (.double (FP.dneg (FP.i2d pb))), .second, .val (.long pa.toInt64), .second, .unset, .unset, .unset, .unset, .unset, .unset] [])) _
        refine XS.iload X0.here hx rfl (hb hby at_66) rfl ?_
        show Steps p.tables e below (s₁.setTop (mkF m 68 #[.val (.int pa), .val (.int pb), .val (.int pf), .val (.int (0 : Int32)), .val (.int (1 : Int32)), .val (.double (FP.i2d pa)), .second, .val (.double (FP.dneg (FP.i2d pb))), .second, .val (.long pa.toInt64), .second, .unset, .unset, .unset, .unset, .unset, .unset] [(.int (1 : Int32))])) _
        refine XS.ifNo X0.here hx rfl (hb hby at_68) rfl (XT.i0_eq_f (by decide)) ?_
        show Steps p.tables e below (s₁.setTop (mkF m 71 #[.val (.int pa), .val (.int pb), .val (.int pf), .val (.int (0 : Int32)), .val (.int (1 : Int32)), .val (.double (FP.i2d pa)), .second, .val (.double (FP.dneg (FP.i2d pb))), .second, .val (.long pa.toInt64), .second, .unset, .unset, .unset, .unset, .unset, .unset] [])) _
        refine XS.iloadN X0.here hx rfl (hb hby at_71) rfl ?_
        show Steps p.tables e below (s₁.setTop (mkF m 72 #[.val (.int pa), .val (.int pb), .val (.int pf), .val (.int (0 : Int32)), .val (.int (1 : Int32)), .val (.double (FP.i2d pa)), .second, .val (.double (FP.dneg (FP.i2d pb))), .second, .val (.long pa.toInt64), .second, .unset, .unset, .unset, .unset, .unset, .unset] [(.int pb)])) _
        refine XS.i2l X0.here hx rfl (hb hby at_72) rfl ?_
        show Steps p.tables e below (s₁.setTop (mkF m 73 #[.val (.int pa), .val (.int pb), .val (.int pf), .val (.int (0 : Int32)), .val (.int (1 : Int32)), .val (.double (FP.i2d pa)), .second, .val (.double (FP.dneg (FP.i2d pb))), .second, .val (.long pa.toInt64), .second, .unset, .unset, .unset, .unset, .unset, .unset] [(.long pb.toInt64)])) _
        refine XS.lneg X0.here hx rfl (hb hby at_73) rfl ?_
        show Steps p.tables e below (s₁.setTop (mkF m 74 #[.val (.int pa), .val (.int pb), .val (.int pf), .val (.int (0 : Int32)), .val (.int (1 : Int32)), .val (.double (FP.i2d pa)), .second, .val (.double (FP.dneg (FP.i2d pb))), .second, .val (.long pa.toInt64), .second, .unset, .unset, .unset, .unset, .unset, .unset] [(.long (-pb.toInt64))])) _
        refine XS.goto X0.here hx rfl (pc0 := 74) (pc' := 79) rfl (hb hby at_74) (by decide) (by decide) ?_
        show Steps p.tables e below (s₁.setTop (mkF m 79 #[.val (.int pa), .val (.int pb), .val (.int pf), .val (.int (0 : Int32)), .val (.int (1 : Int32)), .val (.double (FP.i2d pa)), .second, .val (.double (FP.dneg (FP.i2d pb))), .second, .val (.long pa.toInt64), .second, .unset, .unset, .unset, .unset, .unset, .unset] [(.long (-pb.toInt64))])) _
        refine XS.lstore X0.here hx rfl (hb hby at_79) rfl (l' := #[.val (.int pa), .val (.int pb), .val (.int pf), .val (.int (0 : Int32)), .val (.int (1 : Int32)), .val (.double (FP.i2d pa)), .second, .val (.double (FP.dneg (FP.i2d pb))), .second, .val (.long pa.toInt64), .second, .val (.long (-pb.toInt64)), .second, .unset, .unset, .unset, .unset]) rfl ?_
        show Steps p.tables e below (s₁.setTop (mkF m 81 #[.val (.int pa), .val (.int pb), .val (.int pf), .val (.int (0 : Int32)), .val (.int (1 : Int32)), .val (.double (FP.i2d pa)), .second, .val (.double (FP.dneg (FP.i2d pb))), .second, .val (.long pa.toInt64), .second, .val (.long (-pb.toInt64)), .second, .unset, .unset, .unset, .unset] [])) _
        refine XS.lload X0.here hx rfl (hb hby at_81) rfl ?_
        show Steps p.tables e below (s₁.setTop (mkF m 83 #[.val (.int pa), .val (.int pb), .val (.int pf), .val (.int (0 : Int32)), .val (.int (1 : Int32)), .val (.double (FP.i2d pa)), .second, .val (.double (FP.dneg (FP.i2d pb))), .second, .val (.long pa.toInt64), .second, .val (.long (-pb.toInt64)), .second, .unset, .unset, .unset, .unset] [(.long pa.toInt64)])) _
        refine XS.lload X0.here hx rfl (hb hby at_83) rfl ?_
        show Steps p.tables e below (s₁.setTop (mkF m 85 #[.val (.int pa), .val (.int pb), .val (.int pf), .val (.int (0 : Int32)), .val (.int (1 : Int32)), .val (.double (FP.i2d pa)), .second, .val (.double (FP.dneg (FP.i2d pb))), .second, .val (.long pa.toInt64), .second, .val (.long (-pb.toInt64)), .second, .unset, .unset, .unset, .unset] [(.long (-pb.toInt64)), (.long pa.toInt64)])) _
        refine XT.lcmp X0.here hx rfl (hb hby at_85) rfl ?_
        exact kt
      by_cases hc86_16 : pa.toInt64 < (-pb.toInt64)
      · obtain ⟨_, _, ⟨T17, L17, k17, n17⟩, -, X17, ⟨Lc17, hQ17, l17, y17, z17⟩, st17⟩ := Jvm.LawKit.callS X0 hx (y := (⟨"com/example/adjudica/adjudica/engine/Arithmetic", "sign", "(DD)D"⟩ : MethodName)) hown (mvT hZ (hw _ (List.mem_of_getElem? (i := 0) rfl))) (mvT hZ (hw _ (List.mem_of_getElem? (i := 1) rfl))) (mvT hZ (hw _ (List.mem_of_getElem? (i := 2) rfl))) (mvT hZ (hw _ (List.mem_of_getElem? (i := 3) rfl))) (by decide) (backOf (W := 0) (rm1 l Z a0 hw [] (FP.i2d pa) (FP.dneg (FP.i2d pb)) h0 n0 Z0) hZ (hw _ (List.mem_of_getElem? (i := 3) rfl)) (hw _ (List.mem_of_getElem? (i := 2) rfl)) (by decide) (by decide)) (g := (mkF m 118 #[.val (.int pa), .val (.int pb), .val (.int pf), .val (.int (0 : Int32)), .val (.int (1 : Int32)), .val (.double (FP.i2d pa)), .second, .val (.double (FP.dneg (FP.i2d pb))), .second, .val (.long pa.toInt64), .second, .val (.long (-pb.toInt64)), .second, .val (.double (13830554455654793216 : UInt64)), .second, .unset, .unset] [(.double (FP.dneg (FP.i2d pb))), (.double (FP.i2d pa))])) rfl (by rw [hml]; rfl) (argsL := [(.double (FP.i2d pa)), (.double (FP.dneg (FP.i2d pb)))]) (rest := []) (lenOf pd0_0 rfl) rfl (by show 2 * 0 + _ ≤ _; exact Nat.le_of_eq rfl) (hb hby at_118) (fun _ _ => ⟨rfl, e0, (by decide : 0 + 0 ≤ _), (by decide : 0 + 0 ≤ _)⟩)
        dsimp only [Pt.U, Pt.locs, Pt.cells, Pt.slots] at X17 l17 y17 z17 st17 hQ17
        subst l17 y17 z17
        obtain ⟨rfl, N17q, e17⟩ := hQ17
        have N17 := Fr.app N0 N17q
        have pre18 : ∀ t, Steps p.tables e below (T17.setTop (mkF m 136 #[.val (.int pa), .val (.int pb), .val (.int pf), .val (.int (0 : Int32)), .val (.int (1 : Int32)), .val (.double (FP.i2d pa)), .second, .val (.double (FP.dneg (FP.i2d pb))), .second, .val (.long pa.toInt64), .second, .val (.long (-pb.toInt64)), .second, .val (.double (13830554455654793216 : UInt64)), .second, .val (.double (sgF (FP.i2d pa) (FP.dneg (FP.i2d pb)))), .second] [(.int (1 : Int32))])) t → Steps p.tables e below (s₁.setTop (entryFrame m #[(.int pa), (.int pb), (.int pf)] maxLocals)) t := by
          intro t kt
          refine pre15 _ ?_
          show Steps p.tables e below (s₁.setTop (mkF m 86 #[.val (.int pa), .val (.int pb), .val (.int pf), .val (.int (0 : Int32)), .val (.int (1 : Int32)), .val (.double (FP.i2d pa)), .second, .val (.double (FP.dneg (FP.i2d pb))), .second, .val (.long pa.toInt64), .second, .val (.long (-pb.toInt64)), .second, .unset, .unset, .unset, .unset] [(.int (XT.cmpL pa.toInt64 (-pb.toInt64)))])) _
          refine XS.ifNo X0.here hx rfl (hb hby at_86) rfl (XT.ll_ge_f hc86_16) ?_
          show Steps p.tables e below (s₁.setTop (mkF m 89 #[.val (.int pa), .val (.int pb), .val (.int pf), .val (.int (0 : Int32)), .val (.int (1 : Int32)), .val (.double (FP.i2d pa)), .second, .val (.double (FP.dneg (FP.i2d pb))), .second, .val (.long pa.toInt64), .second, .val (.long (-pb.toInt64)), .second, .unset, .unset, .unset, .unset] [])) _
          refine X0.ldc2DoubleC hx hown (mvT hZ (hw _ (List.mem_of_getElem? (i := 4) rfl))) (g := (mkF m 89 #[.val (.int pa), .val (.int pb), .val (.int pf), .val (.int (0 : Int32)), .val (.int (1 : Int32)), .val (.double (FP.i2d pa)), .second, .val (.double (FP.dneg (FP.i2d pb))), .second, .val (.long pa.toInt64), .second, .val (.long (-pb.toInt64)), .second, .unset, .unset, .unset, .unset] [])) rfl (hb hby at_89) _ ?_
          show Steps p.tables e below (s₁.setTop (mkF m 92 #[.val (.int pa), .val (.int pb), .val (.int pf), .val (.int (0 : Int32)), .val (.int (1 : Int32)), .val (.double (FP.i2d pa)), .second, .val (.double (FP.dneg (FP.i2d pb))), .second, .val (.long pa.toInt64), .second, .val (.long (-pb.toInt64)), .second, .unset, .unset, .unset, .unset] [(.double (13830554455654793216 : UInt64))])) _
          refine XS.dstore X0.here hx rfl (hb hby at_92) rfl (l' := #[.val (.int pa), .val (.int pb), .val (.int pf), .val (.int (0 : Int32)), .val (.int (1 : Int32)), .val (.double (FP.i2d pa)), .second, .val (.double (FP.dneg (FP.i2d pb))), .second, .val (.long pa.toInt64), .second, .val (.long (-pb.toInt64)), .second, .val (.double (13830554455654793216 : UInt64)), .second, .unset, .unset]) rfl ?_
          show Steps p.tables e below (s₁.setTop (mkF m 94 #[.val (.int pa), .val (.int pb), .val (.int pf), .val (.int (0 : Int32)), .val (.int (1 : Int32)), .val (.double (FP.i2d pa)), .second, .val (.double (FP.dneg (FP.i2d pb))), .second, .val (.long pa.toInt64), .second, .val (.long (-pb.toInt64)), .second, .val (.double (13830554455654793216 : UInt64)), .second, .unset, .unset] [])) _
          refine XS.goto X0.here hx rfl (pc0 := 94) (pc' := 114) rfl (hb hby at_94) (by decide) (by decide) ?_
          show Steps p.tables e below (s₁.setTop (mkF m 114 #[.val (.int pa), .val (.int pb), .val (.int pf), .val (.int (0 : Int32)), .val (.int (1 : Int32)), .val (.double (FP.i2d pa)), .second, .val (.double (FP.dneg (FP.i2d pb))), .second, .val (.long pa.toInt64), .second, .val (.long (-pb.toInt64)), .second, .val (.double (13830554455654793216 : UInt64)), .second, .unset, .unset] [])) _
          refine XS.dload X0.here hx rfl (hb hby at_114) rfl ?_
          show Steps p.tables e below (s₁.setTop (mkF m 116 #[.val (.int pa), .val (.int pb), .val (.int pf), .val (.int (0 : Int32)), .val (.int (1 : Int32)), .val (.double (FP.i2d pa)), .second, .val (.double (FP.dneg (FP.i2d pb))), .second, .val (.long pa.toInt64), .second, .val (.long (-pb.toInt64)), .second, .val (.double (13830554455654793216 : UInt64)), .second, .unset, .unset] [(.double (FP.i2d pa))])) _
          refine XS.dload X0.here hx rfl (hb hby at_116) rfl ?_
          show Steps p.tables e below (s₁.setTop (mkF m 118 #[.val (.int pa), .val (.int pb), .val (.int pf), .val (.int (0 : Int32)), .val (.int (1 : Int32)), .val (.double (FP.i2d pa)), .second, .val (.double (FP.dneg (FP.i2d pb))), .second, .val (.long pa.toInt64), .second, .val (.long (-pb.toInt64)), .second, .val (.double (13830554455654793216 : UInt64)), .second, .unset, .unset] [(.double (FP.dneg (FP.i2d pb))), (.double (FP.i2d pa))])) _
          refine st17 _ ?_
          show Steps p.tables e below (T17.setTop (mkF m 121 #[.val (.int pa), .val (.int pb), .val (.int pf), .val (.int (0 : Int32)), .val (.int (1 : Int32)), .val (.double (FP.i2d pa)), .second, .val (.double (FP.dneg (FP.i2d pb))), .second, .val (.long pa.toInt64), .second, .val (.long (-pb.toInt64)), .second, .val (.double (13830554455654793216 : UInt64)), .second, .unset, .unset] [(.double (sgF (FP.i2d pa) (FP.dneg (FP.i2d pb))))])) _
          refine XS.dstore X17.here hx rfl (hb hby at_121) rfl (l' := #[.val (.int pa), .val (.int pb), .val (.int pf), .val (.int (0 : Int32)), .val (.int (1 : Int32)), .val (.double (FP.i2d pa)), .second, .val (.double (FP.dneg (FP.i2d pb))), .second, .val (.long pa.toInt64), .second, .val (.long (-pb.toInt64)), .second, .val (.double (13830554455654793216 : UInt64)), .second, .val (.double (sgF (FP.i2d pa) (FP.dneg (FP.i2d pb)))), .second]) rfl ?_
          show Steps p.tables e below (T17.setTop (mkF m 123 #[.val (.int pa), .val (.int pb), .val (.int pf), .val (.int (0 : Int32)), .val (.int (1 : Int32)), .val (.double (FP.i2d pa)), .second, .val (.double (FP.dneg (FP.i2d pb))), .second, .val (.long pa.toInt64), .second, .val (.long (-pb.toInt64)), .second, .val (.double (13830554455654793216 : UInt64)), .second, .val (.double (sgF (FP.i2d pa) (FP.dneg (FP.i2d pb)))), .second] [])) _
          refine XS.dload X17.here hx rfl (hb hby at_123) rfl ?_
          show Steps p.tables e below (T17.setTop (mkF m 125 #[.val (.int pa), .val (.int pb), .val (.int pf), .val (.int (0 : Int32)), .val (.int (1 : Int32)), .val (.double (FP.i2d pa)), .second, .val (.double (FP.dneg (FP.i2d pb))), .second, .val (.long pa.toInt64), .second, .val (.long (-pb.toInt64)), .second, .val (.double (13830554455654793216 : UInt64)), .second, .val (.double (sgF (FP.i2d pa) (FP.dneg (FP.i2d pb)))), .second] [(.double (sgF (FP.i2d pa) (FP.dneg (FP.i2d pb))))])) _
          refine XS.dload X17.here hx rfl (hb hby at_125) rfl ?_
          show Steps p.tables e below (T17.setTop (mkF m 127 #[.val (.int pa), .val (.int pb), .val (.int pf), .val (.int (0 : Int32)), .val (.int (1 : Int32)), .val (.double (FP.i2d pa)), .second, .val (.double (FP.dneg (FP.i2d pb))), .second, .val (.long pa.toInt64), .second, .val (.long (-pb.toInt64)), .second, .val (.double (13830554455654793216 : UInt64)), .second, .val (.double (sgF (FP.i2d pa) (FP.dneg (FP.i2d pb)))), .second] [(.double (13830554455654793216 : UInt64)), (.double (sgF (FP.i2d pa) (FP.dneg (FP.i2d pb))))])) _
          refine XS.dcmpS X17.here hx rfl (hb hby at_127) rfl rfl ?_
          show Steps p.tables e below (T17.setTop (mkF m 128 #[.val (.int pa), .val (.int pb), .val (.int pf), .val (.int (0 : Int32)), .val (.int (1 : Int32)), .val (.double (FP.i2d pa)), .second, .val (.double (FP.dneg (FP.i2d pb))), .second, .val (.long pa.toInt64), .second, .val (.long (-pb.toInt64)), .second, .val (.double (13830554455654793216 : UInt64)), .second, .val (.double (sgF (FP.i2d pa) (FP.dneg (FP.i2d pb)))), .second] [(.int (cmpValue (FP.dcmp (sgF (FP.i2d pa) (FP.dneg (FP.i2d pb))) (13830554455654793216 : UInt64)) .l))])) _
          refine XS.ifNo X17.here hx rfl (hb hby at_128) rfl (XT.i0_ne_f (by rw [own_sg_lt (own_i2d pa) (own_dneg (own_i2d pb)) (by have q := Int64.lt_iff_toInt_lt.mp hc86_16; rw [own_i2l pa, own_i2ln pb] at q; exact q)]; exact own_same _ (Or.inl rfl))) ?_
          show Steps p.tables e below (T17.setTop (mkF m 131 #[.val (.int pa), .val (.int pb), .val (.int pf), .val (.int (0 : Int32)), .val (.int (1 : Int32)), .val (.double (FP.i2d pa)), .second, .val (.double (FP.dneg (FP.i2d pb))), .second, .val (.long pa.toInt64), .second, .val (.long (-pb.toInt64)), .second, .val (.double (13830554455654793216 : UInt64)), .second, .val (.double (sgF (FP.i2d pa) (FP.dneg (FP.i2d pb)))), .second] [])) _
          refine XS.iconst X17.here hx rfl (hb hby at_131) ?_
          show Steps p.tables e below (T17.setTop (mkF m 132 #[.val (.int pa), .val (.int pb), .val (.int pf), .val (.int (0 : Int32)), .val (.int (1 : Int32)), .val (.double (FP.i2d pa)), .second, .val (.double (FP.dneg (FP.i2d pb))), .second, .val (.long pa.toInt64), .second, .val (.long (-pb.toInt64)), .second, .val (.double (13830554455654793216 : UInt64)), .second, .val (.double (sgF (FP.i2d pa) (FP.dneg (FP.i2d pb)))), .second] [(.int (1 : Int32))])) _
          refine XS.goto X17.here hx rfl (pc0 := 132) (pc' := 136) rfl (hb hby at_132) (by decide) (by decide) ?_
          exact kt
        obtain ⟨fs, hr, hrun, hended, hW, hsame⟩ := X17.leave (v := some (.int (1 : Int32))) (fun h => by rw [Bd.returns] at h; cases h)
        refine ⟨_, _, pre18 _ ?_, hrun, hended, _, _, rfl, ?_, ⟨_, rfl⟩, hW, hsame.mono (by decide) (by decide)⟩
        · show Steps p.tables e below (T17.setTop (mkF m 136 #[.val (.int pa), .val (.int pb), .val (.int pf), .val (.int (0 : Int32)), .val (.int (1 : Int32)), .val (.double (FP.i2d pa)), .second, .val (.double (FP.dneg (FP.i2d pb))), .second, .val (.long pa.toInt64), .second, .val (.long (-pb.toInt64)), .second, .val (.double (13830554455654793216 : UInt64)), .second, .val (.double (sgF (FP.i2d pa) (FP.dneg (FP.i2d pb)))), .second] [(.int (1 : Int32))])) _
          exact retN X17 hx (t := .boolean) Bd.returns (by simp) (hb hby at_136) hr
        · show Q1 Z (.int 1) h0 n0 _ T17.heap _
          rw [e17]
          exact ⟨rfl, N17, rfl⟩
      · have pre19 : ∀ t, Steps p.tables e below (s₁.setTop (mkF m 102 #[.val (.int pa), .val (.int pb), .val (.int pf), .val (.int (0 : Int32)), .val (.int (1 : Int32)), .val (.double (FP.i2d pa)), .second, .val (.double (FP.dneg (FP.i2d pb))), .second, .val (.long pa.toInt64), .second, .val (.long (-pb.toInt64)), .second, .unset, .unset, .unset, .unset] [(.int (XT.cmpL pa.toInt64 (-pb.toInt64)))])) t → Steps p.tables e below (s₁.setTop (entryFrame m #[(.int pa), (.int pb), (.int pf)] maxLocals)) t := by
          intro t kt
          refine pre15 _ ?_
          show Steps p.tables e below (s₁.setTop (mkF m 86 #[.val (.int pa), .val (.int pb), .val (.int pf), .val (.int (0 : Int32)), .val (.int (1 : Int32)), .val (.double (FP.i2d pa)), .second, .val (.double (FP.dneg (FP.i2d pb))), .second, .val (.long pa.toInt64), .second, .val (.long (-pb.toInt64)), .second, .unset, .unset, .unset, .unset] [(.int (XT.cmpL pa.toInt64 (-pb.toInt64)))])) _
          refine XS.ifYes X0.here hx rfl (pc0 := 86) (pc' := 97) rfl (hb hby at_86) rfl (XT.ll_ge_t hc86_16) (by decide) (by decide) ?_
          show Steps p.tables e below (s₁.setTop (mkF m 97 #[.val (.int pa), .val (.int pb), .val (.int pf), .val (.int (0 : Int32)), .val (.int (1 : Int32)), .val (.double (FP.i2d pa)), .second, .val (.double (FP.dneg (FP.i2d pb))), .second, .val (.long pa.toInt64), .second, .val (.long (-pb.toInt64)), .second, .unset, .unset, .unset, .unset] [])) _
          refine XS.lload X0.here hx rfl (hb hby at_97) rfl ?_
          show Steps p.tables e below (s₁.setTop (mkF m 99 #[.val (.int pa), .val (.int pb), .val (.int pf), .val (.int (0 : Int32)), .val (.int (1 : Int32)), .val (.double (FP.i2d pa)), .second, .val (.double (FP.dneg (FP.i2d pb))), .second, .val (.long pa.toInt64), .second, .val (.long (-pb.toInt64)), .second, .unset, .unset, .unset, .unset] [(.long pa.toInt64)])) _
          refine XS.lload X0.here hx rfl (hb hby at_99) rfl ?_
          show Steps p.tables e below (s₁.setTop (mkF m 101 #[.val (.int pa), .val (.int pb), .val (.int pf), .val (.int (0 : Int32)), .val (.int (1 : Int32)), .val (.double (FP.i2d pa)), .second, .val (.double (FP.dneg (FP.i2d pb))), .second, .val (.long pa.toInt64), .second, .val (.long (-pb.toInt64)), .second, .unset, .unset, .unset, .unset] [(.long (-pb.toInt64)), (.long pa.toInt64)])) _
          refine XT.lcmp X0.here hx rfl (hb hby at_101) rfl ?_
          exact kt
        by_cases hc102_20 : (-pb.toInt64) < pa.toInt64
        · obtain ⟨_, _, ⟨T21, L21, k21, n21⟩, -, X21, ⟨Lc21, hQ21, l21, y21, z21⟩, st21⟩ := Jvm.LawKit.callS X0 hx (y := (⟨"com/example/adjudica/adjudica/engine/Arithmetic", "sign", "(DD)D"⟩ : MethodName)) hown (mvT hZ (hw _ (List.mem_of_getElem? (i := 0) rfl))) (mvT hZ (hw _ (List.mem_of_getElem? (i := 1) rfl))) (mvT hZ (hw _ (List.mem_of_getElem? (i := 2) rfl))) (mvT hZ (hw _ (List.mem_of_getElem? (i := 3) rfl))) (by decide) (backOf (W := 0) (rm1 l Z a0 hw [] (FP.i2d pa) (FP.dneg (FP.i2d pb)) h0 n0 Z0) hZ (hw _ (List.mem_of_getElem? (i := 3) rfl)) (hw _ (List.mem_of_getElem? (i := 2) rfl)) (by decide) (by decide)) (g := (mkF m 118 #[.val (.int pa), .val (.int pb), .val (.int pf), .val (.int (0 : Int32)), .val (.int (1 : Int32)), .val (.double (FP.i2d pa)), .second, .val (.double (FP.dneg (FP.i2d pb))), .second, .val (.long pa.toInt64), .second, .val (.long (-pb.toInt64)), .second, .val (.double FP.dconst1), .second, .unset, .unset] [(.double (FP.dneg (FP.i2d pb))), (.double (FP.i2d pa))])) rfl (by rw [hml]; rfl) (argsL := [(.double (FP.i2d pa)), (.double (FP.dneg (FP.i2d pb)))]) (rest := []) (lenOf pd0_0 rfl) rfl (by show 2 * 0 + _ ≤ _; exact Nat.le_of_eq rfl) (hb hby at_118) (fun _ _ => ⟨rfl, e0, (by decide : 0 + 0 ≤ _), (by decide : 0 + 0 ≤ _)⟩)
          dsimp only [Pt.U, Pt.locs, Pt.cells, Pt.slots] at X21 l21 y21 z21 st21 hQ21
          subst l21 y21 z21
          obtain ⟨rfl, N21q, e21⟩ := hQ21
          have N21 := Fr.app N0 N21q
          have pre22 : ∀ t, Steps p.tables e below (T21.setTop (mkF m 136 #[.val (.int pa), .val (.int pb), .val (.int pf), .val (.int (0 : Int32)), .val (.int (1 : Int32)), .val (.double (FP.i2d pa)), .second, .val (.double (FP.dneg (FP.i2d pb))), .second, .val (.long pa.toInt64), .second, .val (.long (-pb.toInt64)), .second, .val (.double FP.dconst1), .second, .val (.double (sgF (FP.i2d pa) (FP.dneg (FP.i2d pb)))), .second] [(.int (1 : Int32))])) t → Steps p.tables e below (s₁.setTop (entryFrame m #[(.int pa), (.int pb), (.int pf)] maxLocals)) t := by
            intro t kt
            refine pre19 _ ?_
            show Steps p.tables e below (s₁.setTop (mkF m 102 #[.val (.int pa), .val (.int pb), .val (.int pf), .val (.int (0 : Int32)), .val (.int (1 : Int32)), .val (.double (FP.i2d pa)), .second, .val (.double (FP.dneg (FP.i2d pb))), .second, .val (.long pa.toInt64), .second, .val (.long (-pb.toInt64)), .second, .unset, .unset, .unset, .unset] [(.int (XT.cmpL pa.toInt64 (-pb.toInt64)))])) _
            refine XS.ifNo X0.here hx rfl (hb hby at_102) rfl (XT.ll_le_f hc102_20) ?_
            show Steps p.tables e below (s₁.setTop (mkF m 105 #[.val (.int pa), .val (.int pb), .val (.int pf), .val (.int (0 : Int32)), .val (.int (1 : Int32)), .val (.double (FP.i2d pa)), .second, .val (.double (FP.dneg (FP.i2d pb))), .second, .val (.long pa.toInt64), .second, .val (.long (-pb.toInt64)), .second, .unset, .unset, .unset, .unset] [])) _
            refine XS.dconst1 X0.here hx rfl (hb hby at_105) rfl ?_
            show Steps p.tables e below (s₁.setTop (mkF m 106 #[.val (.int pa), .val (.int pb), .val (.int pf), .val (.int (0 : Int32)), .val (.int (1 : Int32)), .val (.double (FP.i2d pa)), .second, .val (.double (FP.dneg (FP.i2d pb))), .second, .val (.long pa.toInt64), .second, .val (.long (-pb.toInt64)), .second, .unset, .unset, .unset, .unset] [(.double FP.dconst1)])) _
            refine XS.dstore X0.here hx rfl (hb hby at_106) rfl (l' := #[.val (.int pa), .val (.int pb), .val (.int pf), .val (.int (0 : Int32)), .val (.int (1 : Int32)), .val (.double (FP.i2d pa)), .second, .val (.double (FP.dneg (FP.i2d pb))), .second, .val (.long pa.toInt64), .second, .val (.long (-pb.toInt64)), .second, .val (.double FP.dconst1), .second, .unset, .unset]) rfl ?_
            show Steps p.tables e below (s₁.setTop (mkF m 108 #[.val (.int pa), .val (.int pb), .val (.int pf), .val (.int (0 : Int32)), .val (.int (1 : Int32)), .val (.double (FP.i2d pa)), .second, .val (.double (FP.dneg (FP.i2d pb))), .second, .val (.long pa.toInt64), .second, .val (.long (-pb.toInt64)), .second, .val (.double FP.dconst1), .second, .unset, .unset] [])) _
            refine XS.goto X0.here hx rfl (pc0 := 108) (pc' := 114) rfl (hb hby at_108) (by decide) (by decide) ?_
            show Steps p.tables e below (s₁.setTop (mkF m 114 #[.val (.int pa), .val (.int pb), .val (.int pf), .val (.int (0 : Int32)), .val (.int (1 : Int32)), .val (.double (FP.i2d pa)), .second, .val (.double (FP.dneg (FP.i2d pb))), .second, .val (.long pa.toInt64), .second, .val (.long (-pb.toInt64)), .second, .val (.double FP.dconst1), .second, .unset, .unset] [])) _
            refine XS.dload X0.here hx rfl (hb hby at_114) rfl ?_
            show Steps p.tables e below (s₁.setTop (mkF m 116 #[.val (.int pa), .val (.int pb), .val (.int pf), .val (.int (0 : Int32)), .val (.int (1 : Int32)), .val (.double (FP.i2d pa)), .second, .val (.double (FP.dneg (FP.i2d pb))), .second, .val (.long pa.toInt64), .second, .val (.long (-pb.toInt64)), .second, .val (.double FP.dconst1), .second, .unset, .unset] [(.double (FP.i2d pa))])) _
            refine XS.dload X0.here hx rfl (hb hby at_116) rfl ?_
            show Steps p.tables e below (s₁.setTop (mkF m 118 #[.val (.int pa), .val (.int pb), .val (.int pf), .val (.int (0 : Int32)), .val (.int (1 : Int32)), .val (.double (FP.i2d pa)), .second, .val (.double (FP.dneg (FP.i2d pb))), .second, .val (.long pa.toInt64), .second, .val (.long (-pb.toInt64)), .second, .val (.double FP.dconst1), .second, .unset, .unset] [(.double (FP.dneg (FP.i2d pb))), (.double (FP.i2d pa))])) _
            refine st21 _ ?_
            show Steps p.tables e below (T21.setTop (mkF m 121 #[.val (.int pa), .val (.int pb), .val (.int pf), .val (.int (0 : Int32)), .val (.int (1 : Int32)), .val (.double (FP.i2d pa)), .second, .val (.double (FP.dneg (FP.i2d pb))), .second, .val (.long pa.toInt64), .second, .val (.long (-pb.toInt64)), .second, .val (.double FP.dconst1), .second, .unset, .unset] [(.double (sgF (FP.i2d pa) (FP.dneg (FP.i2d pb))))])) _
            refine XS.dstore X21.here hx rfl (hb hby at_121) rfl (l' := #[.val (.int pa), .val (.int pb), .val (.int pf), .val (.int (0 : Int32)), .val (.int (1 : Int32)), .val (.double (FP.i2d pa)), .second, .val (.double (FP.dneg (FP.i2d pb))), .second, .val (.long pa.toInt64), .second, .val (.long (-pb.toInt64)), .second, .val (.double FP.dconst1), .second, .val (.double (sgF (FP.i2d pa) (FP.dneg (FP.i2d pb)))), .second]) rfl ?_
            show Steps p.tables e below (T21.setTop (mkF m 123 #[.val (.int pa), .val (.int pb), .val (.int pf), .val (.int (0 : Int32)), .val (.int (1 : Int32)), .val (.double (FP.i2d pa)), .second, .val (.double (FP.dneg (FP.i2d pb))), .second, .val (.long pa.toInt64), .second, .val (.long (-pb.toInt64)), .second, .val (.double FP.dconst1), .second, .val (.double (sgF (FP.i2d pa) (FP.dneg (FP.i2d pb)))), .second] [])) _
            refine XS.dload X21.here hx rfl (hb hby at_123) rfl ?_
            show Steps p.tables e below (T21.setTop (mkF m 125 #[.val (.int pa), .val (.int pb), .val (.int pf), .val (.int (0 : Int32)), .val (.int (1 : Int32)), .val (.double (FP.i2d pa)), .second, .val (.double (FP.dneg (FP.i2d pb))), .second, .val (.long pa.toInt64), .second, .val (.long (-pb.toInt64)), .second, .val (.double FP.dconst1), .second, .val (.double (sgF (FP.i2d pa) (FP.dneg (FP.i2d pb)))), .second] [(.double (sgF (FP.i2d pa) (FP.dneg (FP.i2d pb))))])) _
            refine XS.dload X21.here hx rfl (hb hby at_125) rfl ?_
            show Steps p.tables e below (T21.setTop (mkF m 127 #[.val (.int pa), .val (.int pb), .val (.int pf), .val (.int (0 : Int32)), .val (.int (1 : Int32)), .val (.double (FP.i2d pa)), .second, .val (.double (FP.dneg (FP.i2d pb))), .second, .val (.long pa.toInt64), .second, .val (.long (-pb.toInt64)), .second, .val (.double FP.dconst1), .second, .val (.double (sgF (FP.i2d pa) (FP.dneg (FP.i2d pb)))), .second] [(.double FP.dconst1), (.double (sgF (FP.i2d pa) (FP.dneg (FP.i2d pb))))])) _
            refine XS.dcmpS X21.here hx rfl (hb hby at_127) rfl rfl ?_
            show Steps p.tables e below (T21.setTop (mkF m 128 #[.val (.int pa), .val (.int pb), .val (.int pf), .val (.int (0 : Int32)), .val (.int (1 : Int32)), .val (.double (FP.i2d pa)), .second, .val (.double (FP.dneg (FP.i2d pb))), .second, .val (.long pa.toInt64), .second, .val (.long (-pb.toInt64)), .second, .val (.double FP.dconst1), .second, .val (.double (sgF (FP.i2d pa) (FP.dneg (FP.i2d pb)))), .second] [(.int (cmpValue (FP.dcmp (sgF (FP.i2d pa) (FP.dneg (FP.i2d pb))) FP.dconst1) .l))])) _
            refine XS.ifNo X21.here hx rfl (hb hby at_128) rfl (XT.i0_ne_f (by rw [own_sg_gt (own_i2d pa) (own_dneg (own_i2d pb)) (by have q := Int64.lt_iff_toInt_lt.mp hc102_20; rw [own_i2ln pb, own_i2l pa] at q; exact q)]; exact own_same _ (Or.inr (Or.inl rfl)))) ?_
            show Steps p.tables e below (T21.setTop (mkF m 131 #[.val (.int pa), .val (.int pb), .val (.int pf), .val (.int (0 : Int32)), .val (.int (1 : Int32)), .val (.double (FP.i2d pa)), .second, .val (.double (FP.dneg (FP.i2d pb))), .second, .val (.long pa.toInt64), .second, .val (.long (-pb.toInt64)), .second, .val (.double FP.dconst1), .second, .val (.double (sgF (FP.i2d pa) (FP.dneg (FP.i2d pb)))), .second] [])) _
            refine XS.iconst X21.here hx rfl (hb hby at_131) ?_
            show Steps p.tables e below (T21.setTop (mkF m 132 #[.val (.int pa), .val (.int pb), .val (.int pf), .val (.int (0 : Int32)), .val (.int (1 : Int32)), .val (.double (FP.i2d pa)), .second, .val (.double (FP.dneg (FP.i2d pb))), .second, .val (.long pa.toInt64), .second, .val (.long (-pb.toInt64)), .second, .val (.double FP.dconst1), .second, .val (.double (sgF (FP.i2d pa) (FP.dneg (FP.i2d pb)))), .second] [(.int (1 : Int32))])) _
            refine XS.goto X21.here hx rfl (pc0 := 132) (pc' := 136) rfl (hb hby at_132) (by decide) (by decide) ?_
            exact kt
          obtain ⟨fs, hr, hrun, hended, hW, hsame⟩ := X21.leave (v := some (.int (1 : Int32))) (fun h => by rw [Bd.returns] at h; cases h)
          refine ⟨_, _, pre22 _ ?_, hrun, hended, _, _, rfl, ?_, ⟨_, rfl⟩, hW, hsame.mono (by decide) (by decide)⟩
          · show Steps p.tables e below (T21.setTop (mkF m 136 #[.val (.int pa), .val (.int pb), .val (.int pf), .val (.int (0 : Int32)), .val (.int (1 : Int32)), .val (.double (FP.i2d pa)), .second, .val (.double (FP.dneg (FP.i2d pb))), .second, .val (.long pa.toInt64), .second, .val (.long (-pb.toInt64)), .second, .val (.double FP.dconst1), .second, .val (.double (sgF (FP.i2d pa) (FP.dneg (FP.i2d pb)))), .second] [(.int (1 : Int32))])) _
            exact retN X21 hx (t := .boolean) Bd.returns (by simp) (hb hby at_136) hr
          · show Q1 Z (.int 1) h0 n0 _ T21.heap _
            rw [e21]
            exact ⟨rfl, N21, rfl⟩
        · obtain ⟨_, _, ⟨T23, L23, k23, n23⟩, -, X23, ⟨Lc23, hQ23, l23, y23, z23⟩, st23⟩ := Jvm.LawKit.callS X0 hx (y := (⟨"com/example/adjudica/adjudica/engine/Arithmetic", "sign", "(DD)D"⟩ : MethodName)) hown (mvT hZ (hw _ (List.mem_of_getElem? (i := 0) rfl))) (mvT hZ (hw _ (List.mem_of_getElem? (i := 1) rfl))) (mvT hZ (hw _ (List.mem_of_getElem? (i := 2) rfl))) (mvT hZ (hw _ (List.mem_of_getElem? (i := 3) rfl))) (by decide) (backOf (W := 0) (rm1 l Z a0 hw [] (FP.i2d pa) (FP.dneg (FP.i2d pb)) h0 n0 Z0) hZ (hw _ (List.mem_of_getElem? (i := 3) rfl)) (hw _ (List.mem_of_getElem? (i := 2) rfl)) (by decide) (by decide)) (g := (mkF m 118 #[.val (.int pa), .val (.int pb), .val (.int pf), .val (.int (0 : Int32)), .val (.int (1 : Int32)), .val (.double (FP.i2d pa)), .second, .val (.double (FP.dneg (FP.i2d pb))), .second, .val (.long pa.toInt64), .second, .val (.long (-pb.toInt64)), .second, .val (.double FP.dconst0), .second, .unset, .unset] [(.double (FP.dneg (FP.i2d pb))), (.double (FP.i2d pa))])) rfl (by rw [hml]; rfl) (argsL := [(.double (FP.i2d pa)), (.double (FP.dneg (FP.i2d pb)))]) (rest := []) (lenOf pd0_0 rfl) rfl (by show 2 * 0 + _ ≤ _; exact Nat.le_of_eq rfl) (hb hby at_118) (fun _ _ => ⟨rfl, e0, (by decide : 0 + 0 ≤ _), (by decide : 0 + 0 ≤ _)⟩)
          dsimp only [Pt.U, Pt.locs, Pt.cells, Pt.slots] at X23 l23 y23 z23 st23 hQ23
          subst l23 y23 z23
          obtain ⟨rfl, N23q, e23⟩ := hQ23
          have N23 := Fr.app N0 N23q
          have pre24 : ∀ t, Steps p.tables e below (T23.setTop (mkF m 136 #[.val (.int pa), .val (.int pb), .val (.int pf), .val (.int (0 : Int32)), .val (.int (1 : Int32)), .val (.double (FP.i2d pa)), .second, .val (.double (FP.dneg (FP.i2d pb))), .second, .val (.long pa.toInt64), .second, .val (.long (-pb.toInt64)), .second, .val (.double FP.dconst0), .second, .val (.double (sgF (FP.i2d pa) (FP.dneg (FP.i2d pb)))), .second] [(.int (1 : Int32))])) t → Steps p.tables e below (s₁.setTop (entryFrame m #[(.int pa), (.int pb), (.int pf)] maxLocals)) t := by
            intro t kt
            refine pre19 _ ?_
            show Steps p.tables e below (s₁.setTop (mkF m 102 #[.val (.int pa), .val (.int pb), .val (.int pf), .val (.int (0 : Int32)), .val (.int (1 : Int32)), .val (.double (FP.i2d pa)), .second, .val (.double (FP.dneg (FP.i2d pb))), .second, .val (.long pa.toInt64), .second, .val (.long (-pb.toInt64)), .second, .unset, .unset, .unset, .unset] [(.int (XT.cmpL pa.toInt64 (-pb.toInt64)))])) _
            refine XS.ifYes X0.here hx rfl (pc0 := 102) (pc' := 111) rfl (hb hby at_102) rfl (XT.ll_le_t hc102_20) (by decide) (by decide) ?_
            show Steps p.tables e below (s₁.setTop (mkF m 111 #[.val (.int pa), .val (.int pb), .val (.int pf), .val (.int (0 : Int32)), .val (.int (1 : Int32)), .val (.double (FP.i2d pa)), .second, .val (.double (FP.dneg (FP.i2d pb))), .second, .val (.long pa.toInt64), .second, .val (.long (-pb.toInt64)), .second, .unset, .unset, .unset, .unset] [])) _
            refine XS.dconst0 X0.here hx rfl (hb hby at_111) rfl ?_
            show Steps p.tables e below (s₁.setTop (mkF m 112 #[.val (.int pa), .val (.int pb), .val (.int pf), .val (.int (0 : Int32)), .val (.int (1 : Int32)), .val (.double (FP.i2d pa)), .second, .val (.double (FP.dneg (FP.i2d pb))), .second, .val (.long pa.toInt64), .second, .val (.long (-pb.toInt64)), .second, .unset, .unset, .unset, .unset] [(.double FP.dconst0)])) _
            refine XS.dstore X0.here hx rfl (hb hby at_112) rfl (l' := #[.val (.int pa), .val (.int pb), .val (.int pf), .val (.int (0 : Int32)), .val (.int (1 : Int32)), .val (.double (FP.i2d pa)), .second, .val (.double (FP.dneg (FP.i2d pb))), .second, .val (.long pa.toInt64), .second, .val (.long (-pb.toInt64)), .second, .val (.double FP.dconst0), .second, .unset, .unset]) rfl ?_
            show Steps p.tables e below (s₁.setTop (mkF m 114 #[.val (.int pa), .val (.int pb), .val (.int pf), .val (.int (0 : Int32)), .val (.int (1 : Int32)), .val (.double (FP.i2d pa)), .second, .val (.double (FP.dneg (FP.i2d pb))), .second, .val (.long pa.toInt64), .second, .val (.long (-pb.toInt64)), .second, .val (.double FP.dconst0), .second, .unset, .unset] [])) _
            refine XS.dload X0.here hx rfl (hb hby at_114) rfl ?_
            show Steps p.tables e below (s₁.setTop (mkF m 116 #[.val (.int pa), .val (.int pb), .val (.int pf), .val (.int (0 : Int32)), .val (.int (1 : Int32)), .val (.double (FP.i2d pa)), .second, .val (.double (FP.dneg (FP.i2d pb))), .second, .val (.long pa.toInt64), .second, .val (.long (-pb.toInt64)), .second, .val (.double FP.dconst0), .second, .unset, .unset] [(.double (FP.i2d pa))])) _
            refine XS.dload X0.here hx rfl (hb hby at_116) rfl ?_
            show Steps p.tables e below (s₁.setTop (mkF m 118 #[.val (.int pa), .val (.int pb), .val (.int pf), .val (.int (0 : Int32)), .val (.int (1 : Int32)), .val (.double (FP.i2d pa)), .second, .val (.double (FP.dneg (FP.i2d pb))), .second, .val (.long pa.toInt64), .second, .val (.long (-pb.toInt64)), .second, .val (.double FP.dconst0), .second, .unset, .unset] [(.double (FP.dneg (FP.i2d pb))), (.double (FP.i2d pa))])) _
            refine st23 _ ?_
            show Steps p.tables e below (T23.setTop (mkF m 121 #[.val (.int pa), .val (.int pb), .val (.int pf), .val (.int (0 : Int32)), .val (.int (1 : Int32)), .val (.double (FP.i2d pa)), .second, .val (.double (FP.dneg (FP.i2d pb))), .second, .val (.long pa.toInt64), .second, .val (.long (-pb.toInt64)), .second, .val (.double FP.dconst0), .second, .unset, .unset] [(.double (sgF (FP.i2d pa) (FP.dneg (FP.i2d pb))))])) _
            refine XS.dstore X23.here hx rfl (hb hby at_121) rfl (l' := #[.val (.int pa), .val (.int pb), .val (.int pf), .val (.int (0 : Int32)), .val (.int (1 : Int32)), .val (.double (FP.i2d pa)), .second, .val (.double (FP.dneg (FP.i2d pb))), .second, .val (.long pa.toInt64), .second, .val (.long (-pb.toInt64)), .second, .val (.double FP.dconst0), .second, .val (.double (sgF (FP.i2d pa) (FP.dneg (FP.i2d pb)))), .second]) rfl ?_
            show Steps p.tables e below (T23.setTop (mkF m 123 #[.val (.int pa), .val (.int pb), .val (.int pf), .val (.int (0 : Int32)), .val (.int (1 : Int32)), .val (.double (FP.i2d pa)), .second, .val (.double (FP.dneg (FP.i2d pb))), .second, .val (.long pa.toInt64), .second, .val (.long (-pb.toInt64)), .second, .val (.double FP.dconst0), .second, .val (.double (sgF (FP.i2d pa) (FP.dneg (FP.i2d pb)))), .second] [])) _
            refine XS.dload X23.here hx rfl (hb hby at_123) rfl ?_
            show Steps p.tables e below (T23.setTop (mkF m 125 #[.val (.int pa), .val (.int pb), .val (.int pf), .val (.int (0 : Int32)), .val (.int (1 : Int32)), .val (.double (FP.i2d pa)), .second, .val (.double (FP.dneg (FP.i2d pb))), .second, .val (.long pa.toInt64), .second, .val (.long (-pb.toInt64)), .second, .val (.double FP.dconst0), .second, .val (.double (sgF (FP.i2d pa) (FP.dneg (FP.i2d pb)))), .second] [(.double (sgF (FP.i2d pa) (FP.dneg (FP.i2d pb))))])) _
            refine XS.dload X23.here hx rfl (hb hby at_125) rfl ?_
            show Steps p.tables e below (T23.setTop (mkF m 127 #[.val (.int pa), .val (.int pb), .val (.int pf), .val (.int (0 : Int32)), .val (.int (1 : Int32)), .val (.double (FP.i2d pa)), .second, .val (.double (FP.dneg (FP.i2d pb))), .second, .val (.long pa.toInt64), .second, .val (.long (-pb.toInt64)), .second, .val (.double FP.dconst0), .second, .val (.double (sgF (FP.i2d pa) (FP.dneg (FP.i2d pb)))), .second] [(.double FP.dconst0), (.double (sgF (FP.i2d pa) (FP.dneg (FP.i2d pb))))])) _
            refine XS.dcmpS X23.here hx rfl (hb hby at_127) rfl rfl ?_
            show Steps p.tables e below (T23.setTop (mkF m 128 #[.val (.int pa), .val (.int pb), .val (.int pf), .val (.int (0 : Int32)), .val (.int (1 : Int32)), .val (.double (FP.i2d pa)), .second, .val (.double (FP.dneg (FP.i2d pb))), .second, .val (.long pa.toInt64), .second, .val (.long (-pb.toInt64)), .second, .val (.double FP.dconst0), .second, .val (.double (sgF (FP.i2d pa) (FP.dneg (FP.i2d pb)))), .second] [(.int (cmpValue (FP.dcmp (sgF (FP.i2d pa) (FP.dneg (FP.i2d pb))) FP.dconst0) .l))])) _
            refine XS.ifNo X23.here hx rfl (hb hby at_128) rfl (XT.i0_ne_f (by rw [own_sg_eq (own_i2d pa) (own_dneg (own_i2d pb)) (by have q := mt Int64.lt_iff_toInt_lt.mpr hc86_16; have q2 := mt Int64.lt_iff_toInt_lt.mpr hc102_20; rw [own_i2l pa, own_i2ln pb] at q; rw [own_i2ln pb, own_i2l pa] at q2; omega)]; exact own_same _ (Or.inr (Or.inr rfl)))) ?_
            show Steps p.tables e below (T23.setTop (mkF m 131 #[.val (.int pa), .val (.int pb), .val (.int pf), .val (.int (0 : Int32)), .val (.int (1 : Int32)), .val (.double (FP.i2d pa)), .second, .val (.double (FP.dneg (FP.i2d pb))), .second, .val (.long pa.toInt64), .second, .val (.long (-pb.toInt64)), .second, .val (.double FP.dconst0), .second, .val (.double (sgF (FP.i2d pa) (FP.dneg (FP.i2d pb)))), .second] [])) _
            refine XS.iconst X23.here hx rfl (hb hby at_131) ?_
            show Steps p.tables e below (T23.setTop (mkF m 132 #[.val (.int pa), .val (.int pb), .val (.int pf), .val (.int (0 : Int32)), .val (.int (1 : Int32)), .val (.double (FP.i2d pa)), .second, .val (.double (FP.dneg (FP.i2d pb))), .second, .val (.long pa.toInt64), .second, .val (.long (-pb.toInt64)), .second, .val (.double FP.dconst0), .second, .val (.double (sgF (FP.i2d pa) (FP.dneg (FP.i2d pb)))), .second] [(.int (1 : Int32))])) _
            refine XS.goto X23.here hx rfl (pc0 := 132) (pc' := 136) rfl (hb hby at_132) (by decide) (by decide) ?_
            exact kt
          obtain ⟨fs, hr, hrun, hended, hW, hsame⟩ := X23.leave (v := some (.int (1 : Int32))) (fun h => by rw [Bd.returns] at h; cases h)
          refine ⟨_, _, pre24 _ ?_, hrun, hended, _, _, rfl, ?_, ⟨_, rfl⟩, hW, hsame.mono (by decide) (by decide)⟩
          · show Steps p.tables e below (T23.setTop (mkF m 136 #[.val (.int pa), .val (.int pb), .val (.int pf), .val (.int (0 : Int32)), .val (.int (1 : Int32)), .val (.double (FP.i2d pa)), .second, .val (.double (FP.dneg (FP.i2d pb))), .second, .val (.long pa.toInt64), .second, .val (.long (-pb.toInt64)), .second, .val (.double FP.dconst0), .second, .val (.double (sgF (FP.i2d pa) (FP.dneg (FP.i2d pb)))), .second] [(.int (1 : Int32))])) _
            exact retN X23 hx (t := .boolean) Bd.returns (by simp) (hb hby at_136) hr
          · show Q1 Z (.int 1) h0 n0 _ T23.heap _
            rw [e23]
            exact ⟨rfl, N23, rfl⟩
  · have pre25 : ∀ t, Steps p.tables e below (s₁.setTop (mkF m 15 #[.val (.int pa), .val (.int pb), .val (.int pf), .val (.int (1 : Int32)), .unset, .unset, .unset, .unset, .unset, .unset, .unset, .unset, .unset, .unset, .unset, .unset, .unset] [(.int (pf &&& (2 : Int32)))])) t → Steps p.tables e below (s₁.setTop (entryFrame m #[(.int pa), (.int pb), (.int pf)] maxLocals)) t := by
      intro t kt
      refine pre1 _ ?_
      show Steps p.tables e below (s₁.setTop (mkF m 3 #[.val (.int pa), .val (.int pb), .val (.int pf), .unset, .unset, .unset, .unset, .unset, .unset, .unset, .unset, .unset, .unset, .unset, .unset, .unset, .unset] [(.int (pf &&& (1 : Int32)))])) _
      refine XS.ifNo X0.here hx rfl (hb hby at_3) rfl (XT.i0_eq_f hc3_2) ?_
      show Steps p.tables e below (s₁.setTop (mkF m 6 #[.val (.int pa), .val (.int pb), .val (.int pf), .unset, .unset, .unset, .unset, .unset, .unset, .unset, .unset, .unset, .unset, .unset, .unset, .unset, .unset] [])) _
      refine XS.iconst X0.here hx rfl (hb hby at_6) ?_
      show Steps p.tables e below (s₁.setTop (mkF m 7 #[.val (.int pa), .val (.int pb), .val (.int pf), .unset, .unset, .unset, .unset, .unset, .unset, .unset, .unset, .unset, .unset, .unset, .unset, .unset, .unset] [(.int (1 : Int32))])) _
      refine XS.goto X0.here hx rfl (pc0 := 7) (pc' := 11) rfl (hb hby at_7) (by decide) (by decide) ?_
      show Steps p.tables e below (s₁.setTop (mkF m 11 #[.val (.int pa), .val (.int pb), .val (.int pf), .unset, .unset, .unset, .unset, .unset, .unset, .unset, .unset, .unset, .unset, .unset, .unset, .unset, .unset] [(.int (1 : Int32))])) _
      refine XS.istoreN X0.here hx rfl (hb hby at_11) rfl (l' := #[.val (.int pa), .val (.int pb), .val (.int pf), .val (.int (1 : Int32)), .unset, .unset, .unset, .unset, .unset, .unset, .unset, .unset, .unset, .unset, .unset, .unset, .unset]) rfl ?_
      show Steps p.tables e below (s₁.setTop (mkF m 12 #[.val (.int pa), .val (.int pb), .val (.int pf), .val (.int (1 : Int32)), .unset, .unset, .unset, .unset, .unset, .unset, .unset, .unset, .unset, .unset, .unset, .unset, .unset] [])) _
      refine XS.iloadN X0.here hx rfl (hb hby at_12) rfl ?_
      show Steps p.tables e below (s₁.setTop (mkF m 13 #[.val (.int pa), .val (.int pb), .val (.int pf), .val (.int (1 : Int32)), .unset, .unset, .unset, .unset, .unset, .unset, .unset, .unset, .unset, .unset, .unset, .unset, .unset] [(.int pf)])) _
      refine XS.iconst X0.here hx rfl (hb hby at_13) ?_
      show Steps p.tables e below (s₁.setTop (mkF m 14 #[.val (.int pa), .val (.int pb), .val (.int pf), .val (.int (1 : Int32)), .unset, .unset, .unset, .unset, .unset, .unset, .unset, .unset, .unset, .unset, .unset, .unset, .unset] [(.int (2 : Int32)), (.int pf)])) _
      refine XS.iand X0.here hx rfl (hb hby at_14) rfl ?_
      exact kt
    by_cases hc15_26 : (pf &&& (2 : Int32)) = (0 : Int32)
    · have pre27 : ∀ t, Steps p.tables e below (s₁.setTop (mkF m 86 #[.val (.int pa), .val (.int pb), .val (.int pf), .val (.int (1 : Int32)), .val (.int (0 : Int32)), .val (.double (FP.dneg (FP.i2d pa))), .second, .val (.double (FP.i2d pb)), .second, .val (.long (-pa.toInt64)), .second, .val (.long pb.toInt64), .second, .unset, .unset, .unset, .unset] [(.int (XT.cmpL (-pa.toInt64) pb.toInt64))])) t → Steps p.tables e below (s₁.setTop (entryFrame m #[(.int pa), (.int pb), (.int pf)] maxLocals)) t := by
        intro t kt
        refine pre25 _ ?_
        show Steps p.tables e below (s₁.setTop (mkF m 15 #[.val (.int pa), .val (.int pb), .val (.int pf), .val (.int (1 : Int32)), .unset, .unset, .unset, .unset, .unset, .unset, .unset, .unset, .unset, .unset, .unset, .unset, .unset] [(.int (pf &&& (2 : Int32)))])) _
        refine XS.ifYes X0.here hx rfl (pc0 := 15) (pc' := 22) rfl (hb hby at_15) rfl (XT.i0_eq_t hc15_26) (by decide) (by decide) ?_
        show Steps p.tables e below (s₁.setTop (mkF m 22 #[.val (.int pa), .val (.int pb), .val (.int pf), .val (.int (1 : Int32)), .unset, .unset, .unset, .unset, .unset, .unset, .unset, .unset, .unset, .unset, .unset, .unset, .unset] [])) _
        refine XS.iconst X0.here hx rfl (hb hby at_22) ?_
        show Steps p.tables e below (s₁.setTop (mkF m 23 #[.val (.int pa), .val (.int pb), .val (.int pf), .val (.int (1 : Int32)), .unset, .unset, .unset, .unset, .unset, .unset, .unset, .unset, .unset, .unset, .unset, .unset, .unset] [(.int (0 : Int32))])) _
        refine XS.istore X0.here hx rfl (hb hby at_23) rfl (l' := #[.val (.int pa), .val (.int pb), .val (.int pf), .val (.int (1 : Int32)), .val (.int (0 : Int32)), .unset, .unset, .unset, .unset, .unset, .unset, .unset, .unset, .unset, .unset, .unset, .unset]) rfl ?_
        show Steps p.tables e below (s₁.setTop (mkF m 25 #[.val (.int pa), .val (.int pb), .val (.int pf), .val (.int (1 : Int32)), .val (.int (0 : Int32)), .unset, .unset, .unset, .unset, .unset, .unset, .unset, .unset, .unset, .unset, .unset, .unset] [])) _
        refine XS.iloadN X0.here hx rfl (hb hby at_25) rfl ?_
        show Steps p.tables e below (s₁.setTop (mkF m 26 #[.val (.int pa), .val (.int pb), .val (.int pf), .val (.int (1 : Int32)), .val (.int (0 : Int32)), .unset, .unset, .unset, .unset, .unset, .unset, .unset, .unset, .unset, .unset, .unset, .unset] [(.int pa)])) _
        refine XS.i2dS X0.here hx rfl (hb hby at_26) rfl rfl ?_
        show Steps p.tables e below (s₁.setTop (mkF m 27 #[.val (.int pa), .val (.int pb), .val (.int pf), .val (.int (1 : Int32)), .val (.int (0 : Int32)), .unset, .unset, .unset, .unset, .unset, .unset, .unset, .unset, .unset, .unset, .unset, .unset] [(.double (FP.i2d pa))])) _
        refine XS.dstore X0.here hx rfl (hb hby at_27) rfl (l' := #[.val (.int pa), .val (.int pb), .val (.int pf), .val (.int (1 : Int32)), .val (.int (0 : Int32)), .val (.double (FP.i2d pa)), .second, .unset, .unset, .unset, .unset, .unset, .unset, .unset, .unset, .unset, .unset]) rfl ?_
        show Steps p.tables e below (s₁.setTop (mkF m 29 #[.val (.int pa), .val (.int pb), .val (.int pf), .val (.int (1 : Int32)), .val (.int (0 : Int32)), .val (.double (FP.i2d pa)), .second, .unset, .unset, .unset, .unset, .unset, .unset, .unset, .unset, .unset, .unset] [])) _
        refine XS.iloadN X0.here hx rfl (hb hby at_29) rfl ?_
        show Steps p.tables e below (s₁.setTop (mkF m 30 #[.val (.int pa), .val (.int pb), .val (.int pf), .val (.int (1 : Int32)), .val (.int (0 : Int32)), .val (.double (FP.i2d pa)), .second, .unset, .unset, .unset, .unset, .unset, .unset, .unset, .unset, .unset, .unset] [(.int (1 : Int32))])) _
        refine XS.ifNo X0.here hx rfl (hb hby at_30) rfl (XT.i0_eq_f (by decide)) ?_
        show Steps p.tables e below (s₁.setTop (mkF m 33 #[.val (.int pa), .val (.int pb), .val (.int pf), .val (.int (1 : Int32)), .val (.int (0 : Int32)), .val (.double (FP.i2d pa)), .second, .unset, .unset, .unset, .unset, .unset, .unset, .unset, .unset, .unset, .unset] [])) _
        refine XS.dload X0.here hx rfl (hb hby at_33) rfl ?_
        show Steps p.tables e below (s₁.setTop (mkF m 35 #[.val (.int pa), .val (.int pb), .val (.int pf), .val (.int (1 : Int32)), .val (.int (0 : Int32)), .val (.double (FP.i2d pa)), .second, .unset, .unset, .unset, .unset, .unset, .unset, .unset, .unset, .unset, .unset] [(.double (FP.i2d pa))])) _
        refine XS.dnegS X0.here hx rfl (hb hby at_35) rfl rfl ?_
        show Steps p.tables e below (s₁.setTop (mkF m 36 #[.val (.int pa), .val (.int pb), .val (.int pf), .val (.int (1 : Int32)), .val (.int (0 : Int32)), .val (.double (FP.i2d pa)), .second, .unset, .unset, .unset, .unset, .unset, .unset, .unset, .unset, .unset, .unset] [(.double (FP.dneg (FP.i2d pa)))])) _
        refine XS.dstore X0.here hx rfl (hb hby at_36) rfl (l' := #[.val (.int pa), .val (.int pb), .val (.int pf), .val (.int (1 : Int32)), .val (.int (0 : Int32)), .val (.double (FP.dneg (FP.i2d pa))), .second, .unset, .unset, .unset, .unset, .unset, .unset, .unset, .unset, .unset, .unset]) rfl ?_
        show Steps p.tables e below (s₁.setTop (mkF m 38 #[.val (.int pa), .val (.int pb), .val (.int pf), .val (.int (1 : Int32)), .val (.int (0 : Int32)), .val (.double (FP.dneg (FP.i2d pa))), .second, .unset, .unset, .unset, .unset, .unset, .unset, .unset, .unset, .unset, .unset] [])) _
        refine XS.iloadN X0.here hx rfl (hb hby at_38) rfl ?_
        show Steps p.tables e below (s₁.setTop (mkF m 39 #[.val (.int pa), .val (.int pb), .val (.int pf), .val (.int (1 : Int32)), .val (.int (0 : Int32)), .val (.double (FP.dneg (FP.i2d pa))), .second, .unset, .unset, .unset, .unset, .unset, .unset, .unset, .unset, .unset, .unset] [(.int pb)])) _
        refine XS.i2dS X0.here hx rfl (hb hby at_39) rfl rfl ?_
        show Steps p.tables e below (s₁.setTop (mkF m 40 #[.val (.int pa), .val (.int pb), .val (.int pf), .val (.int (1 : Int32)), .val (.int (0 : Int32)), .val (.double (FP.dneg (FP.i2d pa))), .second, .unset, .unset, .unset, .unset, .unset, .unset, .unset, .unset, .unset, .unset] [(.double (FP.i2d pb))])) _
        refine XS.dstore X0.here hx rfl (hb hby at_40) rfl (l' := #[.val (.int pa), .val (.int pb), .val (.int pf), .val (.int (1 : Int32)), .val (.int (0 : Int32)), .val (.double (FP.dneg (FP.i2d pa))), .second, .val (.double (FP.i2d pb)), .second, .unset, .unset, .unset, .unset, .unset, .unset, .unset, .unset]) rfl ?_
        show Steps p.tables e below (s₁.setTop (mkF m 42 #[.val (.int pa), .val (.int pb), .val (.int pf), .val (.int (1 : Int32)), .val (.int (0 : Int32)), .val (.double (FP.dneg (FP.i2d pa))), .second, .val (.double (FP.i2d pb)), .second, .unset, .unset, .unset, .unset, .unset, .unset, .unset, .unset] [])) _
        refine XS.iload X0.here hx rfl (hb hby at_42) rfl ?_
        show Steps p.tables e below (s₁.setTop (mkF m 44 #[.val (.int pa), .val (.int pb), .val (.int pf), .val (.int (1 : Int32)), .val (.int (0 : Int32)), .val (.double (FP.dneg (FP.i2d pa))), .second, .val (.double (FP.i2d pb)), .second, .unset, .unset, .unset, .unset, .unset, .unset, .unset, .unset] [(.int (0 : Int32))])) _
        refine XS.ifYes X0.here hx rfl (pc0 := 44) (pc' := 52) rfl (hb hby at_44) rfl (XT.i0_eq_t (by decide)) (by decide) (by decide) ?_
        show Steps p.tables e below (s₁.setTop (mkF m 52 #[.val (.int pa), .val (.int pb), .val (.int pf), .val (.int (1 : Int32)), .val (.int (0 : Int32)), .val (.double (FP.dneg (FP.i2d pa))), .second, .val (.double (FP.i2d pb)), .second, .unset, .unset, .unset, .unset, .unset, .unset, .unset, .unset] [])) _
        refine XS.iloadN X0.here hx rfl (hb hby at_52) rfl ?_
        show Steps p.tables e below (s₁.setTop (mkF m 53 #[.val (.int pa), .val (.int pb), .val (.int pf), .val (.int (1 : Int32)), .val (.int (0 : Int32)), .val (.double (FP.dneg (FP.i2d pa))), .second, .val (.double (FP.i2d pb)), .second, .unset, .unset, .unset, .unset, .unset, .unset, .unset, .unset] [(.int (1 : Int32))])) _
        refine XS.ifNo X0.here hx rfl (hb hby at_53) rfl (XT.i0_eq_f (by decide)) ?_
        show Steps p.tables e below (s₁.setTop (mkF m 56 #[.val (.int pa), .val (.int pb), .val (.int pf), .val (.int (1 : Int32)), .val (.int (0 : Int32)), .val (.double (FP.dneg (FP.i2d pa))), .second, .val (.double (FP.i2d pb)), .second, .unset, .unset, .unset, .unset, .unset, .unset, .unset, .unset] [])) _
        refine XS.iloadN X0.here hx rfl (hb hby at_56) rfl ?_
        show Steps p.tables e below (s₁.setTop (mkF m 57 #[.val (.int pa), .val (.int pb), .val (.int pf), .val (.int (1 : Int32)), .val (.int (0 : Int32)), .val (.double (FP.dneg (FP.i2d pa))), .second, .val (.double (FP.i2d pb)), .second, .unset, .unset, .unset, .unset, .unset, .unset, .unset, .unset] [(.int pa)])) _
        refine XS.i2l X0.here hx rfl (hb hby at_57) rfl ?_
        show Steps p.tables e below (s₁.setTop (mkF m 58 #[.val (.int pa), .val (.int pb), .val (.int pf), .val (.int (1 : Int32)), .val (.int (0 : Int32)), .val (.double (FP.dneg (FP.i2d pa))), .second, .val (.double (FP.i2d pb)), .second, .unset, .unset, .unset, .unset, .unset, .unset, .unset, .unset] [(.long pa.toInt64)])) _
        refine XS.lneg X0.here hx rfl (hb hby at_58) rfl ?_
        show Steps p.tables e below (s₁.setTop (mkF m 59 #[.val (.int pa), .val (.int pb), .val (.int pf), .val (.int (1 : Int32)), .val (.int (0 : Int32)), .val (.double (FP.dneg (FP.i2d pa))), .second, .val (.double (FP.i2d pb)), .second, .unset, .unset, .unset, .unset, .unset, .unset, .unset, .unset] [(.long (-pa.toInt64))])) _
        refine XS.goto X0.here hx rfl (pc0 := 59) (pc' := 64) rfl (hb hby at_59) (by decide) (by decide) ?_
        show Steps p.tables e below (s₁.setTop (mkF m 64 #[.val (.int pa), .val (.int pb), .val (.int pf), .val (.int (1 : Int32)), .val (.int (0 : Int32)), .val (.double (FP.dneg (FP.i2d pa))), .second, .val (.double (FP.i2d pb)), .second, .unset, .unset, .unset, .unset, .unset, .unset, .unset, .unset] [(.long (-pa.toInt64))])) _
        refine XS.lstore X0.here hx rfl (hb hby at_64) rfl (l' := #[.val (.int pa), .val (.int pb), .val (.int pf), .val (.int (1 : Int32)), .val (.int (0 : Int32)), .val (.double (FP.dneg (FP.i2d pa))), .second, .val (.double (FP.i2d pb)), .second, .val (.long (-pa.toInt64)), .second, .unset, .unset, .unset, .unset, .unset, .unset]) rfl ?_
        show Steps p.tables e below (s₁.setTop (mkF m 66 #[.val (.int pa), .val (.int pb), .val (.int pf), .val (.int (1 : Int32)), .val (.int (0 : Int32)), .val (.double (FP.dneg (FP.i2d pa))), .second, .val (.double (FP.i2d pb)), .second, .val (.long (-pa.toInt64)), .second, .unset, .unset, .unset, .unset, .unset, .unset] [])) _
        refine XS.iload X0.here hx rfl (hb hby at_66) rfl ?_
        show Steps p.tables e below (s₁.setTop (mkF m 68 #[.val (.int pa), .val (.int pb), .val (.int pf), .val (.int (1 : Int32)), .val (.int (0 : Int32)), .val (.double (FP.dneg (FP.i2d pa))), .second, .val (.double (FP.i2d pb)), .second, .val (.long (-pa.toInt64)), .second, .unset, .unset, .unset, .unset, .unset, .unset] [(.int (0 : Int32))])) _
        refine XS.ifYes X0.here hx rfl (pc0 := 68) (pc' := 77) rfl (hb hby at_68) rfl (XT.i0_eq_t (by decide)) (by decide) (by decide) ?_
        show Steps p.tables e below (s₁.setTop (mkF m 77 #[.val (.int pa), .val (.int pb), .val (.int pf), .val (.int (1 : Int32)), .val (.int (0 : Int32)), .val (.double (FP.dneg (FP.i2d pa))), .second, .val (.double (FP.i2d pb)), .second, .val (.long (-pa.toInt64)), .second, .unset, .unset, .unset, .unset, .unset, .unset] [])) _
        refine XS.iloadN X0.here hx rfl (hb hby at_77) rfl ?_
        show Steps p.tables e below (s₁.setTop (mkF m 78 #[.val (.int pa), .val (.int pb), .val (.int pf), .val (.int (1 : Int32)), .val (.int (0 : Int32)), .val (.double (FP.dneg (FP.i2d pa))), .second, .val (.double (FP.i2d pb)), .second, .val (.long (-pa.toInt64)), .second, .unset, .unset, .unset, .unset, .unset, .unset] [(.int pb)])) _
        refine XS.i2l X0.here hx rfl (hb hby at_78) rfl ?_
        show Steps p.tables e below (s₁.setTop (mkF m 79 #[.val (.int pa), .val (.int pb), .val (.int pf), .val (.int (1 : Int32)), .val (.int (0 : Int32)), .val (.double (FP.dneg (FP.i2d pa))), .second, .val (.double (FP.i2d pb)), .second, .val (.long (-pa.toInt64)), .second, .unset, .unset, .unset, .unset, .unset, .unset] [(.long pb.toInt64)])) _
        refine XS.lstore X0.here hx rfl (hb hby at_79) rfl (l' := #[.val (.int pa), .val (.int pb), .val (.int pf), .val (.int (1 : Int32)), .val (.int (0 : Int32)), .val (.double (FP.dneg (FP.i2d pa))), .second, .val (.double (FP.i2d pb)), .second, .val (.long (-pa.toInt64)), .second, .val (.long pb.toInt64), .second, .unset, .unset, .unset, .unset]) rfl ?_
        show Steps p.tables e below (s₁.setTop (mkF m 81 #[.val (.int pa), .val (.int pb), .val (.int pf), .val (.int (1 : Int32)), .val (.int (0 : Int32)), .val (.double (FP.dneg (FP.i2d pa))), .second, .val (.double (FP.i2d pb)), .second, .val (.long (-pa.toInt64)), .second, .val (.long pb.toInt64), .second, .unset, .unset, .unset, .unset] [])) _
        refine XS.lload X0.here hx rfl (hb hby at_81) rfl ?_
        show Steps p.tables e below (s₁.setTop (mkF m 83 #[.val (.int pa), .val (.int pb), .val (.int pf), .val (.int (1 : Int32)), .val (.int (0 : Int32)), .val (.double (FP.dneg (FP.i2d pa))), .second, .val (.double (FP.i2d pb)), .second, .val (.long (-pa.toInt64)), .second, .val (.long pb.toInt64), .second, .unset, .unset, .unset, .unset] [(.long (-pa.toInt64))])) _
        refine XS.lload X0.here hx rfl (hb hby at_83) rfl ?_
        show Steps p.tables e below (s₁.setTop (mkF m 85 #[.val (.int pa), .val (.int pb), .val (.int pf), .val (.int (1 : Int32)), .val (.int (0 : Int32)), .val (.double (FP.dneg (FP.i2d pa))), .second, .val (.double (FP.i2d pb)), .second, .val (.long (-pa.toInt64)), .second, .val (.long pb.toInt64), .second, .unset, .unset, .unset, .unset] [(.long pb.toInt64), (.long (-pa.toInt64))])) _
        refine XT.lcmp X0.here hx rfl (hb hby at_85) rfl ?_
        exact kt
      by_cases hc86_28 : (-pa.toInt64) < pb.toInt64
      · obtain ⟨_, _, ⟨T29, L29, k29, n29⟩, -, X29, ⟨Lc29, hQ29, l29, y29, z29⟩, st29⟩ := Jvm.LawKit.callS X0 hx (y := (⟨"com/example/adjudica/adjudica/engine/Arithmetic", "sign", "(DD)D"⟩ : MethodName)) hown (mvT hZ (hw _ (List.mem_of_getElem? (i := 0) rfl))) (mvT hZ (hw _ (List.mem_of_getElem? (i := 1) rfl))) (mvT hZ (hw _ (List.mem_of_getElem? (i := 2) rfl))) (mvT hZ (hw _ (List.mem_of_getElem? (i := 3) rfl))) (by decide) (backOf (W := 0) (rm1 l Z a0 hw [] (FP.dneg (FP.i2d pa)) (FP.i2d pb) h0 n0 Z0) hZ (hw _ (List.mem_of_getElem? (i := 3) rfl)) (hw _ (List.mem_of_getElem? (i := 2) rfl)) (by decide) (by decide)) (g := (mkF m 118 #[.val (.int pa), .val (.int pb), .val (.int pf), .val (.int (1 : Int32)), .val (.int (0 : Int32)), .val (.double (FP.dneg (FP.i2d pa))), .second, .val (.double (FP.i2d pb)), .second, .val (.long (-pa.toInt64)), .second, .val (.long pb.toInt64), .second, .val (.double (13830554455654793216 : UInt64)), .second, .unset, .unset] [(.double (FP.i2d pb)), (.double (FP.dneg (FP.i2d pa)))])) rfl (by rw [hml]; rfl) (argsL := [(.double (FP.dneg (FP.i2d pa))), (.double (FP.i2d pb))]) (rest := []) (lenOf pd0_0 rfl) rfl (by show 2 * 0 + _ ≤ _; exact Nat.le_of_eq rfl) (hb hby at_118) (fun _ _ => ⟨rfl, e0, (by decide : 0 + 0 ≤ _), (by decide : 0 + 0 ≤ _)⟩)
        dsimp only [Pt.U, Pt.locs, Pt.cells, Pt.slots] at X29 l29 y29 z29 st29 hQ29
        subst l29 y29 z29
        obtain ⟨rfl, N29q, e29⟩ := hQ29
        have N29 := Fr.app N0 N29q
        have pre30 : ∀ t, Steps p.tables e below (T29.setTop (mkF m 136 #[.val (.int pa), .val (.int pb), .val (.int pf), .val (.int (1 : Int32)), .val (.int (0 : Int32)), .val (.double (FP.dneg (FP.i2d pa))), .second, .val (.double (FP.i2d pb)), .second, .val (.long (-pa.toInt64)), .second, .val (.long pb.toInt64), .second, .val (.double (13830554455654793216 : UInt64)), .second, .val (.double (sgF (FP.dneg (FP.i2d pa)) (FP.i2d pb))), .second] [(.int (1 : Int32))])) t → Steps p.tables e below (s₁.setTop (entryFrame m #[(.int pa), (.int pb), (.int pf)] maxLocals)) t := by
          intro t kt
          refine pre27 _ ?_
          show Steps p.tables e below (s₁.setTop (mkF m 86 #[.val (.int pa), .val (.int pb), .val (.int pf), .val (.int (1 : Int32)), .val (.int (0 : Int32)), .val (.double (FP.dneg (FP.i2d pa))), .second, .val (.double (FP.i2d pb)), .second, .val (.long (-pa.toInt64)), .second, .val (.long pb.toInt64), .second, .unset, .unset, .unset, .unset] [(.int (XT.cmpL (-pa.toInt64) pb.toInt64))])) _
          refine XS.ifNo X0.here hx rfl (hb hby at_86) rfl (XT.ll_ge_f hc86_28) ?_
          show Steps p.tables e below (s₁.setTop (mkF m 89 #[.val (.int pa), .val (.int pb), .val (.int pf), .val (.int (1 : Int32)), .val (.int (0 : Int32)), .val (.double (FP.dneg (FP.i2d pa))), .second, .val (.double (FP.i2d pb)), .second, .val (.long (-pa.toInt64)), .second, .val (.long pb.toInt64), .second, .unset, .unset, .unset, .unset] [])) _
          refine X0.ldc2DoubleC hx hown (mvT hZ (hw _ (List.mem_of_getElem? (i := 4) rfl))) (g := (mkF m 89 #[.val (.int pa), .val (.int pb), .val (.int pf), .val (.int (1 : Int32)), .val (.int (0 : Int32)), .val (.double (FP.dneg (FP.i2d pa))), .second, .val (.double (FP.i2d pb)), .second, .val (.long (-pa.toInt64)), .second, .val (.long pb.toInt64), .second, .unset, .unset, .unset, .unset] [])) rfl (hb hby at_89) _ ?_
          show Steps p.tables e below (s₁.setTop (mkF m 92 #[.val (.int pa), .val (.int pb), .val (.int pf), .val (.int (1 : Int32)), .val (.int (0 : Int32)), .val (.double (FP.dneg (FP.i2d pa))), .second, .val (.double (FP.i2d pb)), .second, .val (.long (-pa.toInt64)), .second, .val (.long pb.toInt64), .second, .unset, .unset, .unset, .unset] [(.double (13830554455654793216 : UInt64))])) _
          refine XS.dstore X0.here hx rfl (hb hby at_92) rfl (l' := #[.val (.int pa), .val (.int pb), .val (.int pf), .val (.int (1 : Int32)), .val (.int (0 : Int32)), .val (.double (FP.dneg (FP.i2d pa))), .second, .val (.double (FP.i2d pb)), .second, .val (.long (-pa.toInt64)), .second, .val (.long pb.toInt64), .second, .val (.double (13830554455654793216 : UInt64)), .second, .unset, .unset]) rfl ?_
          show Steps p.tables e below (s₁.setTop (mkF m 94 #[.val (.int pa), .val (.int pb), .val (.int pf), .val (.int (1 : Int32)), .val (.int (0 : Int32)), .val (.double (FP.dneg (FP.i2d pa))), .second, .val (.double (FP.i2d pb)), .second, .val (.long (-pa.toInt64)), .second, .val (.long pb.toInt64), .second, .val (.double (13830554455654793216 : UInt64)), .second, .unset, .unset] [])) _
          refine XS.goto X0.here hx rfl (pc0 := 94) (pc' := 114) rfl (hb hby at_94) (by decide) (by decide) ?_
          show Steps p.tables e below (s₁.setTop (mkF m 114 #[.val (.int pa), .val (.int pb), .val (.int pf), .val (.int (1 : Int32)), .val (.int (0 : Int32)), .val (.double (FP.dneg (FP.i2d pa))), .second, .val (.double (FP.i2d pb)), .second, .val (.long (-pa.toInt64)), .second, .val (.long pb.toInt64), .second, .val (.double (13830554455654793216 : UInt64)), .second, .unset, .unset] [])) _
          refine XS.dload X0.here hx rfl (hb hby at_114) rfl ?_
          show Steps p.tables e below (s₁.setTop (mkF m 116 #[.val (.int pa), .val (.int pb), .val (.int pf), .val (.int (1 : Int32)), .val (.int (0 : Int32)), .val (.double (FP.dneg (FP.i2d pa))), .second, .val (.double (FP.i2d pb)), .second, .val (.long (-pa.toInt64)), .second, .val (.long pb.toInt64), .second, .val (.double (13830554455654793216 : UInt64)), .second, .unset, .unset] [(.double (FP.dneg (FP.i2d pa)))])) _
          refine XS.dload X0.here hx rfl (hb hby at_116) rfl ?_
          show Steps p.tables e below (s₁.setTop (mkF m 118 #[.val (.int pa), .val (.int pb), .val (.int pf), .val (.int (1 : Int32)), .val (.int (0 : Int32)), .val (.double (FP.dneg (FP.i2d pa))), .second, .val (.double (FP.i2d pb)), .second, .val (.long (-pa.toInt64)), .second, .val (.long pb.toInt64), .second, .val (.double (13830554455654793216 : UInt64)), .second, .unset, .unset] [(.double (FP.i2d pb)), (.double (FP.dneg (FP.i2d pa)))])) _
          refine st29 _ ?_
          show Steps p.tables e below (T29.setTop (mkF m 121 #[.val (.int pa), .val (.int pb), .val (.int pf), .val (.int (1 : Int32)), .val (.int (0 : Int32)), .val (.double (FP.dneg (FP.i2d pa))), .second, .val (.double (FP.i2d pb)), .second, .val (.long (-pa.toInt64)), .second, .val (.long pb.toInt64), .second, .val (.double (13830554455654793216 : UInt64)), .second, .unset, .unset] [(.double (sgF (FP.dneg (FP.i2d pa)) (FP.i2d pb)))])) _
          refine XS.dstore X29.here hx rfl (hb hby at_121) rfl (l' := #[.val (.int pa), .val (.int pb), .val (.int pf), .val (.int (1 : Int32)), .val (.int (0 : Int32)), .val (.double (FP.dneg (FP.i2d pa))), .second, .val (.double (FP.i2d pb)), .second, .val (.long (-pa.toInt64)), .second, .val (.long pb.toInt64), .second, .val (.double (13830554455654793216 : UInt64)), .second, .val (.double (sgF (FP.dneg (FP.i2d pa)) (FP.i2d pb))), .second]) rfl ?_
          show Steps p.tables e below (T29.setTop (mkF m 123 #[.val (.int pa), .val (.int pb), .val (.int pf), .val (.int (1 : Int32)), .val (.int (0 : Int32)), .val (.double (FP.dneg (FP.i2d pa))), .second, .val (.double (FP.i2d pb)), .second, .val (.long (-pa.toInt64)), .second, .val (.long pb.toInt64), .second, .val (.double (13830554455654793216 : UInt64)), .second, .val (.double (sgF (FP.dneg (FP.i2d pa)) (FP.i2d pb))), .second] [])) _
          refine XS.dload X29.here hx rfl (hb hby at_123) rfl ?_
          show Steps p.tables e below (T29.setTop (mkF m 125 #[.val (.int pa), .val (.int pb), .val (.int pf), .val (.int (1 : Int32)), .val (.int (0 : Int32)), .val (.double (FP.dneg (FP.i2d pa))), .second, .val (.double (FP.i2d pb)), .second, .val (.long (-pa.toInt64)), .second, .val (.long pb.toInt64), .second, .val (.double (13830554455654793216 : UInt64)), .second, .val (.double (sgF (FP.dneg (FP.i2d pa)) (FP.i2d pb))), .second] [(.double (sgF (FP.dneg (FP.i2d pa)) (FP.i2d pb)))])) _
          refine XS.dload X29.here hx rfl (hb hby at_125) rfl ?_
          show Steps p.tables e below (T29.setTop (mkF m 127 #[.val (.int pa), .val (.int pb), .val (.int pf), .val (.int (1 : Int32)), .val (.int (0 : Int32)), .val (.double (FP.dneg (FP.i2d pa))), .second, .val (.double (FP.i2d pb)), .second, .val (.long (-pa.toInt64)), .second, .val (.long pb.toInt64), .second, .val (.double (13830554455654793216 : UInt64)), .second, .val (.double (sgF (FP.dneg (FP.i2d pa)) (FP.i2d pb))), .second] [(.double (13830554455654793216 : UInt64)), (.double (sgF (FP.dneg (FP.i2d pa)) (FP.i2d pb)))])) _
          refine XS.dcmpS X29.here hx rfl (hb hby at_127) rfl rfl ?_
          show Steps p.tables e below (T29.setTop (mkF m 128 #[.val (.int pa), .val (.int pb), .val (.int pf), .val (.int (1 : Int32)), .val (.int (0 : Int32)), .val (.double (FP.dneg (FP.i2d pa))), .second, .val (.double (FP.i2d pb)), .second, .val (.long (-pa.toInt64)), .second, .val (.long pb.toInt64), .second, .val (.double (13830554455654793216 : UInt64)), .second, .val (.double (sgF (FP.dneg (FP.i2d pa)) (FP.i2d pb))), .second] [(.int (cmpValue (FP.dcmp (sgF (FP.dneg (FP.i2d pa)) (FP.i2d pb)) (13830554455654793216 : UInt64)) .l))])) _
          refine XS.ifNo X29.here hx rfl (hb hby at_128) rfl (XT.i0_ne_f (by rw [own_sg_lt (own_dneg (own_i2d pa)) (own_i2d pb) (by have q := Int64.lt_iff_toInt_lt.mp hc86_28; rw [own_i2ln pa, own_i2l pb] at q; exact q)]; exact own_same _ (Or.inl rfl))) ?_
          show Steps p.tables e below (T29.setTop (mkF m 131 #[.val (.int pa), .val (.int pb), .val (.int pf), .val (.int (1 : Int32)), .val (.int (0 : Int32)), .val (.double (FP.dneg (FP.i2d pa))), .second, .val (.double (FP.i2d pb)), .second, .val (.long (-pa.toInt64)), .second, .val (.long pb.toInt64), .second, .val (.double (13830554455654793216 : UInt64)), .second, .val (.double (sgF (FP.dneg (FP.i2d pa)) (FP.i2d pb))), .second] [])) _
          refine XS.iconst X29.here hx rfl (hb hby at_131) ?_
          show Steps p.tables e below (T29.setTop (mkF m 132 #[.val (.int pa), .val (.int pb), .val (.int pf), .val (.int (1 : Int32)), .val (.int (0 : Int32)), .val (.double (FP.dneg (FP.i2d pa))), .second, .val (.double (FP.i2d pb)), .second, .val (.long (-pa.toInt64)), .second, .val (.long pb.toInt64), .second, .val (.double (13830554455654793216 : UInt64)), .second, .val (.double (sgF (FP.dneg (FP.i2d pa)) (FP.i2d pb))), .second] [(.int (1 : Int32))])) _
          refine XS.goto X29.here hx rfl (pc0 := 132) (pc' := 136) rfl (hb hby at_132) (by decide) (by decide) ?_
          exact kt
        obtain ⟨fs, hr, hrun, hended, hW, hsame⟩ := X29.leave (v := some (.int (1 : Int32))) (fun h => by rw [Bd.returns] at h; cases h)
        refine ⟨_, _, pre30 _ ?_, hrun, hended, _, _, rfl, ?_, ⟨_, rfl⟩, hW, hsame.mono (by decide) (by decide)⟩
        · show Steps p.tables e below (T29.setTop (mkF m 136 #[.val (.int pa), .val (.int pb), .val (.int pf), .val (.int (1 : Int32)), .val (.int (0 : Int32)), .val (.double (FP.dneg (FP.i2d pa))), .second, .val (.double (FP.i2d pb)), .second, .val (.long (-pa.toInt64)), .second, .val (.long pb.toInt64), .second, .val (.double (13830554455654793216 : UInt64)), .second, .val (.double (sgF (FP.dneg (FP.i2d pa)) (FP.i2d pb))), .second] [(.int (1 : Int32))])) _
          exact retN X29 hx (t := .boolean) Bd.returns (by simp) (hb hby at_136) hr
        · show Q1 Z (.int 1) h0 n0 _ T29.heap _
          rw [e29]
          exact ⟨rfl, N29, rfl⟩
      · have pre31 : ∀ t, Steps p.tables e below (s₁.setTop (mkF m 102 #[.val (.int pa), .val (.int pb), .val (.int pf), .val (.int (1 : Int32)), .val (.int (0 : Int32)), .val (.double (FP.dneg (FP.i2d pa))), .second, .val (.double (FP.i2d pb)), .second, .val (.long (-pa.toInt64)), .second, .val (.long pb.toInt64), .second, .unset, .unset, .unset, .unset] [(.int (XT.cmpL (-pa.toInt64) pb.toInt64))])) t → Steps p.tables e below (s₁.setTop (entryFrame m #[(.int pa), (.int pb), (.int pf)] maxLocals)) t := by
          intro t kt
          refine pre27 _ ?_
          show Steps p.tables e below (s₁.setTop (mkF m 86 #[.val (.int pa), .val (.int pb), .val (.int pf), .val (.int (1 : Int32)), .val (.int (0 : Int32)), .val (.double (FP.dneg (FP.i2d pa))), .second, .val (.double (FP.i2d pb)), .second, .val (.long (-pa.toInt64)), .second, .val (.long pb.toInt64), .second, .unset, .unset, .unset, .unset] [(.int (XT.cmpL (-pa.toInt64) pb.toInt64))])) _
          refine XS.ifYes X0.here hx rfl (pc0 := 86) (pc' := 97) rfl (hb hby at_86) rfl (XT.ll_ge_t hc86_28) (by decide) (by decide) ?_
          show Steps p.tables e below (s₁.setTop (mkF m 97 #[.val (.int pa), .val (.int pb), .val (.int pf), .val (.int (1 : Int32)), .val (.int (0 : Int32)), .val (.double (FP.dneg (FP.i2d pa))), .second, .val (.double (FP.i2d pb)), .second, .val (.long (-pa.toInt64)), .second, .val (.long pb.toInt64), .second, .unset, .unset, .unset, .unset] [])) _
          refine XS.lload X0.here hx rfl (hb hby at_97) rfl ?_
          show Steps p.tables e below (s₁.setTop (mkF m 99 #[.val (.int pa), .val (.int pb), .val (.int pf), .val (.int (1 : Int32)), .val (.int (0 : Int32)), .val (.double (FP.dneg (FP.i2d pa))), .second, .val (.double (FP.i2d pb)), .second, .val (.long (-pa.toInt64)), .second, .val (.long pb.toInt64), .second, .unset, .unset, .unset, .unset] [(.long (-pa.toInt64))])) _
          refine XS.lload X0.here hx rfl (hb hby at_99) rfl ?_
          show Steps p.tables e below (s₁.setTop (mkF m 101 #[.val (.int pa), .val (.int pb), .val (.int pf), .val (.int (1 : Int32)), .val (.int (0 : Int32)), .val (.double (FP.dneg (FP.i2d pa))), .second, .val (.double (FP.i2d pb)), .second, .val (.long (-pa.toInt64)), .second, .val (.long pb.toInt64), .second, .unset, .unset, .unset, .unset] [(.long pb.toInt64), (.long (-pa.toInt64))])) _
          refine XT.lcmp X0.here hx rfl (hb hby at_101) rfl ?_
          exact kt
        by_cases hc102_32 : pb.toInt64 < (-pa.toInt64)
        · obtain ⟨_, _, ⟨T33, L33, k33, n33⟩, -, X33, ⟨Lc33, hQ33, l33, y33, z33⟩, st33⟩ := Jvm.LawKit.callS X0 hx (y := (⟨"com/example/adjudica/adjudica/engine/Arithmetic", "sign", "(DD)D"⟩ : MethodName)) hown (mvT hZ (hw _ (List.mem_of_getElem? (i := 0) rfl))) (mvT hZ (hw _ (List.mem_of_getElem? (i := 1) rfl))) (mvT hZ (hw _ (List.mem_of_getElem? (i := 2) rfl))) (mvT hZ (hw _ (List.mem_of_getElem? (i := 3) rfl))) (by decide) (backOf (W := 0) (rm1 l Z a0 hw [] (FP.dneg (FP.i2d pa)) (FP.i2d pb) h0 n0 Z0) hZ (hw _ (List.mem_of_getElem? (i := 3) rfl)) (hw _ (List.mem_of_getElem? (i := 2) rfl)) (by decide) (by decide)) (g := (mkF m 118 #[.val (.int pa), .val (.int pb), .val (.int pf), .val (.int (1 : Int32)), .val (.int (0 : Int32)), .val (.double (FP.dneg (FP.i2d pa))), .second, .val (.double (FP.i2d pb)), .second, .val (.long (-pa.toInt64)), .second, .val (.long pb.toInt64), .second, .val (.double FP.dconst1), .second, .unset, .unset] [(.double (FP.i2d pb)), (.double (FP.dneg (FP.i2d pa)))])) rfl (by rw [hml]; rfl) (argsL := [(.double (FP.dneg (FP.i2d pa))), (.double (FP.i2d pb))]) (rest := []) (lenOf pd0_0 rfl) rfl (by show 2 * 0 + _ ≤ _; exact Nat.le_of_eq rfl) (hb hby at_118) (fun _ _ => ⟨rfl, e0, (by decide : 0 + 0 ≤ _), (by decide : 0 + 0 ≤ _)⟩)
          dsimp only [Pt.U, Pt.locs, Pt.cells, Pt.slots] at X33 l33 y33 z33 st33 hQ33
          subst l33 y33 z33
          obtain ⟨rfl, N33q, e33⟩ := hQ33
          have N33 := Fr.app N0 N33q
          have pre34 : ∀ t, Steps p.tables e below (T33.setTop (mkF m 136 #[.val (.int pa), .val (.int pb), .val (.int pf), .val (.int (1 : Int32)), .val (.int (0 : Int32)), .val (.double (FP.dneg (FP.i2d pa))), .second, .val (.double (FP.i2d pb)), .second, .val (.long (-pa.toInt64)), .second, .val (.long pb.toInt64), .second, .val (.double FP.dconst1), .second, .val (.double (sgF (FP.dneg (FP.i2d pa)) (FP.i2d pb))), .second] [(.int (1 : Int32))])) t → Steps p.tables e below (s₁.setTop (entryFrame m #[(.int pa), (.int pb), (.int pf)] maxLocals)) t := by
            intro t kt
            refine pre31 _ ?_
            show Steps p.tables e below (s₁.setTop (mkF m 102 #[.val (.int pa), .val (.int pb), .val (.int pf), .val (.int (1 : Int32)), .val (.int (0 : Int32)), .val (.double (FP.dneg (FP.i2d pa))), .second, .val (.double (FP.i2d pb)), .second, .val (.long (-pa.toInt64)), .second, .val (.long pb.toInt64), .second, .unset, .unset, .unset, .unset] [(.int (XT.cmpL (-pa.toInt64) pb.toInt64))])) _
            refine XS.ifNo X0.here hx rfl (hb hby at_102) rfl (XT.ll_le_f hc102_32) ?_
            show Steps p.tables e below (s₁.setTop (mkF m 105 #[.val (.int pa), .val (.int pb), .val (.int pf), .val (.int (1 : Int32)), .val (.int (0 : Int32)), .val (.double (FP.dneg (FP.i2d pa))), .second, .val (.double (FP.i2d pb)), .second, .val (.long (-pa.toInt64)), .second, .val (.long pb.toInt64), .second, .unset, .unset, .unset, .unset] [])) _
            refine XS.dconst1 X0.here hx rfl (hb hby at_105) rfl ?_
            show Steps p.tables e below (s₁.setTop (mkF m 106 #[.val (.int pa), .val (.int pb), .val (.int pf), .val (.int (1 : Int32)), .val (.int (0 : Int32)), .val (.double (FP.dneg (FP.i2d pa))), .second, .val (.double (FP.i2d pb)), .second, .val (.long (-pa.toInt64)), .second, .val (.long pb.toInt64), .second, .unset, .unset, .unset, .unset] [(.double FP.dconst1)])) _
            refine XS.dstore X0.here hx rfl (hb hby at_106) rfl (l' := #[.val (.int pa), .val (.int pb), .val (.int pf), .val (.int (1 : Int32)), .val (.int (0 : Int32)), .val (.double (FP.dneg (FP.i2d pa))), .second, .val (.double (FP.i2d pb)), .second, .val (.long (-pa.toInt64)), .second, .val (.long pb.toInt64), .second, .val (.double FP.dconst1), .second, .unset, .unset]) rfl ?_
            show Steps p.tables e below (s₁.setTop (mkF m 108 #[.val (.int pa), .val (.int pb), .val (.int pf), .val (.int (1 : Int32)), .val (.int (0 : Int32)), .val (.double (FP.dneg (FP.i2d pa))), .second, .val (.double (FP.i2d pb)), .second, .val (.long (-pa.toInt64)), .second, .val (.long pb.toInt64), .second, .val (.double FP.dconst1), .second, .unset, .unset] [])) _
            refine XS.goto X0.here hx rfl (pc0 := 108) (pc' := 114) rfl (hb hby at_108) (by decide) (by decide) ?_
            show Steps p.tables e below (s₁.setTop (mkF m 114 #[.val (.int pa), .val (.int pb), .val (.int pf), .val (.int (1 : Int32)), .val (.int (0 : Int32)), .val (.double (FP.dneg (FP.i2d pa))), .second, .val (.double (FP.i2d pb)), .second, .val (.long (-pa.toInt64)), .second, .val (.long pb.toInt64), .second, .val (.double FP.dconst1), .second, .unset, .unset] [])) _
            refine XS.dload X0.here hx rfl (hb hby at_114) rfl ?_
            show Steps p.tables e below (s₁.setTop (mkF m 116 #[.val (.int pa), .val (.int pb), .val (.int pf), .val (.int (1 : Int32)), .val (.int (0 : Int32)), .val (.double (FP.dneg (FP.i2d pa))), .second, .val (.double (FP.i2d pb)), .second, .val (.long (-pa.toInt64)), .second, .val (.long pb.toInt64), .second, .val (.double FP.dconst1), .second, .unset, .unset] [(.double (FP.dneg (FP.i2d pa)))])) _
            refine XS.dload X0.here hx rfl (hb hby at_116) rfl ?_
            show Steps p.tables e below (s₁.setTop (mkF m 118 #[.val (.int pa), .val (.int pb), .val (.int pf), .val (.int (1 : Int32)), .val (.int (0 : Int32)), .val (.double (FP.dneg (FP.i2d pa))), .second, .val (.double (FP.i2d pb)), .second, .val (.long (-pa.toInt64)), .second, .val (.long pb.toInt64), .second, .val (.double FP.dconst1), .second, .unset, .unset] [(.double (FP.i2d pb)), (.double (FP.dneg (FP.i2d pa)))])) _
            refine st33 _ ?_
            show Steps p.tables e below (T33.setTop (mkF m 121 #[.val (.int pa), .val (.int pb), .val (.int pf), .val (.int (1 : Int32)), .val (.int (0 : Int32)), .val (.double (FP.dneg (FP.i2d pa))), .second, .val (.double (FP.i2d pb)), .second, .val (.long (-pa.toInt64)), .second, .val (.long pb.toInt64), .second, .val (.double FP.dconst1), .second, .unset, .unset] [(.double (sgF (FP.dneg (FP.i2d pa)) (FP.i2d pb)))])) _
            refine XS.dstore X33.here hx rfl (hb hby at_121) rfl (l' := #[.val (.int pa), .val (.int pb), .val (.int pf), .val (.int (1 : Int32)), .val (.int (0 : Int32)), .val (.double (FP.dneg (FP.i2d pa))), .second, .val (.double (FP.i2d pb)), .second, .val (.long (-pa.toInt64)), .second, .val (.long pb.toInt64), .second, .val (.double FP.dconst1), .second, .val (.double (sgF (FP.dneg (FP.i2d pa)) (FP.i2d pb))), .second]) rfl ?_
            show Steps p.tables e below (T33.setTop (mkF m 123 #[.val (.int pa), .val (.int pb), .val (.int pf), .val (.int (1 : Int32)), .val (.int (0 : Int32)), .val (.double (FP.dneg (FP.i2d pa))), .second, .val (.double (FP.i2d pb)), .second, .val (.long (-pa.toInt64)), .second, .val (.long pb.toInt64), .second, .val (.double FP.dconst1), .second, .val (.double (sgF (FP.dneg (FP.i2d pa)) (FP.i2d pb))), .second] [])) _
            refine XS.dload X33.here hx rfl (hb hby at_123) rfl ?_
            show Steps p.tables e below (T33.setTop (mkF m 125 #[.val (.int pa), .val (.int pb), .val (.int pf), .val (.int (1 : Int32)), .val (.int (0 : Int32)), .val (.double (FP.dneg (FP.i2d pa))), .second, .val (.double (FP.i2d pb)), .second, .val (.long (-pa.toInt64)), .second, .val (.long pb.toInt64), .second, .val (.double FP.dconst1), .second, .val (.double (sgF (FP.dneg (FP.i2d pa)) (FP.i2d pb))), .second] [(.double (sgF (FP.dneg (FP.i2d pa)) (FP.i2d pb)))])) _
            refine XS.dload X33.here hx rfl (hb hby at_125) rfl ?_
            show Steps p.tables e below (T33.setTop (mkF m 127 #[.val (.int pa), .val (.int pb), .val (.int pf), .val (.int (1 : Int32)), .val (.int (0 : Int32)), .val (.double (FP.dneg (FP.i2d pa))), .second, .val (.double (FP.i2d pb)), .second, .val (.long (-pa.toInt64)), .second, .val (.long pb.toInt64), .second, .val (.double FP.dconst1), .second, .val (.double (sgF (FP.dneg (FP.i2d pa)) (FP.i2d pb))), .second] [(.double FP.dconst1), (.double (sgF (FP.dneg (FP.i2d pa)) (FP.i2d pb)))])) _
            refine XS.dcmpS X33.here hx rfl (hb hby at_127) rfl rfl ?_
            show Steps p.tables e below (T33.setTop (mkF m 128 #[.val (.int pa), .val (.int pb), .val (.int pf), .val (.int (1 : Int32)), .val (.int (0 : Int32)), .val (.double (FP.dneg (FP.i2d pa))), .second, .val (.double (FP.i2d pb)), .second, .val (.long (-pa.toInt64)), .second, .val (.long pb.toInt64), .second, .val (.double FP.dconst1), .second, .val (.double (sgF (FP.dneg (FP.i2d pa)) (FP.i2d pb))), .second] [(.int (cmpValue (FP.dcmp (sgF (FP.dneg (FP.i2d pa)) (FP.i2d pb)) FP.dconst1) .l))])) _
            refine XS.ifNo X33.here hx rfl (hb hby at_128) rfl (XT.i0_ne_f (by rw [own_sg_gt (own_dneg (own_i2d pa)) (own_i2d pb) (by have q := Int64.lt_iff_toInt_lt.mp hc102_32; rw [own_i2l pb, own_i2ln pa] at q; exact q)]; exact own_same _ (Or.inr (Or.inl rfl)))) ?_
            show Steps p.tables e below (T33.setTop (mkF m 131 #[.val (.int pa), .val (.int pb), .val (.int pf), .val (.int (1 : Int32)), .val (.int (0 : Int32)), .val (.double (FP.dneg (FP.i2d pa))), .second, .val (.double (FP.i2d pb)), .second, .val (.long (-pa.toInt64)), .second, .val (.long pb.toInt64), .second, .val (.double FP.dconst1), .second, .val (.double (sgF (FP.dneg (FP.i2d pa)) (FP.i2d pb))), .second] [])) _
            refine XS.iconst X33.here hx rfl (hb hby at_131) ?_
            show Steps p.tables e below (T33.setTop (mkF m 132 #[.val (.int pa), .val (.int pb), .val (.int pf), .val (.int (1 : Int32)), .val (.int (0 : Int32)), .val (.double (FP.dneg (FP.i2d pa))), .second, .val (.double (FP.i2d pb)), .second, .val (.long (-pa.toInt64)), .second, .val (.long pb.toInt64), .second, .val (.double FP.dconst1), .second, .val (.double (sgF (FP.dneg (FP.i2d pa)) (FP.i2d pb))), .second] [(.int (1 : Int32))])) _
            refine XS.goto X33.here hx rfl (pc0 := 132) (pc' := 136) rfl (hb hby at_132) (by decide) (by decide) ?_
            exact kt
          obtain ⟨fs, hr, hrun, hended, hW, hsame⟩ := X33.leave (v := some (.int (1 : Int32))) (fun h => by rw [Bd.returns] at h; cases h)
          refine ⟨_, _, pre34 _ ?_, hrun, hended, _, _, rfl, ?_, ⟨_, rfl⟩, hW, hsame.mono (by decide) (by decide)⟩
          · show Steps p.tables e below (T33.setTop (mkF m 136 #[.val (.int pa), .val (.int pb), .val (.int pf), .val (.int (1 : Int32)), .val (.int (0 : Int32)), .val (.double (FP.dneg (FP.i2d pa))), .second, .val (.double (FP.i2d pb)), .second, .val (.long (-pa.toInt64)), .second, .val (.long pb.toInt64), .second, .val (.double FP.dconst1), .second, .val (.double (sgF (FP.dneg (FP.i2d pa)) (FP.i2d pb))), .second] [(.int (1 : Int32))])) _
            exact retN X33 hx (t := .boolean) Bd.returns (by simp) (hb hby at_136) hr
          · show Q1 Z (.int 1) h0 n0 _ T33.heap _
            rw [e33]
            exact ⟨rfl, N33, rfl⟩
        · obtain ⟨_, _, ⟨T35, L35, k35, n35⟩, -, X35, ⟨Lc35, hQ35, l35, y35, z35⟩, st35⟩ := Jvm.LawKit.callS X0 hx (y := (⟨"com/example/adjudica/adjudica/engine/Arithmetic", "sign", "(DD)D"⟩ : MethodName)) hown (mvT hZ (hw _ (List.mem_of_getElem? (i := 0) rfl))) (mvT hZ (hw _ (List.mem_of_getElem? (i := 1) rfl))) (mvT hZ (hw _ (List.mem_of_getElem? (i := 2) rfl))) (mvT hZ (hw _ (List.mem_of_getElem? (i := 3) rfl))) (by decide) (backOf (W := 0) (rm1 l Z a0 hw [] (FP.dneg (FP.i2d pa)) (FP.i2d pb) h0 n0 Z0) hZ (hw _ (List.mem_of_getElem? (i := 3) rfl)) (hw _ (List.mem_of_getElem? (i := 2) rfl)) (by decide) (by decide)) (g := (mkF m 118 #[.val (.int pa), .val (.int pb), .val (.int pf), .val (.int (1 : Int32)), .val (.int (0 : Int32)), .val (.double (FP.dneg (FP.i2d pa))), .second, .val (.double (FP.i2d pb)), .second, .val (.long (-pa.toInt64)), .second, .val (.long pb.toInt64), .second, .val (.double FP.dconst0), .second, .unset, .unset] [(.double (FP.i2d pb)), (.double (FP.dneg (FP.i2d pa)))])) rfl (by rw [hml]; rfl) (argsL := [(.double (FP.dneg (FP.i2d pa))), (.double (FP.i2d pb))]) (rest := []) (lenOf pd0_0 rfl) rfl (by show 2 * 0 + _ ≤ _; exact Nat.le_of_eq rfl) (hb hby at_118) (fun _ _ => ⟨rfl, e0, (by decide : 0 + 0 ≤ _), (by decide : 0 + 0 ≤ _)⟩)
          dsimp only [Pt.U, Pt.locs, Pt.cells, Pt.slots] at X35 l35 y35 z35 st35 hQ35
          subst l35 y35 z35
          obtain ⟨rfl, N35q, e35⟩ := hQ35
          have N35 := Fr.app N0 N35q
          have pre36 : ∀ t, Steps p.tables e below (T35.setTop (mkF m 136 #[.val (.int pa), .val (.int pb), .val (.int pf), .val (.int (1 : Int32)), .val (.int (0 : Int32)), .val (.double (FP.dneg (FP.i2d pa))), .second, .val (.double (FP.i2d pb)), .second, .val (.long (-pa.toInt64)), .second, .val (.long pb.toInt64), .second, .val (.double FP.dconst0), .second, .val (.double (sgF (FP.dneg (FP.i2d pa)) (FP.i2d pb))), .second] [(.int (1 : Int32))])) t → Steps p.tables e below (s₁.setTop (entryFrame m #[(.int pa), (.int pb), (.int pf)] maxLocals)) t := by
            intro t kt
            refine pre31 _ ?_
            show Steps p.tables e below (s₁.setTop (mkF m 102 #[.val (.int pa), .val (.int pb), .val (.int pf), .val (.int (1 : Int32)), .val (.int (0 : Int32)), .val (.double (FP.dneg (FP.i2d pa))), .second, .val (.double (FP.i2d pb)), .second, .val (.long (-pa.toInt64)), .second, .val (.long pb.toInt64), .second, .unset, .unset, .unset, .unset] [(.int (XT.cmpL (-pa.toInt64) pb.toInt64))])) _
            refine XS.ifYes X0.here hx rfl (pc0 := 102) (pc' := 111) rfl (hb hby at_102) rfl (XT.ll_le_t hc102_32) (by decide) (by decide) ?_
            show Steps p.tables e below (s₁.setTop (mkF m 111 #[.val (.int pa), .val (.int pb), .val (.int pf), .val (.int (1 : Int32)), .val (.int (0 : Int32)), .val (.double (FP.dneg (FP.i2d pa))), .second, .val (.double (FP.i2d pb)), .second, .val (.long (-pa.toInt64)), .second, .val (.long pb.toInt64), .second, .unset, .unset, .unset, .unset] [])) _
            refine XS.dconst0 X0.here hx rfl (hb hby at_111) rfl ?_
            show Steps p.tables e below (s₁.setTop (mkF m 112 #[.val (.int pa), .val (.int pb), .val (.int pf), .val (.int (1 : Int32)), .val (.int (0 : Int32)), .val (.double (FP.dneg (FP.i2d pa))), .second, .val (.double (FP.i2d pb)), .second, .val (.long (-pa.toInt64)), .second, .val (.long pb.toInt64), .second, .unset, .unset, .unset, .unset] [(.double FP.dconst0)])) _
            refine XS.dstore X0.here hx rfl (hb hby at_112) rfl (l' := #[.val (.int pa), .val (.int pb), .val (.int pf), .val (.int (1 : Int32)), .val (.int (0 : Int32)), .val (.double (FP.dneg (FP.i2d pa))), .second, .val (.double (FP.i2d pb)), .second, .val (.long (-pa.toInt64)), .second, .val (.long pb.toInt64), .second, .val (.double FP.dconst0), .second, .unset, .unset]) rfl ?_
            show Steps p.tables e below (s₁.setTop (mkF m 114 #[.val (.int pa), .val (.int pb), .val (.int pf), .val (.int (1 : Int32)), .val (.int (0 : Int32)), .val (.double (FP.dneg (FP.i2d pa))), .second, .val (.double (FP.i2d pb)), .second, .val (.long (-pa.toInt64)), .second, .val (.long pb.toInt64), .second, .val (.double FP.dconst0), .second, .unset, .unset] [])) _
            refine XS.dload X0.here hx rfl (hb hby at_114) rfl ?_
            show Steps p.tables e below (s₁.setTop (mkF m 116 #[.val (.int pa), .val (.int pb), .val (.int pf), .val (.int (1 : Int32)), .val (.int (0 : Int32)), .val (.double (FP.dneg (FP.i2d pa))), .second, .val (.double (FP.i2d pb)), .second, .val (.long (-pa.toInt64)), .second, .val (.long pb.toInt64), .second, .val (.double FP.dconst0), .second, .unset, .unset] [(.double (FP.dneg (FP.i2d pa)))])) _
            refine XS.dload X0.here hx rfl (hb hby at_116) rfl ?_
            show Steps p.tables e below (s₁.setTop (mkF m 118 #[.val (.int pa), .val (.int pb), .val (.int pf), .val (.int (1 : Int32)), .val (.int (0 : Int32)), .val (.double (FP.dneg (FP.i2d pa))), .second, .val (.double (FP.i2d pb)), .second, .val (.long (-pa.toInt64)), .second, .val (.long pb.toInt64), .second, .val (.double FP.dconst0), .second, .unset, .unset] [(.double (FP.i2d pb)), (.double (FP.dneg (FP.i2d pa)))])) _
            refine st35 _ ?_
            show Steps p.tables e below (T35.setTop (mkF m 121 #[.val (.int pa), .val (.int pb), .val (.int pf), .val (.int (1 : Int32)), .val (.int (0 : Int32)), .val (.double (FP.dneg (FP.i2d pa))), .second, .val (.double (FP.i2d pb)), .second, .val (.long (-pa.toInt64)), .second, .val (.long pb.toInt64), .second, .val (.double FP.dconst0), .second, .unset, .unset] [(.double (sgF (FP.dneg (FP.i2d pa)) (FP.i2d pb)))])) _
            refine XS.dstore X35.here hx rfl (hb hby at_121) rfl (l' := #[.val (.int pa), .val (.int pb), .val (.int pf), .val (.int (1 : Int32)), .val (.int (0 : Int32)), .val (.double (FP.dneg (FP.i2d pa))), .second, .val (.double (FP.i2d pb)), .second, .val (.long (-pa.toInt64)), .second, .val (.long pb.toInt64), .second, .val (.double FP.dconst0), .second, .val (.double (sgF (FP.dneg (FP.i2d pa)) (FP.i2d pb))), .second]) rfl ?_
            show Steps p.tables e below (T35.setTop (mkF m 123 #[.val (.int pa), .val (.int pb), .val (.int pf), .val (.int (1 : Int32)), .val (.int (0 : Int32)), .val (.double (FP.dneg (FP.i2d pa))), .second, .val (.double (FP.i2d pb)), .second, .val (.long (-pa.toInt64)), .second, .val (.long pb.toInt64), .second, .val (.double FP.dconst0), .second, .val (.double (sgF (FP.dneg (FP.i2d pa)) (FP.i2d pb))), .second] [])) _
            refine XS.dload X35.here hx rfl (hb hby at_123) rfl ?_
            show Steps p.tables e below (T35.setTop (mkF m 125 #[.val (.int pa), .val (.int pb), .val (.int pf), .val (.int (1 : Int32)), .val (.int (0 : Int32)), .val (.double (FP.dneg (FP.i2d pa))), .second, .val (.double (FP.i2d pb)), .second, .val (.long (-pa.toInt64)), .second, .val (.long pb.toInt64), .second, .val (.double FP.dconst0), .second, .val (.double (sgF (FP.dneg (FP.i2d pa)) (FP.i2d pb))), .second] [(.double (sgF (FP.dneg (FP.i2d pa)) (FP.i2d pb)))])) _
            refine XS.dload X35.here hx rfl (hb hby at_125) rfl ?_
            show Steps p.tables e below (T35.setTop (mkF m 127 #[.val (.int pa), .val (.int pb), .val (.int pf), .val (.int (1 : Int32)), .val (.int (0 : Int32)), .val (.double (FP.dneg (FP.i2d pa))), .second, .val (.double (FP.i2d pb)), .second, .val (.long (-pa.toInt64)), .second, .val (.long pb.toInt64), .second, .val (.double FP.dconst0), .second, .val (.double (sgF (FP.dneg (FP.i2d pa)) (FP.i2d pb))), .second] [(.double FP.dconst0), (.double (sgF (FP.dneg (FP.i2d pa)) (FP.i2d pb)))])) _
            refine XS.dcmpS X35.here hx rfl (hb hby at_127) rfl rfl ?_
            show Steps p.tables e below (T35.setTop (mkF m 128 #[.val (.int pa), .val (.int pb), .val (.int pf), .val (.int (1 : Int32)), .val (.int (0 : Int32)), .val (.double (FP.dneg (FP.i2d pa))), .second, .val (.double (FP.i2d pb)), .second, .val (.long (-pa.toInt64)), .second, .val (.long pb.toInt64), .second, .val (.double FP.dconst0), .second, .val (.double (sgF (FP.dneg (FP.i2d pa)) (FP.i2d pb))), .second] [(.int (cmpValue (FP.dcmp (sgF (FP.dneg (FP.i2d pa)) (FP.i2d pb)) FP.dconst0) .l))])) _
            refine XS.ifNo X35.here hx rfl (hb hby at_128) rfl (XT.i0_ne_f (by rw [own_sg_eq (own_dneg (own_i2d pa)) (own_i2d pb) (by have q := mt Int64.lt_iff_toInt_lt.mpr hc86_28; have q2 := mt Int64.lt_iff_toInt_lt.mpr hc102_32; rw [own_i2ln pa, own_i2l pb] at q; rw [own_i2l pb, own_i2ln pa] at q2; omega)]; exact own_same _ (Or.inr (Or.inr rfl)))) ?_
            show Steps p.tables e below (T35.setTop (mkF m 131 #[.val (.int pa), .val (.int pb), .val (.int pf), .val (.int (1 : Int32)), .val (.int (0 : Int32)), .val (.double (FP.dneg (FP.i2d pa))), .second, .val (.double (FP.i2d pb)), .second, .val (.long (-pa.toInt64)), .second, .val (.long pb.toInt64), .second, .val (.double FP.dconst0), .second, .val (.double (sgF (FP.dneg (FP.i2d pa)) (FP.i2d pb))), .second] [])) _
            refine XS.iconst X35.here hx rfl (hb hby at_131) ?_
            show Steps p.tables e below (T35.setTop (mkF m 132 #[.val (.int pa), .val (.int pb), .val (.int pf), .val (.int (1 : Int32)), .val (.int (0 : Int32)), .val (.double (FP.dneg (FP.i2d pa))), .second, .val (.double (FP.i2d pb)), .second, .val (.long (-pa.toInt64)), .second, .val (.long pb.toInt64), .second, .val (.double FP.dconst0), .second, .val (.double (sgF (FP.dneg (FP.i2d pa)) (FP.i2d pb))), .second] [(.int (1 : Int32))])) _
            refine XS.goto X35.here hx rfl (pc0 := 132) (pc' := 136) rfl (hb hby at_132) (by decide) (by decide) ?_
            exact kt
          obtain ⟨fs, hr, hrun, hended, hW, hsame⟩ := X35.leave (v := some (.int (1 : Int32))) (fun h => by rw [Bd.returns] at h; cases h)
          refine ⟨_, _, pre36 _ ?_, hrun, hended, _, _, rfl, ?_, ⟨_, rfl⟩, hW, hsame.mono (by decide) (by decide)⟩
          · show Steps p.tables e below (T35.setTop (mkF m 136 #[.val (.int pa), .val (.int pb), .val (.int pf), .val (.int (1 : Int32)), .val (.int (0 : Int32)), .val (.double (FP.dneg (FP.i2d pa))), .second, .val (.double (FP.i2d pb)), .second, .val (.long (-pa.toInt64)), .second, .val (.long pb.toInt64), .second, .val (.double FP.dconst0), .second, .val (.double (sgF (FP.dneg (FP.i2d pa)) (FP.i2d pb))), .second] [(.int (1 : Int32))])) _
            exact retN X35 hx (t := .boolean) Bd.returns (by simp) (hb hby at_136) hr
          · show Q1 Z (.int 1) h0 n0 _ T35.heap _
            rw [e35]
            exact ⟨rfl, N35, rfl⟩
    · have pre37 : ∀ t, Steps p.tables e below (s₁.setTop (mkF m 86 #[.val (.int pa), .val (.int pb), .val (.int pf), .val (.int (1 : Int32)), .val (.int (1 : Int32)), .val (.double (FP.dneg (FP.i2d pa))), .second, .val (.double (FP.dneg (FP.i2d pb))), .second, .val (.long (-pa.toInt64)), .second, .val (.long (-pb.toInt64)), .second, .unset, .unset, .unset, .unset] [(.int (XT.cmpL (-pa.toInt64) (-pb.toInt64)))])) t → Steps p.tables e below (s₁.setTop (entryFrame m #[(.int pa), (.int pb), (.int pf)] maxLocals)) t := by
        intro t kt
        refine pre25 _ ?_
        show Steps p.tables e below (s₁.setTop (mkF m 15 #[.val (.int pa), .val (.int pb), .val (.int pf), .val (.int (1 : Int32)), .unset, .unset, .unset, .unset, .unset, .unset, .unset, .unset, .unset, .unset, .unset, .unset, .unset] [(.int (pf &&& (2 : Int32)))])) _
        refine XS.ifNo X0.here hx rfl (hb hby at_15) rfl (XT.i0_eq_f hc15_26) ?_
        show Steps p.tables e below (s₁.setTop (mkF m 18 #[.val (.int pa), .val (.int pb), .val (.int pf), .val (.int (1 : Int32)), .unset, .unset, .unset, .unset, .unset, .unset, .unset, .unset, .unset, .unset, .unset, .unset, .unset] [])) _
        refine XS.iconst X0.here hx rfl (hb hby at_18) ?_
        show Steps p.tables e below (s₁.setTop (mkF m 19 #[.val (.int pa), .val (.int pb), .val (.int pf), .val (.int (1 : Int32)), .unset, .unset, .unset, .unset, .unset, .unset, .unset, .unset, .unset, .unset, .unset, .unset, .unset] [(.int (1 : Int32))])) _
        refine XS.goto X0.here hx rfl (pc0 := 19) (pc' := 23) rfl (hb hby at_19) (by decide) (by decide) ?_
        show Steps p.tables e below (s₁.setTop (mkF m 23 #[.val (.int pa), .val (.int pb), .val (.int pf), .val (.int (1 : Int32)), .unset, .unset, .unset, .unset, .unset, .unset, .unset, .unset, .unset, .unset, .unset, .unset, .unset] [(.int (1 : Int32))])) _
        refine XS.istore X0.here hx rfl (hb hby at_23) rfl (l' := #[.val (.int pa), .val (.int pb), .val (.int pf), .val (.int (1 : Int32)), .val (.int (1 : Int32)), .unset, .unset, .unset, .unset, .unset, .unset, .unset, .unset, .unset, .unset, .unset, .unset]) rfl ?_
        show Steps p.tables e below (s₁.setTop (mkF m 25 #[.val (.int pa), .val (.int pb), .val (.int pf), .val (.int (1 : Int32)), .val (.int (1 : Int32)), .unset, .unset, .unset, .unset, .unset, .unset, .unset, .unset, .unset, .unset, .unset, .unset] [])) _
        refine XS.iloadN X0.here hx rfl (hb hby at_25) rfl ?_
        show Steps p.tables e below (s₁.setTop (mkF m 26 #[.val (.int pa), .val (.int pb), .val (.int pf), .val (.int (1 : Int32)), .val (.int (1 : Int32)), .unset, .unset, .unset, .unset, .unset, .unset, .unset, .unset, .unset, .unset, .unset, .unset] [(.int pa)])) _
        refine XS.i2dS X0.here hx rfl (hb hby at_26) rfl rfl ?_
        show Steps p.tables e below (s₁.setTop (mkF m 27 #[.val (.int pa), .val (.int pb), .val (.int pf), .val (.int (1 : Int32)), .val (.int (1 : Int32)), .unset, .unset, .unset, .unset, .unset, .unset, .unset, .unset, .unset, .unset, .unset, .unset] [(.double (FP.i2d pa))])) _
        refine XS.dstore X0.here hx rfl (hb hby at_27) rfl (l' := #[.val (.int pa), .val (.int pb), .val (.int pf), .val (.int (1 : Int32)), .val (.int (1 : Int32)), .val (.double (FP.i2d pa)), .second, .unset, .unset, .unset, .unset, .unset, .unset, .unset, .unset, .unset, .unset]) rfl ?_
        show Steps p.tables e below (s₁.setTop (mkF m 29 #[.val (.int pa), .val (.int pb), .val (.int pf), .val (.int (1 : Int32)), .val (.int (1 : Int32)), .val (.double (FP.i2d pa)), .second, .unset, .unset, .unset, .unset, .unset, .unset, .unset, .unset, .unset, .unset] [])) _
        refine XS.iloadN X0.here hx rfl (hb hby at_29) rfl ?_
        show Steps p.tables e below (s₁.setTop (mkF m 30 #[.val (.int pa), .val (.int pb), .val (.int pf), .val (.int (1 : Int32)), .val (.int (1 : Int32)), .val (.double (FP.i2d pa)), .second, .unset, .unset, .unset, .unset, .unset, .unset, .unset, .unset, .unset, .unset] [(.int (1 : Int32))])) _
        refine XS.ifNo X0.here hx rfl (hb hby at_30) rfl (XT.i0_eq_f (by decide)) ?_
        show Steps p.tables e below (s₁.setTop (mkF m 33 #[.val (.int pa), .val (.int pb), .val (.int pf), .val (.int (1 : Int32)), .val (.int (1 : Int32)), .val (.double (FP.i2d pa)), .second, .unset, .unset, .unset, .unset, .unset, .unset, .unset, .unset, .unset, .unset] [])) _
        refine XS.dload X0.here hx rfl (hb hby at_33) rfl ?_
        show Steps p.tables e below (s₁.setTop (mkF m 35 #[.val (.int pa), .val (.int pb), .val (.int pf), .val (.int (1 : Int32)), .val (.int (1 : Int32)), .val (.double (FP.i2d pa)), .second, .unset, .unset, .unset, .unset, .unset, .unset, .unset, .unset, .unset, .unset] [(.double (FP.i2d pa))])) _
        refine XS.dnegS X0.here hx rfl (hb hby at_35) rfl rfl ?_
        show Steps p.tables e below (s₁.setTop (mkF m 36 #[.val (.int pa), .val (.int pb), .val (.int pf), .val (.int (1 : Int32)), .val (.int (1 : Int32)), .val (.double (FP.i2d pa)), .second, .unset, .unset, .unset, .unset, .unset, .unset, .unset, .unset, .unset, .unset] [(.double (FP.dneg (FP.i2d pa)))])) _
        refine XS.dstore X0.here hx rfl (hb hby at_36) rfl (l' := #[.val (.int pa), .val (.int pb), .val (.int pf), .val (.int (1 : Int32)), .val (.int (1 : Int32)), .val (.double (FP.dneg (FP.i2d pa))), .second, .unset, .unset, .unset, .unset, .unset, .unset, .unset, .unset, .unset, .unset]) rfl ?_
        show Steps p.tables e below (s₁.setTop (mkF m 38 #[.val (.int pa), .val (.int pb), .val (.int pf), .val (.int (1 : Int32)), .val (.int (1 : Int32)), .val (.double (FP.dneg (FP.i2d pa))), .second, .unset, .unset, .unset, .unset, .unset, .unset, .unset, .unset, .unset, .unset] [])) _
        refine XS.iloadN X0.here hx rfl (hb hby at_38) rfl ?_
        show Steps p.tables e below (s₁.setTop (mkF m 39 #[.val (.int pa), .val (.int pb), .val (.int pf), .val (.int (1 : Int32)), .val (.int (1 : Int32)), .val (.double (FP.dneg (FP.i2d pa))), .second, .unset, .unset, .unset, .unset, .unset, .unset, .unset, .unset, .unset, .unset] [(.int pb)])) _
        refine XS.i2dS X0.here hx rfl (hb hby at_39) rfl rfl ?_
        show Steps p.tables e below (s₁.setTop (mkF m 40 #[.val (.int pa), .val (.int pb), .val (.int pf), .val (.int (1 : Int32)), .val (.int (1 : Int32)), .val (.double (FP.dneg (FP.i2d pa))), .second, .unset, .unset, .unset, .unset, .unset, .unset, .unset, .unset, .unset, .unset] [(.double (FP.i2d pb))])) _
        refine XS.dstore X0.here hx rfl (hb hby at_40) rfl (l' := #[.val (.int pa), .val (.int pb), .val (.int pf), .val (.int (1 : Int32)), .val (.int (1 : Int32)), .val (.double (FP.dneg (FP.i2d pa))), .second, .val (.double (FP.i2d pb)), .second, .unset, .unset, .unset, .unset, .unset, .unset, .unset, .unset]) rfl ?_
        show Steps p.tables e below (s₁.setTop (mkF m 42 #[.val (.int pa), .val (.int pb), .val (.int pf), .val (.int (1 : Int32)), .val (.int (1 : Int32)), .val (.double (FP.dneg (FP.i2d pa))), .second, .val (.double (FP.i2d pb)), .second, .unset, .unset, .unset, .unset, .unset, .unset, .unset, .unset] [])) _
        refine XS.iload X0.here hx rfl (hb hby at_42) rfl ?_
        show Steps p.tables e below (s₁.setTop (mkF m 44 #[.val (.int pa), .val (.int pb), .val (.int pf), .val (.int (1 : Int32)), .val (.int (1 : Int32)), .val (.double (FP.dneg (FP.i2d pa))), .second, .val (.double (FP.i2d pb)), .second, .unset, .unset, .unset, .unset, .unset, .unset, .unset, .unset] [(.int (1 : Int32))])) _
        refine XS.ifNo X0.here hx rfl (hb hby at_44) rfl (XT.i0_eq_f (by decide)) ?_
        show Steps p.tables e below (s₁.setTop (mkF m 47 #[.val (.int pa), .val (.int pb), .val (.int pf), .val (.int (1 : Int32)), .val (.int (1 : Int32)), .val (.double (FP.dneg (FP.i2d pa))), .second, .val (.double (FP.i2d pb)), .second, .unset, .unset, .unset, .unset, .unset, .unset, .unset, .unset] [])) _
        refine XS.dload X0.here hx rfl (hb hby at_47) rfl ?_
        show Steps p.tables e below (s₁.setTop (mkF m 49 #[.val (.int pa), .val (.int pb), .val (.int pf), .val (.int (1 : Int32)), .val (.int (1 : Int32)), .val (.double (FP.dneg (FP.i2d pa))), .second, .val (.double (FP.i2d pb)), .second, .unset, .unset, .unset, .unset, .unset, .unset, .unset, .unset] [(.double (FP.i2d pb))])) _
        refine XS.dnegS X0.here hx rfl (hb hby at_49) rfl rfl ?_
        show Steps p.tables e below (s₁.setTop (mkF m 50 #[.val (.int pa), .val (.int pb), .val (.int pf), .val (.int (1 : Int32)), .val (.int (1 : Int32)), .val (.double (FP.dneg (FP.i2d pa))), .second, .val (.double (FP.i2d pb)), .second, .unset, .unset, .unset, .unset, .unset, .unset, .unset, .unset] [(.double (FP.dneg (FP.i2d pb)))])) _
        refine XS.dstore X0.here hx rfl (hb hby at_50) rfl (l' := #[.val (.int pa), .val (.int pb), .val (.int pf), .val (.int (1 : Int32)), .val (.int (1 : Int32)), .val (.double (FP.dneg (FP.i2d pa))), .second, .val (.double (FP.dneg (FP.i2d pb))), .second, .unset, .unset, .unset, .unset, .unset, .unset, .unset, .unset]) rfl ?_
        show Steps p.tables e below (s₁.setTop (mkF m 52 #[.val (.int pa), .val (.int pb), .val (.int pf), .val (.int (1 : Int32)), .val (.int (1 : Int32)), .val (.double (FP.dneg (FP.i2d pa))), .second, .val (.double (FP.dneg (FP.i2d pb))), .second, .unset, .unset, .unset, .unset, .unset, .unset, .unset, .unset] [])) _
        refine XS.iloadN X0.here hx rfl (hb hby at_52) rfl ?_
        show Steps p.tables e below (s₁.setTop (mkF m 53 #[.val (.int pa), .val (.int pb), .val (.int pf), .val (.int (1 : Int32)), .val (.int (1 : Int32)), .val (.double (FP.dneg (FP.i2d pa))), .second, .val (.double (FP.dneg (FP.i2d pb))), .second, .unset, .unset, .unset, .unset, .unset, .unset, .unset, .unset] [(.int (1 : Int32))])) _
        refine XS.ifNo X0.here hx rfl (hb hby at_53) rfl (XT.i0_eq_f (by decide)) ?_
        show Steps p.tables e below (s₁.setTop (mkF m 56 #[.val (.int pa), .val (.int pb), .val (.int pf), .val (.int (1 : Int32)), .val (.int (1 : Int32)), .val (.double (FP.dneg (FP.i2d pa))), .second, .val (.double (FP.dneg (FP.i2d pb))), .second, .unset, .unset, .unset, .unset, .unset, .unset, .unset, .unset] [])) _
        refine XS.iloadN X0.here hx rfl (hb hby at_56) rfl ?_
        show Steps p.tables e below (s₁.setTop (mkF m 57 #[.val (.int pa), .val (.int pb), .val (.int pf), .val (.int (1 : Int32)), .val (.int (1 : Int32)), .val (.double (FP.dneg (FP.i2d pa))), .second, .val (.double (FP.dneg (FP.i2d pb))), .second, .unset, .unset, .unset, .unset, .unset, .unset, .unset, .unset] [(.int pa)])) _
        refine XS.i2l X0.here hx rfl (hb hby at_57) rfl ?_
        show Steps p.tables e below (s₁.setTop (mkF m 58 #[.val (.int pa), .val (.int pb), .val (.int pf), .val (.int (1 : Int32)), .val (.int (1 : Int32)), .val (.double (FP.dneg (FP.i2d pa))), .second, .val (.double (FP.dneg (FP.i2d pb))), .second, .unset, .unset, .unset, .unset, .unset, .unset, .unset, .unset] [(.long pa.toInt64)])) _
        refine XS.lneg X0.here hx rfl (hb hby at_58) rfl ?_
        show Steps p.tables e below (s₁.setTop (mkF m 59 #[.val (.int pa), .val (.int pb), .val (.int pf), .val (.int (1 : Int32)), .val (.int (1 : Int32)), .val (.double (FP.dneg (FP.i2d pa))), .second, .val (.double (FP.dneg (FP.i2d pb))), .second, .unset, .unset, .unset, .unset, .unset, .unset, .unset, .unset] [(.long (-pa.toInt64))])) _
        refine XS.goto X0.here hx rfl (pc0 := 59) (pc' := 64) rfl (hb hby at_59) (by decide) (by decide) ?_
        show Steps p.tables e below (s₁.setTop (mkF m 64 #[.val (.int pa), .val (.int pb), .val (.int pf), .val (.int (1 : Int32)), .val (.int (1 : Int32)), .val (.double (FP.dneg (FP.i2d pa))), .second, .val (.double (FP.dneg (FP.i2d pb))), .second, .unset, .unset, .unset, .unset, .unset, .unset, .unset, .unset] [(.long (-pa.toInt64))])) _
        refine XS.lstore X0.here hx rfl (hb hby at_64) rfl (l' := #[.val (.int pa), .val (.int pb), .val (.int pf), .val (.int (1 : Int32)), .val (.int (1 : Int32)), .val (.double (FP.dneg (FP.i2d pa))), .second, .val (.double (FP.dneg (FP.i2d pb))), .second, .val (.long (-pa.toInt64)), .second, .unset, .unset, .unset, .unset, .unset, .unset]) rfl ?_
        show Steps p.tables e below (s₁.setTop (mkF m 66 #[.val (.int pa), .val (.int pb), .val (.int pf), .val (.int (1 : Int32)), .val (.int (1 : Int32)), .val (.double (FP.dneg (FP.i2d pa))), .second, .val (.double (FP.dneg (FP.i2d pb))), .second, .val (.long (-pa.toInt64)), .second, .unset, .unset, .unset, .unset, .unset, .unset] [])) _
        refine XS.iload X0.here hx rfl (hb hby at_66) rfl ?_
        show Steps p.tables e below (s₁.setTop (mkF m 68 #[.val (.int pa), .val (.int pb), .val (.int pf), .val (.int (1 : Int32)), .val (.int (1 : Int32)), .val (.double (FP.dneg (FP.i2d pa))), .second, .val (.double (FP.dneg (FP.i2d pb))), .second, .val (.long (-pa.toInt64)), .second, .unset, .unset, .unset, .unset, .unset, .unset] [(.int (1 : Int32))])) _
        refine XS.ifNo X0.here hx rfl (hb hby at_68) rfl (XT.i0_eq_f (by decide)) ?_
        show Steps p.tables e below (s₁.setTop (mkF m 71 #[.val (.int pa), .val (.int pb), .val (.int pf), .val (.int (1 : Int32)), .val (.int (1 : Int32)), .val (.double (FP.dneg (FP.i2d pa))), .second, .val (.double (FP.dneg (FP.i2d pb))), .second, .val (.long (-pa.toInt64)), .second, .unset, .unset, .unset, .unset, .unset, .unset] [])) _
        refine XS.iloadN X0.here hx rfl (hb hby at_71) rfl ?_
        show Steps p.tables e below (s₁.setTop (mkF m 72 #[.val (.int pa), .val (.int pb), .val (.int pf), .val (.int (1 : Int32)), .val (.int (1 : Int32)), .val (.double (FP.dneg (FP.i2d pa))), .second, .val (.double (FP.dneg (FP.i2d pb))), .second, .val (.long (-pa.toInt64)), .second, .unset, .unset, .unset, .unset, .unset, .unset] [(.int pb)])) _
        refine XS.i2l X0.here hx rfl (hb hby at_72) rfl ?_
        show Steps p.tables e below (s₁.setTop (mkF m 73 #[.val (.int pa), .val (.int pb), .val (.int pf), .val (.int (1 : Int32)), .val (.int (1 : Int32)), .val (.double (FP.dneg (FP.i2d pa))), .second, .val (.double (FP.dneg (FP.i2d pb))), .second, .val (.long (-pa.toInt64)), .second, .unset, .unset, .unset, .unset, .unset, .unset] [(.long pb.toInt64)])) _
        refine XS.lneg X0.here hx rfl (hb hby at_73) rfl ?_
        show Steps p.tables e below (s₁.setTop (mkF m 74 #[.val (.int pa), .val (.int pb), .val (.int pf), .val (.int (1 : Int32)), .val (.int (1 : Int32)), .val (.double (FP.dneg (FP.i2d pa))), .second, .val (.double (FP.dneg (FP.i2d pb))), .second, .val (.long (-pa.toInt64)), .second, .unset, .unset, .unset, .unset, .unset, .unset] [(.long (-pb.toInt64))])) _
        refine XS.goto X0.here hx rfl (pc0 := 74) (pc' := 79) rfl (hb hby at_74) (by decide) (by decide) ?_
        show Steps p.tables e below (s₁.setTop (mkF m 79 #[.val (.int pa), .val (.int pb), .val (.int pf), .val (.int (1 : Int32)), .val (.int (1 : Int32)), .val (.double (FP.dneg (FP.i2d pa))), .second, .val (.double (FP.dneg (FP.i2d pb))), .second, .val (.long (-pa.toInt64)), .second, .unset, .unset, .unset, .unset, .unset, .unset] [(.long (-pb.toInt64))])) _
        refine XS.lstore X0.here hx rfl (hb hby at_79) rfl (l' := #[.val (.int pa), .val (.int pb), .val (.int pf), .val (.int (1 : Int32)), .val (.int (1 : Int32)), .val (.double (FP.dneg (FP.i2d pa))), .second, .val (.double (FP.dneg (FP.i2d pb))), .second, .val (.long (-pa.toInt64)), .second, .val (.long (-pb.toInt64)), .second, .unset, .unset, .unset, .unset]) rfl ?_
        show Steps p.tables e below (s₁.setTop (mkF m 81 #[.val (.int pa), .val (.int pb), .val (.int pf), .val (.int (1 : Int32)), .val (.int (1 : Int32)), .val (.double (FP.dneg (FP.i2d pa))), .second, .val (.double (FP.dneg (FP.i2d pb))), .second, .val (.long (-pa.toInt64)), .second, .val (.long (-pb.toInt64)), .second, .unset, .unset, .unset, .unset] [])) _
        refine XS.lload X0.here hx rfl (hb hby at_81) rfl ?_
        show Steps p.tables e below (s₁.setTop (mkF m 83 #[.val (.int pa), .val (.int pb), .val (.int pf), .val (.int (1 : Int32)), .val (.int (1 : Int32)), .val (.double (FP.dneg (FP.i2d pa))), .second, .val (.double (FP.dneg (FP.i2d pb))), .second, .val (.long (-pa.toInt64)), .second, .val (.long (-pb.toInt64)), .second, .unset, .unset, .unset, .unset] [(.long (-pa.toInt64))])) _
        refine XS.lload X0.here hx rfl (hb hby at_83) rfl ?_
        show Steps p.tables e below (s₁.setTop (mkF m 85 #[.val (.int pa), .val (.int pb), .val (.int pf), .val (.int (1 : Int32)), .val (.int (1 : Int32)), .val (.double (FP.dneg (FP.i2d pa))), .second, .val (.double (FP.dneg (FP.i2d pb))), .second, .val (.long (-pa.toInt64)), .second, .val (.long (-pb.toInt64)), .second, .unset, .unset, .unset, .unset] [(.long (-pb.toInt64)), (.long (-pa.toInt64))])) _
        refine XT.lcmp X0.here hx rfl (hb hby at_85) rfl ?_
        exact kt
      by_cases hc86_38 : (-pa.toInt64) < (-pb.toInt64)
      · obtain ⟨_, _, ⟨T39, L39, k39, n39⟩, -, X39, ⟨Lc39, hQ39, l39, y39, z39⟩, st39⟩ := Jvm.LawKit.callS X0 hx (y := (⟨"com/example/adjudica/adjudica/engine/Arithmetic", "sign", "(DD)D"⟩ : MethodName)) hown (mvT hZ (hw _ (List.mem_of_getElem? (i := 0) rfl))) (mvT hZ (hw _ (List.mem_of_getElem? (i := 1) rfl))) (mvT hZ (hw _ (List.mem_of_getElem? (i := 2) rfl))) (mvT hZ (hw _ (List.mem_of_getElem? (i := 3) rfl))) (by decide) (backOf (W := 0) (rm1 l Z a0 hw [] (FP.dneg (FP.i2d pa)) (FP.dneg (FP.i2d pb)) h0 n0 Z0) hZ (hw _ (List.mem_of_getElem? (i := 3) rfl)) (hw _ (List.mem_of_getElem? (i := 2) rfl)) (by decide) (by decide)) (g := (mkF m 118 #[.val (.int pa), .val (.int pb), .val (.int pf), .val (.int (1 : Int32)), .val (.int (1 : Int32)), .val (.double (FP.dneg (FP.i2d pa))), .second, .val (.double (FP.dneg (FP.i2d pb))), .second, .val (.long (-pa.toInt64)), .second, .val (.long (-pb.toInt64)), .second, .val (.double (13830554455654793216 : UInt64)), .second, .unset, .unset] [(.double (FP.dneg (FP.i2d pb))), (.double (FP.dneg (FP.i2d pa)))])) rfl (by rw [hml]; rfl) (argsL := [(.double (FP.dneg (FP.i2d pa))), (.double (FP.dneg (FP.i2d pb)))]) (rest := []) (lenOf pd0_0 rfl) rfl (by show 2 * 0 + _ ≤ _; exact Nat.le_of_eq rfl) (hb hby at_118) (fun _ _ => ⟨rfl, e0, (by decide : 0 + 0 ≤ _), (by decide : 0 + 0 ≤ _)⟩)
        dsimp only [Pt.U, Pt.locs, Pt.cells, Pt.slots] at X39 l39 y39 z39 st39 hQ39
        subst l39 y39 z39
        obtain ⟨rfl, N39q, e39⟩ := hQ39
        have N39 := Fr.app N0 N39q
        have pre40 : ∀ t, Steps p.tables e below (T39.setTop (mkF m 136 #[.val (.int pa), .val (.int pb), .val (.int pf), .val (.int (1 : Int32)), .val (.int (1 : Int32)), .val (.double (FP.dneg (FP.i2d pa))), .second, .val (.double (FP.dneg (FP.i2d pb))), .second, .val (.long (-pa.toInt64)), .second, .val (.long (-pb.toInt64)), .second, .val (.double (13830554455654793216 : UInt64)), .second, .val (.double (sgF (FP.dneg (FP.i2d pa)) (FP.dneg (FP.i2d pb)))), .second] [(.int (1 : Int32))])) t → Steps p.tables e below (s₁.setTop (entryFrame m #[(.int pa), (.int pb), (.int pf)] maxLocals)) t := by
          intro t kt
          refine pre37 _ ?_
          show Steps p.tables e below (s₁.setTop (mkF m 86 #[.val (.int pa), .val (.int pb), .val (.int pf), .val (.int (1 : Int32)), .val (.int (1 : Int32)), .val (.double (FP.dneg (FP.i2d pa))), .second, .val (.double (FP.dneg (FP.i2d pb))), .second, .val (.long (-pa.toInt64)), .second, .val (.long (-pb.toInt64)), .second, .unset, .unset, .unset, .unset] [(.int (XT.cmpL (-pa.toInt64) (-pb.toInt64)))])) _
          refine XS.ifNo X0.here hx rfl (hb hby at_86) rfl (XT.ll_ge_f hc86_38) ?_
          show Steps p.tables e below (s₁.setTop (mkF m 89 #[.val (.int pa), .val (.int pb), .val (.int pf), .val (.int (1 : Int32)), .val (.int (1 : Int32)), .val (.double (FP.dneg (FP.i2d pa))), .second, .val (.double (FP.dneg (FP.i2d pb))), .second, .val (.long (-pa.toInt64)), .second, .val (.long (-pb.toInt64)), .second, .unset, .unset, .unset, .unset] [])) _
          refine X0.ldc2DoubleC hx hown (mvT hZ (hw _ (List.mem_of_getElem? (i := 4) rfl))) (g := (mkF m 89 #[.val (.int pa), .val (.int pb), .val (.int pf), .val (.int (1 : Int32)), .val (.int (1 : Int32)), .val (.double (FP.dneg (FP.i2d pa))), .second, .val (.double (FP.dneg (FP.i2d pb))), .second, .val (.long (-pa.toInt64)), .second, .val (.long (-pb.toInt64)), .second, .unset, .unset, .unset, .unset] [])) rfl (hb hby at_89) _ ?_
          show Steps p.tables e below (s₁.setTop (mkF m 92 #[.val (.int pa), .val (.int pb), .val (.int pf), .val (.int (1 : Int32)), .val (.int (1 : Int32)), .val (.double (FP.dneg (FP.i2d pa))), .second, .val (.double (FP.dneg (FP.i2d pb))), .second, .val (.long (-pa.toInt64)), .second, .val (.long (-pb.toInt64)), .second, .unset, .unset, .unset, .unset] [(.double (13830554455654793216 : UInt64))])) _
          refine XS.dstore X0.here hx rfl (hb hby at_92) rfl (l' := #[.val (.int pa), .val (.int pb), .val (.int pf), .val (.int (1 : Int32)), .val (.int (1 : Int32)), .val (.double (FP.dneg (FP.i2d pa))), .second, .val (.double (FP.dneg (FP.i2d pb))), .second, .val (.long (-pa.toInt64)), .second, .val (.long (-pb.toInt64)), .second, .val (.double (13830554455654793216 : UInt64)), .second, .unset, .unset]) rfl ?_
          show Steps p.tables e below (s₁.setTop (mkF m 94 #[.val (.int pa), .val (.int pb), .val (.int pf), .val (.int (1 : Int32)), .val (.int (1 : Int32)), .val (.double (FP.dneg (FP.i2d pa))), .second, .val (.double (FP.dneg (FP.i2d pb))), .second, .val (.long (-pa.toInt64)), .second, .val (.long (-pb.toInt64)), .second, .val (.double (13830554455654793216 : UInt64)), .second, .unset, .unset] [])) _
          refine XS.goto X0.here hx rfl (pc0 := 94) (pc' := 114) rfl (hb hby at_94) (by decide) (by decide) ?_
          show Steps p.tables e below (s₁.setTop (mkF m 114 #[.val (.int pa), .val (.int pb), .val (.int pf), .val (.int (1 : Int32)), .val (.int (1 : Int32)), .val (.double (FP.dneg (FP.i2d pa))), .second, .val (.double (FP.dneg (FP.i2d pb))), .second, .val (.long (-pa.toInt64)), .second, .val (.long (-pb.toInt64)), .second, .val (.double (13830554455654793216 : UInt64)), .second, .unset, .unset] [])) _
          refine XS.dload X0.here hx rfl (hb hby at_114) rfl ?_
          show Steps p.tables e below (s₁.setTop (mkF m 116 #[.val (.int pa), .val (.int pb), .val (.int pf), .val (.int (1 : Int32)), .val (.int (1 : Int32)), .val (.double (FP.dneg (FP.i2d pa))), .second, .val (.double (FP.dneg (FP.i2d pb))), .second, .val (.long (-pa.toInt64)), .second, .val (.long (-pb.toInt64)), .second, .val (.double (13830554455654793216 : UInt64)), .second, .unset, .unset] [(.double (FP.dneg (FP.i2d pa)))])) _
          refine XS.dload X0.here hx rfl (hb hby at_116) rfl ?_
          show Steps p.tables e below (s₁.setTop (mkF m 118 #[.val (.int pa), .val (.int pb), .val (.int pf), .val (.int (1 : Int32)), .val (.int (1 : Int32)), .val (.double (FP.dneg (FP.i2d pa))), .second, .val (.double (FP.dneg (FP.i2d pb))), .second, .val (.long (-pa.toInt64)), .second, .val (.long (-pb.toInt64)), .second, .val (.double (13830554455654793216 : UInt64)), .second, .unset, .unset] [(.double (FP.dneg (FP.i2d pb))), (.double (FP.dneg (FP.i2d pa)))])) _
          refine st39 _ ?_
          show Steps p.tables e below (T39.setTop (mkF m 121 #[.val (.int pa), .val (.int pb), .val (.int pf), .val (.int (1 : Int32)), .val (.int (1 : Int32)), .val (.double (FP.dneg (FP.i2d pa))), .second, .val (.double (FP.dneg (FP.i2d pb))), .second, .val (.long (-pa.toInt64)), .second, .val (.long (-pb.toInt64)), .second, .val (.double (13830554455654793216 : UInt64)), .second, .unset, .unset] [(.double (sgF (FP.dneg (FP.i2d pa)) (FP.dneg (FP.i2d pb))))])) _
          refine XS.dstore X39.here hx rfl (hb hby at_121) rfl (l' := #[.val (.int pa), .val (.int pb), .val (.int pf), .val (.int (1 : Int32)), .val (.int (1 : Int32)), .val (.double (FP.dneg (FP.i2d pa))), .second, .val (.double (FP.dneg (FP.i2d pb))), .second, .val (.long (-pa.toInt64)), .second, .val (.long (-pb.toInt64)), .second, .val (.double (13830554455654793216 : UInt64)), .second, .val (.double (sgF (FP.dneg (FP.i2d pa)) (FP.dneg (FP.i2d pb)))), .second]) rfl ?_
          show Steps p.tables e below (T39.setTop (mkF m 123 #[.val (.int pa), .val (.int pb), .val (.int pf), .val (.int (1 : Int32)), .val (.int (1 : Int32)), .val (.double (FP.dneg (FP.i2d pa))), .second, .val (.double (FP.dneg (FP.i2d pb))), .second, .val (.long (-pa.toInt64)), .second, .val (.long (-pb.toInt64)), .second, .val (.double (13830554455654793216 : UInt64)), .second, .val (.double (sgF (FP.dneg (FP.i2d pa)) (FP.dneg (FP.i2d pb)))), .second] [])) _
          refine XS.dload X39.here hx rfl (hb hby at_123) rfl ?_
          show Steps p.tables e below (T39.setTop (mkF m 125 #[.val (.int pa), .val (.int pb), .val (.int pf), .val (.int (1 : Int32)), .val (.int (1 : Int32)), .val (.double (FP.dneg (FP.i2d pa))), .second, .val (.double (FP.dneg (FP.i2d pb))), .second, .val (.long (-pa.toInt64)), .second, .val (.long (-pb.toInt64)), .second, .val (.double (13830554455654793216 : UInt64)), .second, .val (.double (sgF (FP.dneg (FP.i2d pa)) (FP.dneg (FP.i2d pb)))), .second] [(.double (sgF (FP.dneg (FP.i2d pa)) (FP.dneg (FP.i2d pb))))])) _
          refine XS.dload X39.here hx rfl (hb hby at_125) rfl ?_
          show Steps p.tables e below (T39.setTop (mkF m 127 #[.val (.int pa), .val (.int pb), .val (.int pf), .val (.int (1 : Int32)), .val (.int (1 : Int32)), .val (.double (FP.dneg (FP.i2d pa))), .second, .val (.double (FP.dneg (FP.i2d pb))), .second, .val (.long (-pa.toInt64)), .second, .val (.long (-pb.toInt64)), .second, .val (.double (13830554455654793216 : UInt64)), .second, .val (.double (sgF (FP.dneg (FP.i2d pa)) (FP.dneg (FP.i2d pb)))), .second] [(.double (13830554455654793216 : UInt64)), (.double (sgF (FP.dneg (FP.i2d pa)) (FP.dneg (FP.i2d pb))))])) _
          refine XS.dcmpS X39.here hx rfl (hb hby at_127) rfl rfl ?_
          show Steps p.tables e below (T39.setTop (mkF m 128 #[.val (.int pa), .val (.int pb), .val (.int pf), .val (.int (1 : Int32)), .val (.int (1 : Int32)), .val (.double (FP.dneg (FP.i2d pa))), .second, .val (.double (FP.dneg (FP.i2d pb))), .second, .val (.long (-pa.toInt64)), .second, .val (.long (-pb.toInt64)), .second, .val (.double (13830554455654793216 : UInt64)), .second, .val (.double (sgF (FP.dneg (FP.i2d pa)) (FP.dneg (FP.i2d pb)))), .second] [(.int (cmpValue (FP.dcmp (sgF (FP.dneg (FP.i2d pa)) (FP.dneg (FP.i2d pb))) (13830554455654793216 : UInt64)) .l))])) _
          refine XS.ifNo X39.here hx rfl (hb hby at_128) rfl (XT.i0_ne_f (by rw [own_sg_lt (own_dneg (own_i2d pa)) (own_dneg (own_i2d pb)) (by have q := Int64.lt_iff_toInt_lt.mp hc86_38; rw [own_i2ln pa, own_i2ln pb] at q; exact q)]; exact own_same _ (Or.inl rfl))) ?_
          show Steps p.tables e below (T39.setTop (mkF m 131 #[.val (.int pa), .val (.int pb), .val (.int pf), .val (.int (1 : Int32)), .val (.int (1 : Int32)), .val (.double (FP.dneg (FP.i2d pa))), .second, .val (.double (FP.dneg (FP.i2d pb))), .second, .val (.long (-pa.toInt64)), .second, .val (.long (-pb.toInt64)), .second, .val (.double (13830554455654793216 : UInt64)), .second, .val (.double (sgF (FP.dneg (FP.i2d pa)) (FP.dneg (FP.i2d pb)))), .second] [])) _
          refine XS.iconst X39.here hx rfl (hb hby at_131) ?_
          show Steps p.tables e below (T39.setTop (mkF m 132 #[.val (.int pa), .val (.int pb), .val (.int pf), .val (.int (1 : Int32)), .val (.int (1 : Int32)), .val (.double (FP.dneg (FP.i2d pa))), .second, .val (.double (FP.dneg (FP.i2d pb))), .second, .val (.long (-pa.toInt64)), .second, .val (.long (-pb.toInt64)), .second, .val (.double (13830554455654793216 : UInt64)), .second, .val (.double (sgF (FP.dneg (FP.i2d pa)) (FP.dneg (FP.i2d pb)))), .second] [(.int (1 : Int32))])) _
          refine XS.goto X39.here hx rfl (pc0 := 132) (pc' := 136) rfl (hb hby at_132) (by decide) (by decide) ?_
          exact kt
        obtain ⟨fs, hr, hrun, hended, hW, hsame⟩ := X39.leave (v := some (.int (1 : Int32))) (fun h => by rw [Bd.returns] at h; cases h)
        refine ⟨_, _, pre40 _ ?_, hrun, hended, _, _, rfl, ?_, ⟨_, rfl⟩, hW, hsame.mono (by decide) (by decide)⟩
        · show Steps p.tables e below (T39.setTop (mkF m 136 #[.val (.int pa), .val (.int pb), .val (.int pf), .val (.int (1 : Int32)), .val (.int (1 : Int32)), .val (.double (FP.dneg (FP.i2d pa))), .second, .val (.double (FP.dneg (FP.i2d pb))), .second, .val (.long (-pa.toInt64)), .second, .val (.long (-pb.toInt64)), .second, .val (.double (13830554455654793216 : UInt64)), .second, .val (.double (sgF (FP.dneg (FP.i2d pa)) (FP.dneg (FP.i2d pb)))), .second] [(.int (1 : Int32))])) _
          exact retN X39 hx (t := .boolean) Bd.returns (by simp) (hb hby at_136) hr
        · show Q1 Z (.int 1) h0 n0 _ T39.heap _
          rw [e39]
          exact ⟨rfl, N39, rfl⟩
      · have pre41 : ∀ t, Steps p.tables e below (s₁.setTop (mkF m 102 #[.val (.int pa), .val (.int pb), .val (.int pf), .val (.int (1 : Int32)), .val (.int (1 : Int32)), .val (.double (FP.dneg (FP.i2d pa))), .second, .val (.double (FP.dneg (FP.i2d pb))), .second, .val (.long (-pa.toInt64)), .second, .val (.long (-pb.toInt64)), .second, .unset, .unset, .unset, .unset] [(.int (XT.cmpL (-pa.toInt64) (-pb.toInt64)))])) t → Steps p.tables e below (s₁.setTop (entryFrame m #[(.int pa), (.int pb), (.int pf)] maxLocals)) t := by
          intro t kt
          refine pre37 _ ?_
          show Steps p.tables e below (s₁.setTop (mkF m 86 #[.val (.int pa), .val (.int pb), .val (.int pf), .val (.int (1 : Int32)), .val (.int (1 : Int32)), .val (.double (FP.dneg (FP.i2d pa))), .second, .val (.double (FP.dneg (FP.i2d pb))), .second, .val (.long (-pa.toInt64)), .second, .val (.long (-pb.toInt64)), .second, .unset, .unset, .unset, .unset] [(.int (XT.cmpL (-pa.toInt64) (-pb.toInt64)))])) _
          refine XS.ifYes X0.here hx rfl (pc0 := 86) (pc' := 97) rfl (hb hby at_86) rfl (XT.ll_ge_t hc86_38) (by decide) (by decide) ?_
          show Steps p.tables e below (s₁.setTop (mkF m 97 #[.val (.int pa), .val (.int pb), .val (.int pf), .val (.int (1 : Int32)), .val (.int (1 : Int32)), .val (.double (FP.dneg (FP.i2d pa))), .second, .val (.double (FP.dneg (FP.i2d pb))), .second, .val (.long (-pa.toInt64)), .second, .val (.long (-pb.toInt64)), .second, .unset, .unset, .unset, .unset] [])) _
          refine XS.lload X0.here hx rfl (hb hby at_97) rfl ?_
          show Steps p.tables e below (s₁.setTop (mkF m 99 #[.val (.int pa), .val (.int pb), .val (.int pf), .val (.int (1 : Int32)), .val (.int (1 : Int32)), .val (.double (FP.dneg (FP.i2d pa))), .second, .val (.double (FP.dneg (FP.i2d pb))), .second, .val (.long (-pa.toInt64)), .second, .val (.long (-pb.toInt64)), .second, .unset, .unset, .unset, .unset] [(.long (-pa.toInt64))])) _
          refine XS.lload X0.here hx rfl (hb hby at_99) rfl ?_
          show Steps p.tables e below (s₁.setTop (mkF m 101 #[.val (.int pa), .val (.int pb), .val (.int pf), .val (.int (1 : Int32)), .val (.int (1 : Int32)), .val (.double (FP.dneg (FP.i2d pa))), .second, .val (.double (FP.dneg (FP.i2d pb))), .second, .val (.long (-pa.toInt64)), .second, .val (.long (-pb.toInt64)), .second, .unset, .unset, .unset, .unset] [(.long (-pb.toInt64)), (.long (-pa.toInt64))])) _
          refine XT.lcmp X0.here hx rfl (hb hby at_101) rfl ?_
          exact kt
        by_cases hc102_42 : (-pb.toInt64) < (-pa.toInt64)
        · obtain ⟨_, _, ⟨T43, L43, k43, n43⟩, -, X43, ⟨Lc43, hQ43, l43, y43, z43⟩, st43⟩ := Jvm.LawKit.callS X0 hx (y := (⟨"com/example/adjudica/adjudica/engine/Arithmetic", "sign", "(DD)D"⟩ : MethodName)) hown (mvT hZ (hw _ (List.mem_of_getElem? (i := 0) rfl))) (mvT hZ (hw _ (List.mem_of_getElem? (i := 1) rfl))) (mvT hZ (hw _ (List.mem_of_getElem? (i := 2) rfl))) (mvT hZ (hw _ (List.mem_of_getElem? (i := 3) rfl))) (by decide) (backOf (W := 0) (rm1 l Z a0 hw [] (FP.dneg (FP.i2d pa)) (FP.dneg (FP.i2d pb)) h0 n0 Z0) hZ (hw _ (List.mem_of_getElem? (i := 3) rfl)) (hw _ (List.mem_of_getElem? (i := 2) rfl)) (by decide) (by decide)) (g := (mkF m 118 #[.val (.int pa), .val (.int pb), .val (.int pf), .val (.int (1 : Int32)), .val (.int (1 : Int32)), .val (.double (FP.dneg (FP.i2d pa))), .second, .val (.double (FP.dneg (FP.i2d pb))), .second, .val (.long (-pa.toInt64)), .second, .val (.long (-pb.toInt64)), .second, .val (.double FP.dconst1), .second, .unset, .unset] [(.double (FP.dneg (FP.i2d pb))), (.double (FP.dneg (FP.i2d pa)))])) rfl (by rw [hml]; rfl) (argsL := [(.double (FP.dneg (FP.i2d pa))), (.double (FP.dneg (FP.i2d pb)))]) (rest := []) (lenOf pd0_0 rfl) rfl (by show 2 * 0 + _ ≤ _; exact Nat.le_of_eq rfl) (hb hby at_118) (fun _ _ => ⟨rfl, e0, (by decide : 0 + 0 ≤ _), (by decide : 0 + 0 ≤ _)⟩)
          dsimp only [Pt.U, Pt.locs, Pt.cells, Pt.slots] at X43 l43 y43 z43 st43 hQ43
          subst l43 y43 z43
          obtain ⟨rfl, N43q, e43⟩ := hQ43
          have N43 := Fr.app N0 N43q
          have pre44 : ∀ t, Steps p.tables e below (T43.setTop (mkF m 136 #[.val (.int pa), .val (.int pb), .val (.int pf), .val (.int (1 : Int32)), .val (.int (1 : Int32)), .val (.double (FP.dneg (FP.i2d pa))), .second, .val (.double (FP.dneg (FP.i2d pb))), .second, .val (.long (-pa.toInt64)), .second, .val (.long (-pb.toInt64)), .second, .val (.double FP.dconst1), .second, .val (.double (sgF (FP.dneg (FP.i2d pa)) (FP.dneg (FP.i2d pb)))), .second] [(.int (1 : Int32))])) t → Steps p.tables e below (s₁.setTop (entryFrame m #[(.int pa), (.int pb), (.int pf)] maxLocals)) t := by
            intro t kt
            refine pre41 _ ?_
            show Steps p.tables e below (s₁.setTop (mkF m 102 #[.val (.int pa), .val (.int pb), .val (.int pf), .val (.int (1 : Int32)), .val (.int (1 : Int32)), .val (.double (FP.dneg (FP.i2d pa))), .second, .val (.double (FP.dneg (FP.i2d pb))), .second, .val (.long (-pa.toInt64)), .second, .val (.long (-pb.toInt64)), .second, .unset, .unset, .unset, .unset] [(.int (XT.cmpL (-pa.toInt64) (-pb.toInt64)))])) _
            refine XS.ifNo X0.here hx rfl (hb hby at_102) rfl (XT.ll_le_f hc102_42) ?_
            show Steps p.tables e below (s₁.setTop (mkF m 105 #[.val (.int pa), .val (.int pb), .val (.int pf), .val (.int (1 : Int32)), .val (.int (1 : Int32)), .val (.double (FP.dneg (FP.i2d pa))), .second, .val (.double (FP.dneg (FP.i2d pb))), .second, .val (.long (-pa.toInt64)), .second, .val (.long (-pb.toInt64)), .second, .unset, .unset, .unset, .unset] [])) _
            refine XS.dconst1 X0.here hx rfl (hb hby at_105) rfl ?_
            show Steps p.tables e below (s₁.setTop (mkF m 106 #[.val (.int pa), .val (.int pb), .val (.int pf), .val (.int (1 : Int32)), .val (.int (1 : Int32)), .val (.double (FP.dneg (FP.i2d pa))), .second, .val (.double (FP.dneg (FP.i2d pb))), .second, .val (.long (-pa.toInt64)), .second, .val (.long (-pb.toInt64)), .second, .unset, .unset, .unset, .unset] [(.double FP.dconst1)])) _
            refine XS.dstore X0.here hx rfl (hb hby at_106) rfl (l' := #[.val (.int pa), .val (.int pb), .val (.int pf), .val (.int (1 : Int32)), .val (.int (1 : Int32)), .val (.double (FP.dneg (FP.i2d pa))), .second, .val (.double (FP.dneg (FP.i2d pb))), .second, .val (.long (-pa.toInt64)), .second, .val (.long (-pb.toInt64)), .second, .val (.double FP.dconst1), .second, .unset, .unset]) rfl ?_
            show Steps p.tables e below (s₁.setTop (mkF m 108 #[.val (.int pa), .val (.int pb), .val (.int pf), .val (.int (1 : Int32)), .val (.int (1 : Int32)), .val (.double (FP.dneg (FP.i2d pa))), .second, .val (.double (FP.dneg (FP.i2d pb))), .second, .val (.long (-pa.toInt64)), .second, .val (.long (-pb.toInt64)), .second, .val (.double FP.dconst1), .second, .unset, .unset] [])) _
            refine XS.goto X0.here hx rfl (pc0 := 108) (pc' := 114) rfl (hb hby at_108) (by decide) (by decide) ?_
            show Steps p.tables e below (s₁.setTop (mkF m 114 #[.val (.int pa), .val (.int pb), .val (.int pf), .val (.int (1 : Int32)), .val (.int (1 : Int32)), .val (.double (FP.dneg (FP.i2d pa))), .second, .val (.double (FP.dneg (FP.i2d pb))), .second, .val (.long (-pa.toInt64)), .second, .val (.long (-pb.toInt64)), .second, .val (.double FP.dconst1), .second, .unset, .unset] [])) _
            refine XS.dload X0.here hx rfl (hb hby at_114) rfl ?_
            show Steps p.tables e below (s₁.setTop (mkF m 116 #[.val (.int pa), .val (.int pb), .val (.int pf), .val (.int (1 : Int32)), .val (.int (1 : Int32)), .val (.double (FP.dneg (FP.i2d pa))), .second, .val (.double (FP.dneg (FP.i2d pb))), .second, .val (.long (-pa.toInt64)), .second, .val (.long (-pb.toInt64)), .second, .val (.double FP.dconst1), .second, .unset, .unset] [(.double (FP.dneg (FP.i2d pa)))])) _
            refine XS.dload X0.here hx rfl (hb hby at_116) rfl ?_
            show Steps p.tables e below (s₁.setTop (mkF m 118 #[.val (.int pa), .val (.int pb), .val (.int pf), .val (.int (1 : Int32)), .val (.int (1 : Int32)), .val (.double (FP.dneg (FP.i2d pa))), .second, .val (.double (FP.dneg (FP.i2d pb))), .second, .val (.long (-pa.toInt64)), .second, .val (.long (-pb.toInt64)), .second, .val (.double FP.dconst1), .second, .unset, .unset] [(.double (FP.dneg (FP.i2d pb))), (.double (FP.dneg (FP.i2d pa)))])) _
            refine st43 _ ?_
            show Steps p.tables e below (T43.setTop (mkF m 121 #[.val (.int pa), .val (.int pb), .val (.int pf), .val (.int (1 : Int32)), .val (.int (1 : Int32)), .val (.double (FP.dneg (FP.i2d pa))), .second, .val (.double (FP.dneg (FP.i2d pb))), .second, .val (.long (-pa.toInt64)), .second, .val (.long (-pb.toInt64)), .second, .val (.double FP.dconst1), .second, .unset, .unset] [(.double (sgF (FP.dneg (FP.i2d pa)) (FP.dneg (FP.i2d pb))))])) _
            refine XS.dstore X43.here hx rfl (hb hby at_121) rfl (l' := #[.val (.int pa), .val (.int pb), .val (.int pf), .val (.int (1 : Int32)), .val (.int (1 : Int32)), .val (.double (FP.dneg (FP.i2d pa))), .second, .val (.double (FP.dneg (FP.i2d pb))), .second, .val (.long (-pa.toInt64)), .second, .val (.long (-pb.toInt64)), .second, .val (.double FP.dconst1), .second, .val (.double (sgF (FP.dneg (FP.i2d pa)) (FP.dneg (FP.i2d pb)))), .second]) rfl ?_
            show Steps p.tables e below (T43.setTop (mkF m 123 #[.val (.int pa), .val (.int pb), .val (.int pf), .val (.int (1 : Int32)), .val (.int (1 : Int32)), .val (.double (FP.dneg (FP.i2d pa))), .second, .val (.double (FP.dneg (FP.i2d pb))), .second, .val (.long (-pa.toInt64)), .second, .val (.long (-pb.toInt64)), .second, .val (.double FP.dconst1), .second, .val (.double (sgF (FP.dneg (FP.i2d pa)) (FP.dneg (FP.i2d pb)))), .second] [])) _
            refine XS.dload X43.here hx rfl (hb hby at_123) rfl ?_
            show Steps p.tables e below (T43.setTop (mkF m 125 #[.val (.int pa), .val (.int pb), .val (.int pf), .val (.int (1 : Int32)), .val (.int (1 : Int32)), .val (.double (FP.dneg (FP.i2d pa))), .second, .val (.double (FP.dneg (FP.i2d pb))), .second, .val (.long (-pa.toInt64)), .second, .val (.long (-pb.toInt64)), .second, .val (.double FP.dconst1), .second, .val (.double (sgF (FP.dneg (FP.i2d pa)) (FP.dneg (FP.i2d pb)))), .second] [(.double (sgF (FP.dneg (FP.i2d pa)) (FP.dneg (FP.i2d pb))))])) _
            refine XS.dload X43.here hx rfl (hb hby at_125) rfl ?_
            show Steps p.tables e below (T43.setTop (mkF m 127 #[.val (.int pa), .val (.int pb), .val (.int pf), .val (.int (1 : Int32)), .val (.int (1 : Int32)), .val (.double (FP.dneg (FP.i2d pa))), .second, .val (.double (FP.dneg (FP.i2d pb))), .second, .val (.long (-pa.toInt64)), .second, .val (.long (-pb.toInt64)), .second, .val (.double FP.dconst1), .second, .val (.double (sgF (FP.dneg (FP.i2d pa)) (FP.dneg (FP.i2d pb)))), .second] [(.double FP.dconst1), (.double (sgF (FP.dneg (FP.i2d pa)) (FP.dneg (FP.i2d pb))))])) _
            refine XS.dcmpS X43.here hx rfl (hb hby at_127) rfl rfl ?_
            show Steps p.tables e below (T43.setTop (mkF m 128 #[.val (.int pa), .val (.int pb), .val (.int pf), .val (.int (1 : Int32)), .val (.int (1 : Int32)), .val (.double (FP.dneg (FP.i2d pa))), .second, .val (.double (FP.dneg (FP.i2d pb))), .second, .val (.long (-pa.toInt64)), .second, .val (.long (-pb.toInt64)), .second, .val (.double FP.dconst1), .second, .val (.double (sgF (FP.dneg (FP.i2d pa)) (FP.dneg (FP.i2d pb)))), .second] [(.int (cmpValue (FP.dcmp (sgF (FP.dneg (FP.i2d pa)) (FP.dneg (FP.i2d pb))) FP.dconst1) .l))])) _
            refine XS.ifNo X43.here hx rfl (hb hby at_128) rfl (XT.i0_ne_f (by rw [own_sg_gt (own_dneg (own_i2d pa)) (own_dneg (own_i2d pb)) (by have q := Int64.lt_iff_toInt_lt.mp hc102_42; rw [own_i2ln pb, own_i2ln pa] at q; exact q)]; exact own_same _ (Or.inr (Or.inl rfl)))) ?_
            show Steps p.tables e below (T43.setTop (mkF m 131 #[.val (.int pa), .val (.int pb), .val (.int pf), .val (.int (1 : Int32)), .val (.int (1 : Int32)), .val (.double (FP.dneg (FP.i2d pa))), .second, .val (.double (FP.dneg (FP.i2d pb))), .second, .val (.long (-pa.toInt64)), .second, .val (.long (-pb.toInt64)), .second, .val (.double FP.dconst1), .second, .val (.double (sgF (FP.dneg (FP.i2d pa)) (FP.dneg (FP.i2d pb)))), .second] [])) _
            refine XS.iconst X43.here hx rfl (hb hby at_131) ?_
            show Steps p.tables e below (T43.setTop (mkF m 132 #[.val (.int pa), .val (.int pb), .val (.int pf), .val (.int (1 : Int32)), .val (.int (1 : Int32)), .val (.double (FP.dneg (FP.i2d pa))), .second, .val (.double (FP.dneg (FP.i2d pb))), .second, .val (.long (-pa.toInt64)), .second, .val (.long (-pb.toInt64)), .second, .val (.double FP.dconst1), .second, .val (.double (sgF (FP.dneg (FP.i2d pa)) (FP.dneg (FP.i2d pb)))), .second] [(.int (1 : Int32))])) _
            refine XS.goto X43.here hx rfl (pc0 := 132) (pc' := 136) rfl (hb hby at_132) (by decide) (by decide) ?_
            exact kt
          obtain ⟨fs, hr, hrun, hended, hW, hsame⟩ := X43.leave (v := some (.int (1 : Int32))) (fun h => by rw [Bd.returns] at h; cases h)
          refine ⟨_, _, pre44 _ ?_, hrun, hended, _, _, rfl, ?_, ⟨_, rfl⟩, hW, hsame.mono (by decide) (by decide)⟩
          · show Steps p.tables e below (T43.setTop (mkF m 136 #[.val (.int pa), .val (.int pb), .val (.int pf), .val (.int (1 : Int32)), .val (.int (1 : Int32)), .val (.double (FP.dneg (FP.i2d pa))), .second, .val (.double (FP.dneg (FP.i2d pb))), .second, .val (.long (-pa.toInt64)), .second, .val (.long (-pb.toInt64)), .second, .val (.double FP.dconst1), .second, .val (.double (sgF (FP.dneg (FP.i2d pa)) (FP.dneg (FP.i2d pb)))), .second] [(.int (1 : Int32))])) _
            exact retN X43 hx (t := .boolean) Bd.returns (by simp) (hb hby at_136) hr
          · show Q1 Z (.int 1) h0 n0 _ T43.heap _
            rw [e43]
            exact ⟨rfl, N43, rfl⟩
        · obtain ⟨_, _, ⟨T45, L45, k45, n45⟩, -, X45, ⟨Lc45, hQ45, l45, y45, z45⟩, st45⟩ := Jvm.LawKit.callS X0 hx (y := (⟨"com/example/adjudica/adjudica/engine/Arithmetic", "sign", "(DD)D"⟩ : MethodName)) hown (mvT hZ (hw _ (List.mem_of_getElem? (i := 0) rfl))) (mvT hZ (hw _ (List.mem_of_getElem? (i := 1) rfl))) (mvT hZ (hw _ (List.mem_of_getElem? (i := 2) rfl))) (mvT hZ (hw _ (List.mem_of_getElem? (i := 3) rfl))) (by decide) (backOf (W := 0) (rm1 l Z a0 hw [] (FP.dneg (FP.i2d pa)) (FP.dneg (FP.i2d pb)) h0 n0 Z0) hZ (hw _ (List.mem_of_getElem? (i := 3) rfl)) (hw _ (List.mem_of_getElem? (i := 2) rfl)) (by decide) (by decide)) (g := (mkF m 118 #[.val (.int pa), .val (.int pb), .val (.int pf), .val (.int (1 : Int32)), .val (.int (1 : Int32)), .val (.double (FP.dneg (FP.i2d pa))), .second, .val (.double (FP.dneg (FP.i2d pb))), .second, .val (.long (-pa.toInt64)), .second, .val (.long (-pb.toInt64)), .second, .val (.double FP.dconst0), .second, .unset, .unset] [(.double (FP.dneg (FP.i2d pb))), (.double (FP.dneg (FP.i2d pa)))])) rfl (by rw [hml]; rfl) (argsL := [(.double (FP.dneg (FP.i2d pa))), (.double (FP.dneg (FP.i2d pb)))]) (rest := []) (lenOf pd0_0 rfl) rfl (by show 2 * 0 + _ ≤ _; exact Nat.le_of_eq rfl) (hb hby at_118) (fun _ _ => ⟨rfl, e0, (by decide : 0 + 0 ≤ _), (by decide : 0 + 0 ≤ _)⟩)
          dsimp only [Pt.U, Pt.locs, Pt.cells, Pt.slots] at X45 l45 y45 z45 st45 hQ45
          subst l45 y45 z45
          obtain ⟨rfl, N45q, e45⟩ := hQ45
          have N45 := Fr.app N0 N45q
          have pre46 : ∀ t, Steps p.tables e below (T45.setTop (mkF m 136 #[.val (.int pa), .val (.int pb), .val (.int pf), .val (.int (1 : Int32)), .val (.int (1 : Int32)), .val (.double (FP.dneg (FP.i2d pa))), .second, .val (.double (FP.dneg (FP.i2d pb))), .second, .val (.long (-pa.toInt64)), .second, .val (.long (-pb.toInt64)), .second, .val (.double FP.dconst0), .second, .val (.double (sgF (FP.dneg (FP.i2d pa)) (FP.dneg (FP.i2d pb)))), .second] [(.int (1 : Int32))])) t → Steps p.tables e below (s₁.setTop (entryFrame m #[(.int pa), (.int pb), (.int pf)] maxLocals)) t := by
            intro t kt
            refine pre41 _ ?_
            show Steps p.tables e below (s₁.setTop (mkF m 102 #[.val (.int pa), .val (.int pb), .val (.int pf), .val (.int (1 : Int32)), .val (.int (1 : Int32)), .val (.double (FP.dneg (FP.i2d pa))), .second, .val (.double (FP.dneg (FP.i2d pb))), .second, .val (.long (-pa.toInt64)), .second, .val (.long (-pb.toInt64)), .second, .unset, .unset, .unset, .unset] [(.int (XT.cmpL (-pa.toInt64) (-pb.toInt64)))])) _
            refine XS.ifYes X0.here hx rfl (pc0 := 102) (pc' := 111) rfl (hb hby at_102) rfl (XT.ll_le_t hc102_42) (by decide) (by decide) ?_
            show Steps p.tables e below (s₁.setTop (mkF m 111 #[.val (.int pa), .val (.int pb), .val (.int pf), .val (.int (1 : Int32)), .val (.int (1 : Int32)), .val (.double (FP.dneg (FP.i2d pa))), .second, .val (.double (FP.dneg (FP.i2d pb))), .second, .val (.long (-pa.toInt64)), .second, .val (.long (-pb.toInt64)), .second, .unset, .unset, .unset, .unset] [])) _
            refine XS.dconst0 X0.here hx rfl (hb hby at_111) rfl ?_
            show Steps p.tables e below (s₁.setTop (mkF m 112 #[.val (.int pa), .val (.int pb), .val (.int pf), .val (.int (1 : Int32)), .val (.int (1 : Int32)), .val (.double (FP.dneg (FP.i2d pa))), .second, .val (.double (FP.dneg (FP.i2d pb))), .second, .val (.long (-pa.toInt64)), .second, .val (.long (-pb.toInt64)), .second, .unset, .unset, .unset, .unset] [(.double FP.dconst0)])) _
            refine XS.dstore X0.here hx rfl (hb hby at_112) rfl (l' := #[.val (.int pa), .val (.int pb), .val (.int pf), .val (.int (1 : Int32)), .val (.int (1 : Int32)), .val (.double (FP.dneg (FP.i2d pa))), .second, .val (.double (FP.dneg (FP.i2d pb))), .second, .val (.long (-pa.toInt64)), .second, .val (.long (-pb.toInt64)), .second, .val (.double FP.dconst0), .second, .unset, .unset]) rfl ?_
            show Steps p.tables e below (s₁.setTop (mkF m 114 #[.val (.int pa), .val (.int pb), .val (.int pf), .val (.int (1 : Int32)), .val (.int (1 : Int32)), .val (.double (FP.dneg (FP.i2d pa))), .second, .val (.double (FP.dneg (FP.i2d pb))), .second, .val (.long (-pa.toInt64)), .second, .val (.long (-pb.toInt64)), .second, .val (.double FP.dconst0), .second, .unset, .unset] [])) _
            refine XS.dload X0.here hx rfl (hb hby at_114) rfl ?_
            show Steps p.tables e below (s₁.setTop (mkF m 116 #[.val (.int pa), .val (.int pb), .val (.int pf), .val (.int (1 : Int32)), .val (.int (1 : Int32)), .val (.double (FP.dneg (FP.i2d pa))), .second, .val (.double (FP.dneg (FP.i2d pb))), .second, .val (.long (-pa.toInt64)), .second, .val (.long (-pb.toInt64)), .second, .val (.double FP.dconst0), .second, .unset, .unset] [(.double (FP.dneg (FP.i2d pa)))])) _
            refine XS.dload X0.here hx rfl (hb hby at_116) rfl ?_
            show Steps p.tables e below (s₁.setTop (mkF m 118 #[.val (.int pa), .val (.int pb), .val (.int pf), .val (.int (1 : Int32)), .val (.int (1 : Int32)), .val (.double (FP.dneg (FP.i2d pa))), .second, .val (.double (FP.dneg (FP.i2d pb))), .second, .val (.long (-pa.toInt64)), .second, .val (.long (-pb.toInt64)), .second, .val (.double FP.dconst0), .second, .unset, .unset] [(.double (FP.dneg (FP.i2d pb))), (.double (FP.dneg (FP.i2d pa)))])) _
            refine st45 _ ?_
            show Steps p.tables e below (T45.setTop (mkF m 121 #[.val (.int pa), .val (.int pb), .val (.int pf), .val (.int (1 : Int32)), .val (.int (1 : Int32)), .val (.double (FP.dneg (FP.i2d pa))), .second, .val (.double (FP.dneg (FP.i2d pb))), .second, .val (.long (-pa.toInt64)), .second, .val (.long (-pb.toInt64)), .second, .val (.double FP.dconst0), .second, .unset, .unset] [(.double (sgF (FP.dneg (FP.i2d pa)) (FP.dneg (FP.i2d pb))))])) _
            refine XS.dstore X45.here hx rfl (hb hby at_121) rfl (l' := #[.val (.int pa), .val (.int pb), .val (.int pf), .val (.int (1 : Int32)), .val (.int (1 : Int32)), .val (.double (FP.dneg (FP.i2d pa))), .second, .val (.double (FP.dneg (FP.i2d pb))), .second, .val (.long (-pa.toInt64)), .second, .val (.long (-pb.toInt64)), .second, .val (.double FP.dconst0), .second, .val (.double (sgF (FP.dneg (FP.i2d pa)) (FP.dneg (FP.i2d pb)))), .second]) rfl ?_
            show Steps p.tables e below (T45.setTop (mkF m 123 #[.val (.int pa), .val (.int pb), .val (.int pf), .val (.int (1 : Int32)), .val (.int (1 : Int32)), .val (.double (FP.dneg (FP.i2d pa))), .second, .val (.double (FP.dneg (FP.i2d pb))), .second, .val (.long (-pa.toInt64)), .second, .val (.long (-pb.toInt64)), .second, .val (.double FP.dconst0), .second, .val (.double (sgF (FP.dneg (FP.i2d pa)) (FP.dneg (FP.i2d pb)))), .second] [])) _
            refine XS.dload X45.here hx rfl (hb hby at_123) rfl ?_
            show Steps p.tables e below (T45.setTop (mkF m 125 #[.val (.int pa), .val (.int pb), .val (.int pf), .val (.int (1 : Int32)), .val (.int (1 : Int32)), .val (.double (FP.dneg (FP.i2d pa))), .second, .val (.double (FP.dneg (FP.i2d pb))), .second, .val (.long (-pa.toInt64)), .second, .val (.long (-pb.toInt64)), .second, .val (.double FP.dconst0), .second, .val (.double (sgF (FP.dneg (FP.i2d pa)) (FP.dneg (FP.i2d pb)))), .second] [(.double (sgF (FP.dneg (FP.i2d pa)) (FP.dneg (FP.i2d pb))))])) _
            refine XS.dload X45.here hx rfl (hb hby at_125) rfl ?_
            show Steps p.tables e below (T45.setTop (mkF m 127 #[.val (.int pa), .val (.int pb), .val (.int pf), .val (.int (1 : Int32)), .val (.int (1 : Int32)), .val (.double (FP.dneg (FP.i2d pa))), .second, .val (.double (FP.dneg (FP.i2d pb))), .second, .val (.long (-pa.toInt64)), .second, .val (.long (-pb.toInt64)), .second, .val (.double FP.dconst0), .second, .val (.double (sgF (FP.dneg (FP.i2d pa)) (FP.dneg (FP.i2d pb)))), .second] [(.double FP.dconst0), (.double (sgF (FP.dneg (FP.i2d pa)) (FP.dneg (FP.i2d pb))))])) _
            refine XS.dcmpS X45.here hx rfl (hb hby at_127) rfl rfl ?_
            show Steps p.tables e below (T45.setTop (mkF m 128 #[.val (.int pa), .val (.int pb), .val (.int pf), .val (.int (1 : Int32)), .val (.int (1 : Int32)), .val (.double (FP.dneg (FP.i2d pa))), .second, .val (.double (FP.dneg (FP.i2d pb))), .second, .val (.long (-pa.toInt64)), .second, .val (.long (-pb.toInt64)), .second, .val (.double FP.dconst0), .second, .val (.double (sgF (FP.dneg (FP.i2d pa)) (FP.dneg (FP.i2d pb)))), .second] [(.int (cmpValue (FP.dcmp (sgF (FP.dneg (FP.i2d pa)) (FP.dneg (FP.i2d pb))) FP.dconst0) .l))])) _
            refine XS.ifNo X45.here hx rfl (hb hby at_128) rfl (XT.i0_ne_f (by rw [own_sg_eq (own_dneg (own_i2d pa)) (own_dneg (own_i2d pb)) (by have q := mt Int64.lt_iff_toInt_lt.mpr hc86_38; have q2 := mt Int64.lt_iff_toInt_lt.mpr hc102_42; rw [own_i2ln pa, own_i2ln pb] at q; rw [own_i2ln pb, own_i2ln pa] at q2; omega)]; exact own_same _ (Or.inr (Or.inr rfl)))) ?_
            show Steps p.tables e below (T45.setTop (mkF m 131 #[.val (.int pa), .val (.int pb), .val (.int pf), .val (.int (1 : Int32)), .val (.int (1 : Int32)), .val (.double (FP.dneg (FP.i2d pa))), .second, .val (.double (FP.dneg (FP.i2d pb))), .second, .val (.long (-pa.toInt64)), .second, .val (.long (-pb.toInt64)), .second, .val (.double FP.dconst0), .second, .val (.double (sgF (FP.dneg (FP.i2d pa)) (FP.dneg (FP.i2d pb)))), .second] [])) _
            refine XS.iconst X45.here hx rfl (hb hby at_131) ?_
            show Steps p.tables e below (T45.setTop (mkF m 132 #[.val (.int pa), .val (.int pb), .val (.int pf), .val (.int (1 : Int32)), .val (.int (1 : Int32)), .val (.double (FP.dneg (FP.i2d pa))), .second, .val (.double (FP.dneg (FP.i2d pb))), .second, .val (.long (-pa.toInt64)), .second, .val (.long (-pb.toInt64)), .second, .val (.double FP.dconst0), .second, .val (.double (sgF (FP.dneg (FP.i2d pa)) (FP.dneg (FP.i2d pb)))), .second] [(.int (1 : Int32))])) _
            refine XS.goto X45.here hx rfl (pc0 := 132) (pc' := 136) rfl (hb hby at_132) (by decide) (by decide) ?_
            exact kt
          obtain ⟨fs, hr, hrun, hended, hW, hsame⟩ := X45.leave (v := some (.int (1 : Int32))) (fun h => by rw [Bd.returns] at h; cases h)
          refine ⟨_, _, pre46 _ ?_, hrun, hended, _, _, rfl, ?_, ⟨_, rfl⟩, hW, hsame.mono (by decide) (by decide)⟩
          · show Steps p.tables e below (T45.setTop (mkF m 136 #[.val (.int pa), .val (.int pb), .val (.int pf), .val (.int (1 : Int32)), .val (.int (1 : Int32)), .val (.double (FP.dneg (FP.i2d pa))), .second, .val (.double (FP.dneg (FP.i2d pb))), .second, .val (.long (-pa.toInt64)), .second, .val (.long (-pb.toInt64)), .second, .val (.double FP.dconst0), .second, .val (.double (sgF (FP.dneg (FP.i2d pa)) (FP.dneg (FP.i2d pb)))), .second] [(.int (1 : Int32))])) _
            exact retN X45 hx (t := .boolean) Bd.returns (by simp) (hb hby at_136) hr
          · show Q1 Z (.int 1) h0 n0 _ T45.heap _
            rw [e45]
            exact ⟨rfl, N45, rfl⟩
set_option maxRecDepth 65536 in
set_option maxHeartbeats 40000000 in
theorem comes_1 {Post : Tables → Env → Array Value → State → Outcome → State → Prop} (hpost : ∀ tb e args s v u, (limb_1_1.after args s (.returned v) u = true ∧ limb_1_2.after args s (.returned v) u = true ∧ True) → FrameEnd s (.returned v) u (Jvm.fieldLocs frame_1_writes args s ++ Jvm.arrayLocs frame_1_arrays args s ++ Jvm.staticLocs frame_1_statics s) 0 0 → Post tb e args s (.returned v) u) :
    ArmFor flags0 classFile x code maxLocals ret World_1 tables_1 room_1 Calls_1 rest_1 Pre_1 Post := by
  intro l hfl _ _ p e ha hc hk s m args below hf hA hF happ hP
  obtain ⟨hcalls, hrest, hpre⟩ := hP
  obtain ⟨-, -, -, hnamed, -, -, -, hat⟩ := (Spec.applies_iff hf).mp happ
  obtain ⟨hg, hn⟩ := and_e (Cond.before_iff.mp (show (Jvm.Cond.and given_1 narrow_1).before args s = true from hpre))
  obtain ⟨hg0, hg1⟩ := and_e hg
  obtain ⟨ga0, hgg0⟩ := and_e hg1
  obtain ⟨ga1, hgg1⟩ := and_e hgg0
  have ga2 := hgg1
  obtain ⟨w0_, w1_, w2_, rfl⟩ : ∃ w0_ w1_ w2_ : Value, args = #[w0_, w1_, w2_] := by
    have hs : args.size = 3 := by simpa [Cond.value, given_1] using hg0
    obtain ⟨L⟩ := args
    match L, hs with
    | [w0_, w1_, w2_], _ => exact ⟨w0_, w1_, w2_, rfl⟩
  have hw := fun d (hd : d ∈ tables_1) => atoms_spec (ws := Jvm.Cond.code x code maxLocals ret :: tables_1) hat d (List.mem_cons_of_mem _ hd)
  have hfit : Fit s := fun {y c} hc i hi => by
    obtain ⟨ha, rfl⟩ := Array.getElem?_eq_some_iff.mp hc
    have q := List.all_eq_true.mp ((Array.all_eq_true_iff_forall_mem.mp hF) _ (Array.getElem_mem ha)) i (List.mem_range.mpr hi)
    simpa [Array.getElem?_eq_getElem hi] using q
  obtain ⟨i0, ei0⟩ := is_v ga0
  obtain rfl : w0_ = (.int i0) := Option.some.inj ei0
  obtain ⟨i1, ei1⟩ := is_v ga1
  obtain rfl : w1_ = (.int i1) := Option.some.inj ei1
  obtain ⟨i2, ei2⟩ := is_v ga2
  obtain rfl : w2_ = (.int i2) := Option.some.inj ei2
  obtain ⟨n, o, h1, h2, h3, _, L, rfl, ⟨rfl, N, -⟩, hq⟩ := rm0 l s _ hw tables_1 i0 i1 i2 s.heap s.heap.size (Nat.le_refl _) p e ha hc hk s m _ below hf ((Spec.applies_iff_loose hf).mp happ).1 ⟨rfl, State.Warmed39.refl s, rfl⟩ trivial
  refine ⟨n, _, h1, h2, h3, hpost _ _ _ _ _ _ ⟨Cond.after_iff.mpr rfl, Cond.after_iff.mpr (eq_i res_at (Term.int_eval (1)) rfl), trivial⟩ ⟨hq.1, hq.2.1, (hq.2.2.sift fun y hy => Or.inr (N y hy)).mono (by decide) (by decide)⟩⟩
theorem main_1_1 : Claimed_1_1 := comes_1 fun _ _ _ _ _ _ h hF => ⟨h.1, hF⟩
theorem main_1_2 : Claimed_1_2 := comes_1 fun _ _ _ _ _ _ h hF => ⟨h.2.1, hF⟩
end Jvm.Pilot.@@N@@
namespace Jvm.Pilot.@@N@@
open Jvm Jvm.ClassFile Sem Op Lib Jvm.Free Jvm.Stand Jvm.Pilot.@@N@@.Jvm.D
/-! MADE BY PROGRAM (witnessworld.py) out of the Statement's table words and the real class files: 12 classes; the members and pool entries that the words name. The judged class is class 1, her method 1. -/
namespace start1
open Jvm.ClassFile
def u (s : String) : CpInfo := .utf8 (stringToUtf16 s)
/-- a pool by its gaps: so many unusable entries, then the entry; so many at the end -/
def gap : Nat → List CpInfo → List CpInfo
  | 0, r => r
  | n + 1, r => .unusable :: gap n r
def poolList (es : List (Nat × CpInfo)) (last : Nat) : List CpInfo := es.foldr (fun e r => gap e.1 (e.2 :: r)) (gap last [])
def pool (es : List (Nat × CpInfo)) (last : Nat) : Array CpInfo := ⟨poolList es last⟩
def fileOf (pool : Array CpInfo) (this : Nat) (attrs : Array Attribute := #[]) (ms : Array MethodInfo := #[]) (fl : Nat := 33) (sup : Nat := 0) (ifs : Array Nat := #[]) (fds : Array FieldInfo := #[]) : ClassFile where
  minorVersion := 0
  majorVersion := 65
  constantPool := pool
  accessFlags := fl
  thisClass := this
  superClass := sup
  interfaces := ifs
  fields := fds
  methods := ms
  attributes := attrs
def plain (name : String) (sup : Option ClassId) : Class where
  name := name
  kind := .ordinary
  loader := none
  accessFlags := 33
  super := sup
  interfaces := #[]
  cf := none
  fields := #[]
  methods := #[]
  instanceTypes := #[]
  staticTypes := #[]
  resolved := #[]
  callSites := []
  init := .initialized
  statics := none
  mirror := none

def pool0 : Array CpInfo := pool [(5, u "<init>"), (0, u "()V"), (1, .class_ 10), (1, u "java/lang/Object")] 113

def k0m0 : Method := { name := "<init>", desc := "()V", sig := { parameters := [], returnType := none }, accessFlags := 1, code := none }
/-- java/lang/Object -/
def k0 : Class := { plain "java/lang/Object" none with
  accessFlags := 33
  interfaces := #[]
  cf := some (fileOf pool0 8 #[] #[{ accessFlags := 1, nameIndex := 5, descriptorIndex := 6, attributes := #[] }] 33 0 #[] #[])
  fields := #[]
  methods := #[k0m0]
  instanceTypes := #[]
  staticTypes := #[]
  resolved := Array.replicate 124 none
  statics := none }

def pool1 : Array CpInfo := pool [(2, .class_ 4), (1, u "java/lang/Object"), (0, u "<init>"), (0, u "()V"), (0, .double 13830554455654793216), (1, .methodref 10 11), (0, .class_ 12), (0, .nameAndType 13 14), (0, u "com/example/adjudica/adjudica/engine/Arithmetic"), (0, u "sign"), (0, u "(DD)D"), (0, .class_ 16), (0, u "com/example/adjudica/adjudica/engine/ArithmeticSignPinLaw"), (2, u "law"), (0, u "(III)Z")] 3

def k1m0 : Method := { name := "<init>", desc := "()V", sig := { parameters := [], returnType := none }, accessFlags := 2, code := none }
def k1c1 : Code := { maxStack := 4, maxLocals := 17, code := code, exceptionTable := #[], attributes := #[] }
def k1m1 : Method := { name := "law", desc := "(III)Z", sig := { parameters := [.int, .int, .int], returnType := some .boolean }, accessFlags := 9, code := some k1c1 }
/-- com/example/adjudica/adjudica/engine/ArithmeticSignPinLaw -/
def k1 : Class := { plain "com/example/adjudica/adjudica/engine/ArithmeticSignPinLaw" (some 0) with
  accessFlags := 49
  interfaces := #[]
  cf := some (fileOf pool1 15 #[] #[{ accessFlags := 2, nameIndex := 5, descriptorIndex := 6, attributes := #[] }, { accessFlags := 9, nameIndex := 19, descriptorIndex := 20, attributes := #[] }] 49 2 #[] #[])
  fields := #[]
  methods := #[k1m0, k1m1]
  instanceTypes := #[]
  staticTypes := #[]
  resolved := Array.replicate 24 none
  statics := none }

def pool2 : Array CpInfo := pool [(1, .class_ 2), (0, u "java/lang/constant/Constable"), (0, .class_ 4), (0, u "java/lang/Object")] 6

/-- java/lang/constant/Constable -/
def k2 : Class := { plain "java/lang/constant/Constable" (some 0) with
  accessFlags := 1537
  interfaces := #[]
  cf := some (fileOf pool2 1 #[] #[] 1537 3 #[] #[])
  fields := #[]
  methods := #[]
  instanceTypes := #[]
  staticTypes := #[]
  resolved := Array.replicate 11 none
  statics := none }

def pool3 : Array CpInfo := pool [(1, .class_ 2), (0, u "java/lang/Comparable"), (0, .class_ 4), (0, u "java/lang/Object")] 7

/-- java/lang/Comparable -/
def k3 : Class := { plain "java/lang/Comparable" (some 0) with
  accessFlags := 1537
  interfaces := #[]
  cf := some (fileOf pool3 1 #[] #[] 1537 3 #[] #[])
  fields := #[]
  methods := #[]
  instanceTypes := #[]
  staticTypes := #[]
  resolved := Array.replicate 12 none
  statics := none }

def pool4 : Array CpInfo := pool [(1, .class_ 2), (0, u "java/io/Serializable"), (0, .class_ 4), (0, u "java/lang/Object")] 2

/-- java/io/Serializable -/
def k4 : Class := { plain "java/io/Serializable" (some 0) with
  accessFlags := 1537
  interfaces := #[]
  cf := some (fileOf pool4 1 #[] #[] 1537 3 #[] #[])
  fields := #[]
  methods := #[]
  instanceTypes := #[]
  staticTypes := #[]
  resolved := Array.replicate 7 none
  statics := none }

def pool5 : Array CpInfo := pool [(2, .class_ 4), (1, u "java/lang/Enum"), (0, u "name"), (0, u "Ljava/lang/String;"), (2, u "ordinal"), (0, u "I"), (1, .class_ 14), (1, u "java/lang/Object"), (4, u "hash"), (86, .class_ 108), (1, u "java/lang/Enum$EnumDesc"), (2, .class_ 112), (0, u "java/lang/constant/Constable"), (0, .class_ 114), (0, u "java/lang/Comparable"), (0, .class_ 116), (0, u "java/io/Serializable")] 87

/-- java/lang/Enum -/
def k5 : Class := { plain "java/lang/Enum" (some 0) with
  accessFlags := 1057
  interfaces := #[2, 3, 4]
  cf := some (fileOf pool5 2 #[.nestMembers #[106]] #[] 1057 12 #[111, 113, 115] #[{ accessFlags := 18, nameIndex := 5, descriptorIndex := 6, attributes := #[] }, { accessFlags := 18, nameIndex := 9, descriptorIndex := 10, attributes := #[] }, { accessFlags := 2, nameIndex := 19, descriptorIndex := 10, attributes := #[] }])
  fields := #[{ name := "name", type := (.object "java/lang/String"), accessFlags := 18, slot := 0, constantValue := 0 }, { name := "ordinal", type := .int, accessFlags := 18, slot := 1, constantValue := 0 }, { name := "hash", type := .int, accessFlags := 2, slot := 2, constantValue := 0 }]
  methods := #[]
  instanceTypes := #[(.object "java/lang/String"), .int, .int]
  staticTypes := #[]
  resolved := Array.replicate 204 none
  statics := none }

def pool6 : Array CpInfo := pool [(1, .class_ 2), (0, u "com/example/adjudica/adjudica/engine/Arithmetic"), (2, u "INTEGRAL"), (0, u "Lcom/example/adjudica/adjudica/engine/Arithmetic;"), (2, u "FLOAT"), (2, u "DOUBLE"), (2, u "DECIMAL"), (2, u "$VALUES"), (0, u "[Lcom/example/adjudica/adjudica/engine/Arithmetic;"), (6, .class_ 28), (1, u "java/lang/Enum"), (53, u "sign"), (0, u "(DD)D"), (33, .double 13830554455654793216), (1, .double 9221120237041090560), (59, u "LONG_MIN"), (0, u "Ljava/math/BigDecimal;"), (2, u "LONG_MAX")] 79

def k6c0 : Code := { maxStack := 4, maxLocals := 6, code := prog_147_method_8_code, exceptionTable := #[], attributes := #[] }
def k6m0 : Method := { name := "sign", desc := "(DD)D", sig := { parameters := [.double, .double], returnType := some .double }, accessFlags := 8, code := some k6c0 }
/-- com/example/adjudica/adjudica/engine/Arithmetic -/
def k6 : Class := { plain "com/example/adjudica/adjudica/engine/Arithmetic" (some 5) with
  accessFlags := 16432
  interfaces := #[]
  cf := some (fileOf pool6 1 #[] #[{ accessFlags := 8, nameIndex := 82, descriptorIndex := 83, attributes := #[] }] 16432 26 #[] #[{ accessFlags := 16409, nameIndex := 5, descriptorIndex := 6, attributes := #[] }, { accessFlags := 16409, nameIndex := 9, descriptorIndex := 6, attributes := #[] }, { accessFlags := 16409, nameIndex := 12, descriptorIndex := 6, attributes := #[] }, { accessFlags := 16409, nameIndex := 15, descriptorIndex := 6, attributes := #[] }, { accessFlags := 26, nameIndex := 179, descriptorIndex := 180, attributes := #[] }, { accessFlags := 26, nameIndex := 183, descriptorIndex := 180, attributes := #[] }, { accessFlags := 4122, nameIndex := 18, descriptorIndex := 19, attributes := #[] }])
  fields := #[{ name := "INTEGRAL", type := (.object "com/example/adjudica/adjudica/engine/Arithmetic"), accessFlags := 16409, slot := 0, constantValue := 0 }, { name := "FLOAT", type := (.object "com/example/adjudica/adjudica/engine/Arithmetic"), accessFlags := 16409, slot := 1, constantValue := 0 }, { name := "DOUBLE", type := (.object "com/example/adjudica/adjudica/engine/Arithmetic"), accessFlags := 16409, slot := 2, constantValue := 0 }, { name := "DECIMAL", type := (.object "com/example/adjudica/adjudica/engine/Arithmetic"), accessFlags := 16409, slot := 3, constantValue := 0 }, { name := "LONG_MIN", type := (.object "java/math/BigDecimal"), accessFlags := 26, slot := 4, constantValue := 0 }, { name := "LONG_MAX", type := (.object "java/math/BigDecimal"), accessFlags := 26, slot := 5, constantValue := 0 }, { name := "$VALUES", type := (.array (.object "com/example/adjudica/adjudica/engine/Arithmetic")), accessFlags := 4122, slot := 6, constantValue := 0 }]
  methods := #[k6m0]
  instanceTypes := #[(.object "java/lang/String"), .int, .int]
  staticTypes := #[(.object "com/example/adjudica/adjudica/engine/Arithmetic"), (.object "com/example/adjudica/adjudica/engine/Arithmetic"), (.object "com/example/adjudica/adjudica/engine/Arithmetic"), (.object "com/example/adjudica/adjudica/engine/Arithmetic"), (.object "java/math/BigDecimal"), (.object "java/math/BigDecimal"), (.array (.object "com/example/adjudica/adjudica/engine/Arithmetic"))]
  resolved := Array.replicate 263 none
  statics := none }

def pool7 : Array CpInfo := pool [(1, u "java/lang/Cloneable"), (0, .class_ 1), (0, u "java/lang/Object"), (0, .class_ 3)] 3

/-- java/lang/Cloneable -/
def k7 : Class := { plain "java/lang/Cloneable" (some 0) with
  accessFlags := 1537
  interfaces := #[]
  cf := some (fileOf pool7 2 #[] #[] 1537 4 #[] #[])
  fields := #[]
  methods := #[]
  instanceTypes := #[]
  staticTypes := #[]
  resolved := Array.replicate 8 none
  statics := none }

/-- the primitive byte -/
def k8 : Class := { plain "byte" none with kind := .primitive 'B', accessFlags := 0x411 }
/-- [B -/
def k9 : Class := { plain "[B" (some 0) with kind := .array 8 .byte, interfaces := #[7, 4], accessFlags := 1041 }

/-- the primitive int -/
def k10 : Class := { plain "int" none with kind := .primitive 'I', accessFlags := 0x411 }
/-- [I -/
def k11 : Class := { plain "[I" (some 0) with kind := .array 10 .int, interfaces := #[7, 4], accessFlags := 1041 }

def heap : Heap := #[]
def classes : Array Class := #[k0, k1, k2, k3, k4, k5, k6, k7, k8, k9, k10, k11]
def interned : List (Array UInt16 × Addr) := []
def slotsUsed : Nat := 0
def theMethod : MethodId := ⟨1, 1⟩
def args0 : Array Value := #[.int 5, .int 3, .int 2]
def aboutOver (below : List Frame) : State where
  vm := { classes := classes, interned := interned.toArray }
  heap := heap
  slotsUsed := slotsUsed
  threads := #[{ frames := .invoking theMethod args0 :: below }]
def below0 : List Frame := [.native { method := ⟨0, 0⟩, args := #[] }]
def about1 : State := aboutOver below0
def p0 : Program := .bare "" "" ""
def e0 : Env := launch0.env 0 0 0
theorem w_frames : about1.frames = Frame.invoking theMethod args0 :: below0 := rfl
set_option maxRecDepth 65536 in
theorem w_args : argsFit about1.vm theMethod args0 = true := by decide +kernel
set_option maxRecDepth 65536 in
theorem w_heap : heapFits about1 = true := by decide +kernel
set_option maxRecDepth 65536 in
theorem w_runnable : about1.curStatus? = some .runnable := by decide +kernel
set_option maxRecDepth 65536 in
theorem w_alone : about1.alone = true := by decide +kernel
set_option maxRecDepth 65536 in
theorem w_named : about1.methodNamed? x = some theMethod := by decide +kernel
set_option maxRecDepth 65536 in
theorem w_hears : about1.hears theMethod below0 = true := by decide +kernel
set_option maxRecDepth 65536 in
theorem w_ripe : about1.ripe theMethod args0 below0 = true := by decide +kernel
theorem w_running : about1.status = .running := rfl
set_option maxRecDepth 65536 in
theorem w_room : about1.hasRoom e0.platform room_1 = true :=
  launch0.hasRoom_least _ room_1 (by decide +kernel) (by decide +kernel) (by decide +kernel) (by decide +kernel) (by decide +kernel) (by decide +kernel)
theorem allAtoms_all (ts : List Jvm.Cond) (a : Array Jvm.Value) (st : Jvm.State) : (allAtoms ts).before a st = ts.all (fun c => c.before a st) := by
  induction ts with
  | nil => rfl
  | cons c t ih =>
    show (Jvm.Cond.and c (allAtoms t)).before a st = _
    rw [Jvm.Cond.before_and, ih, List.all_cons]
def words1 : List Jvm.Cond := Jvm.Cond.code x code maxLocals ret :: tables_1
/-- a 'code' word, met by the world's own term for the bytes: nothing is compared byte by byte -/
theorem code_word {y : MethodName} {bytes : ByteArray} {mx : Nat} {rt : Option FieldType} {a : Array Value} {s : State} {m : MethodId} {meth : Method} {c : Code} (h1 : s.methodNamed? y = some m) (h2 : s.vm.method? m = some meth) (h3 : meth.code = some c) (h4 : c.code = bytes)
    (h5 : (c.maxLocals == mx && c.exceptionTable.isEmpty && decide (c.maxStack ≤ mostOperands) && decide (meth.sig.returnType = rt) && !meth.locks && decide (parseMethodDescriptor y.desc = some meth.sig)) = true) : (Jvm.Cond.code y bytes mx rt).before a s = true := by
  simp only [Bool.and_eq_true, beq_iff_eq, Bool.not_eq_true', decide_eq_true_eq] at h5
  obtain ⟨⟨⟨⟨⟨g1, g2⟩, g3⟩, g4⟩, g5⟩, g6⟩ := h5
  simp [Cond.before, Cond.holds, Cond.value, h1, h2, h3, h4, g1, g2, g3, g4, g5, g6]
def isCode : Jvm.Cond → Bool
  | .code _ _ _ _ => true
  | _ => false
theorem all_split {L : List Jvm.Cond} {P : Jvm.Cond → Bool} (h1 : L.all (fun c => isCode c || P c) = true) (h2 : ∀ c ∈ L.filter isCode, P c = true) : L.all P = true := by
  refine List.all_eq_true.mpr fun c hc => ?_
  have h := List.all_eq_true.mp h1 c hc
  rcases Bool.eq_false_or_eq_true (isCode c) with hi | hi
  · exact h2 c (List.mem_filter.mpr ⟨hc, hi⟩)
  · simpa [hi] using h
set_option maxRecDepth 65536 in
theorem w_c0 : (Jvm.Cond.code x code maxLocals ret).before args0 about1 = true := code_word (m := ⟨1, 1⟩) (meth := k1m1) (c := k1c1) (by decide +kernel) rfl rfl rfl (by decide +kernel)
set_option maxRecDepth 65536 in
theorem w_c1 : (Jvm.Cond.code ({ cls := "com/example/adjudica/adjudica/engine/Arithmetic", name := "sign", desc := "(DD)D" } : Jvm.MethodName) prog_147_method_8_code (6 : Nat) (Option.some Jvm.ClassFile.FieldType.double)).before args0 about1 = true := code_word (m := ⟨6, 0⟩) (meth := k6m0) (c := k6c0) (by decide +kernel) rfl rfl rfl (by decide +kernel)
def codes1 : List Jvm.Cond := [Jvm.Cond.code x code maxLocals ret, Jvm.Cond.code ({ cls := "com/example/adjudica/adjudica/engine/Arithmetic", name := "sign", desc := "(DD)D" } : Jvm.MethodName) prog_147_method_8_code (6 : Nat) (Option.some Jvm.ClassFile.FieldType.double)]
set_option maxRecDepth 65536 in
theorem codes_eq : words1.filter isCode = codes1 := rfl
theorem w_codes : ∀ c ∈ words1.filter isCode, c.before args0 about1 = true := by
  rw [codes_eq]
  intro c hc
  simp only [codes1, List.mem_cons, List.not_mem_nil, or_false] at hc
  rcases hc with rfl | rfl
  · exact w_c0
  · exact w_c1
set_option maxRecDepth 65536 in
theorem w_t1 : words1.all (fun c => isCode c || c.before args0 about1) = true := by decide +kernel
theorem w_tables : (allAtoms (Jvm.Cond.code x code maxLocals ret :: tables_1)).before args0 about1 = true := by
  rw [allAtoms_all]
  show words1.all (fun c => c.before args0 about1) = true
  refine all_split ?_ w_codes
  rw [w_t1]
set_option maxRecDepth 65536 in
theorem w_case : (Jvm.Cond.and given_1 narrow_1).before args0 about1 = true := by decide +kernel
theorem w_applies : (headSpec (Jvm.Cond.code x code maxLocals ret :: tables_1) room_1).applies x e0.platform about1 = true :=
  (Spec.applies_iff w_frames).mpr ⟨w_running, w_runnable, w_alone, w_named, w_hears, w_ripe, w_room, w_tables⟩
theorem atStart : AtStart classFile x code maxLocals ret World_1 tables_1 room_1 Calls_1 rest_1 Pre_1 launch0 p0 e0 about1 theMethod args0 below0 :=
  ⟨lists_1, trivial, launch0.admits_env _ _ _, launch0.least_env, fairChoices_fair.cas, fairChoices_fair.clock, w_frames, w_args, w_heap, w_applies, trivial, trivial, w_case⟩
end start1
theorem witness_1 : WitnessClaimed_1 := ⟨start1.p0, start1.e0, start1.about1, start1.theMethod, start1.args0, start1.below0, start1.atStart⟩
end Jvm.Pilot.@@N@@
