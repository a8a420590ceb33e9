import JvmDerived
import JvmDerived.Pilot.@@N@@Statement
import JvmDerived.Pilot.@@N@@Code
set_option linter.unusedVariables false
set_option linter.unusedSimpArgs false

namespace Jvm.RoadKit
open Sem ClassFile Op Lib Jvm.Stand Jvm.Free Jvm.LawKit
section New
variable {p : Program} {l : Launch} {e : Env} {R : Room} {s : State} {m : MethodId} {args : Array Value} {below : List Frame} {meth : Method} {c : Code} {T : State} {locs : List Loc} {cells slots : Nat}
theorem retI (X : Stand p l e R s m args below meth c T locs cells slots) (hx : p.tables.exec = Jvm.exec) {pc : Nat} {Ls : Array Slot} {z : Int32} {rest : List Value} (hret : meth.sig.returnType = some .int) (hd : decode c.code pc = .ok (.ireturn, 1)) {fs : List Frame}
    (hl : ∀ (f : JFrame) (acts : List Action), f.method = m → f.locked = none → f.entered = [] → (doReturn e (T.setTop f) acts (some (.int z))).1 = T.setFrames fs) : Steps p.tables e below (T.setTop (mkF m pc Ls (.int z :: rest))) (T.setFrames fs) := by
  have hm' : T.vm.method? m = some meth := X.method'
  have hn : narrow .int (.int z) = .int z := rfl
  show Steps p.tables e below (T.setTop { method := m, pc := pc, locals := Ls, stack := _ :: rest, locked := none }) _
  jvm_step X.here [X.here.top, hx, hd, hm', hret, hn]
  first | (intro acts; rw [hl _ acts rfl rfl rfl]) | rw [hl _ _ rfl rfl rfl]
  exact Steps.refl _
end New
end Jvm.RoadKit

namespace Jvm.Pilot.@@N@@
open Jvm Jvm.ClassFile Sem Op Lib Jvm.Free Jvm.Stand Jvm.LawKit Jvm.RoadKit Bundle Jvm.Pilot.@@N@@.Jvm.D

def Q1 (Z : State) (r : Value) (h0 : Heap) (n0 : Nat) (v : Option Value) (h : Heap) (L : List Loc) : Prop := v = some r ∧ Fr n0 L ∧ h = h0
def polF (k : Int32) (u0 u1 u2 u3 u4 : Addr) : Addr := if k = 0 then u0 else if k = 1 then u1 else if k = 2 then u2 else if k = 3 then u3 else u4
def routeF (k : Int32) (r0 r1 r2 : Addr) : Addr := if k = 0 then r0 else if k = 1 then r1 else r2
def expF (k q : Int32) : Int32 := if q = 0 then 1 else if q = 1 then (if k = 1 then 0 else 1) else (if k = 4 then 1 else 0)
def usesF (t0 t1 t2 t3 t4 t5 a : Addr) : Int32 := if t0 = a then 1 else if t1 = a then 1 else if t2 = a then 1 else if t3 = a then 1 else if t4 = a then 1 else if t5 = a then 1 else 0
def Elem (cl : Cell) (j : Int32) (a : Addr) : Prop := ¬ (j < 0 ∨ cl.slots.size ≤ j.toNatClampNeg) ∧ cl.slots[j.toNatClampNeg]? = some (.ref a)
theorem own_eqR {args : Array Value} {first s : State} {o : Option Outcome} {idx : List Nat} {t t' : Term} {a : Addr} (h : (Cond.eq t t').value args first o s idx = some true) (h' : t'.eval args first o idx s = some (.ref a)) : t.eval args first o idx s = some (.ref a) := by
  obtain ⟨x, y, hx, hy, k1, k2⟩ := cmp_v (Or.inl h)
  have hy' : y = .ref a := Option.some.inj (hy.symm.trans h')
  subst hy'
  have hr : x.isRef = true := k2.2
  have q := gotT (eq_R hx h' hr rfl) h
  rw [hx, q]
theorem own_len {args : Array Value} {s : State} {t : Term} {a : Addr} {cl : Cell} {k : Int32} (h : (Term.length t).eval args s none [] s = some (.int k)) (ht : t.eval args s none [] s = some (.ref a)) (hc : s.heap[a]? = some cl) : cl.slots.size.toInt32 = k := by
  obtain ⟨a', cell, h1, h2, h3⟩ := Term.length_spec h
  cases ht.symm.trans h1
  cases hc.symm.trans (State.arrayAt?_spec h2).1
  exact (Value.int.inj h3).symm
theorem own_eqI {args : Array Value} {first s : State} {o : Option Outcome} {idx : List Nat} {t : Term} {k : Int32} (h : (Cond.eq t (.int k)).value args first o s idx = some true) : t.eval args first o idx s = some (.int k) := by
  obtain ⟨x, y, hx, hy, k1, -⟩ := cmp_v (Or.inl h)
  have hy' : y = .int k := (Option.some.inj hy).symm
  subst hy'
  cases x with
  | int z => rw [hx]; simp only [Cond.value, hx, hy] at h; simpa using h
  | _ => simp [Kin, Value.isRef] at k1
theorem d1_0 : decode method_2_code 0 = .ok (.iload_n 0, 1) := by decide +kernel
theorem d1_1 : decode method_2_code 1 = .ok (.ifCond .ne 7, 3) := by decide +kernel
theorem d1_4 : decode method_2_code 4 = .ok (.getstatic 7, 3) := by decide +kernel
theorem d1_7 : decode method_2_code 7 = .ok (.areturn, 1) := by decide +kernel
theorem d1_8 : decode method_2_code 8 = .ok (.iload_n 0, 1) := by decide +kernel
theorem d1_9 : decode method_2_code 9 = .ok (.iconst 1, 1) := by decide +kernel
theorem d1_10 : decode method_2_code 10 = .ok (.if_icmp .ne 7, 3) := by decide +kernel
theorem d1_13 : decode method_2_code 13 = .ok (.getstatic 13, 3) := by decide +kernel
theorem d1_16 : decode method_2_code 16 = .ok (.areturn, 1) := by decide +kernel
theorem d1_17 : decode method_2_code 17 = .ok (.iload_n 0, 1) := by decide +kernel
theorem d1_18 : decode method_2_code 18 = .ok (.iconst 2, 1) := by decide +kernel
theorem d1_19 : decode method_2_code 19 = .ok (.if_icmp .ne 7, 3) := by decide +kernel
theorem d1_22 : decode method_2_code 22 = .ok (.getstatic 16, 3) := by decide +kernel
theorem d1_25 : decode method_2_code 25 = .ok (.areturn, 1) := by decide +kernel
theorem d1_26 : decode method_2_code 26 = .ok (.iload_n 0, 1) := by decide +kernel
theorem d1_27 : decode method_2_code 27 = .ok (.iconst 3, 1) := by decide +kernel
theorem d1_28 : decode method_2_code 28 = .ok (.if_icmp .ne 7, 3) := by decide +kernel
theorem d1_31 : decode method_2_code 31 = .ok (.getstatic 19, 3) := by decide +kernel
theorem d1_34 : decode method_2_code 34 = .ok (.areturn, 1) := by decide +kernel
theorem d1_35 : decode method_2_code 35 = .ok (.getstatic 22, 3) := by decide +kernel
theorem d1_38 : decode method_2_code 38 = .ok (.areturn, 1) := by decide +kernel
theorem pn1 : plainName "com/example/hawtip/hawtip/dispatch/PolicyUsesPinLaw" = true := by first | (simp [plainName, overriddenIn]; done) | decide +kernel
theorem ef1 (m : MethodId) (x0 : Int32) : entryFrame m #[(.int x0)] 1 = mkF m 0 #[.val (.int x0)] [] := by first | (simp [entryFrame, mkF, argsToLocals, Value.category]; done) | rfl
set_option maxRecDepth 65536 in
set_option maxHeartbeats 40000000 in
theorem rm1 (l : Launch) (Z : State) (a0 : Array Value) (hw : ∀ d ∈ tables_1, d.before a0 Z = true) (ws : List Jvm.Cond) (k : Int32) (u0 u1 u2 u3 u4 : Addr) (h0 : Heap) (n0 : Nat) (Z0 : n0 ≤ h0.size) (S_ALL : Sta Z h0 "com/example/hawtip/hawtip/dispatch/Policy" "ALL" "Lcom/example/hawtip/hawtip/dispatch/Policy;" (.ref u0)) (S_DIRECT : Sta Z h0 "com/example/hawtip/hawtip/dispatch/Policy" "DIRECT" "Lcom/example/hawtip/hawtip/dispatch/Policy;" (.ref u1)) (S_MESSAGE : Sta Z h0 "com/example/hawtip/hawtip/dispatch/Policy" "MESSAGE" "Lcom/example/hawtip/hawtip/dispatch/Policy;" (.ref u2)) (S_EXECUTION : Sta Z h0 "com/example/hawtip/hawtip/dispatch/Policy" "EXECUTION" "Lcom/example/hawtip/hawtip/dispatch/Policy;" (.ref u3)) (S_CONNECTION : Sta Z h0 "com/example/hawtip/hawtip/dispatch/Policy" "CONNECTION" "Lcom/example/hawtip/hawtip/dispatch/Policy;" (.ref u4)) :
    MetFree l (⟨"com/example/hawtip/hawtip/dispatch/PolicyUsesPinLaw", "policyOf", "(I)Lcom/example/hawtip/hawtip/dispatch/Policy;"⟩ : MethodName) (head1 (Jvm.Cond.code (⟨"com/example/hawtip/hawtip/dispatch/PolicyUsesPinLaw", "policyOf", "(I)Lcom/example/hawtip/hawtip/dispatch/Policy;"⟩ : MethodName) method_2_code 1 (some (.object "com/example/hawtip/hawtip/dispatch/Policy")) :: ws) ({ frames := 0, cells := 0, slots := 0, locals := 0 } : Room)) (fun aa_ U => aa_ = #[(.int k)] ∧ Z.Warmed39 U.vm ∧ U.heap = h0) (fun _ _ _ _ _ => True) (fun _ U o U' => ∃ vv_ LL_, o = .returned vv_ ∧ Q1 Z (.ref (polF k u0 u1 u2 u3 u4)) h0 n0 vv_ U'.heap LL_ ∧ FrameEnd U o U' LL_ ({ frames := 0, cells := 0, slots := 0, locals := 0 } : Room).cells ({ frames := 0, cells := 0, slots := 0, locals := 0 } : Room).slots) := by
  refine MetFree.of_bodySF (plainFor_of_name pn1) hisR ?_
  intro p e s m args below meth c s₁ Bd hml0 hP hK
  obtain ⟨rfl, hZ, hh⟩ := hP
  have hx := Bd.exec
  have hby := Bd.bytes
  have hml : c.maxLocals = 1 := hml0
  have hown : s.vm.findClass "com/example/hawtip/hawtip/dispatch/PolicyUsesPinLaw" = some m.cls := findClass_of_methodNamed Bd.named
  have hnm := (name_of_methodNamed Bd.named Bd.method).1
  have X0 : Stand p l e ({ frames := 0, cells := 0, slots := 0, locals := 0 } : Room) s m #[(.int k)] below meth c s₁ [] 0 0 := Stand.of_body Bd
  have e0 : s₁.heap = h0 := by rw [← hh, Bd.state]; rfl
  have N0 := Fr.nil n0
  have pre0 : ∀ tg_, Steps p.tables e below (s₁.setTop (mkF m 0 #[.val (.int k)] [])) tg_ → Steps p.tables e below (s₁.setTop (entryFrame m #[(.int k)] 1)) tg_ := fun tg_ kt => castTop (ef1 m k) kt
  have pre1 : ∀ tg_, Steps p.tables e below (s₁.setTop (mkF m 1 #[.val (.int k)] [(.int k)])) tg_ → Steps p.tables e below (s₁.setTop (entryFrame m #[(.int k)] 1)) tg_ := by
    intro tg_ kt
    refine pre0 _ ?_
    show Steps p.tables e below (s₁.setTop (mkF m 0 #[.val (.int k)] [])) _
    refine XS.iloadN X0.here hx rfl (hb hby d1_0) rfl ?_
    exact kt
  by_cases hc1_2 : k = (0 : Int32)
  · obtain ⟨T3, X3, e3, st3⟩ := getS2 X0 hx hZ hown (host := "") (Or.inl (hw _ (List.mem_of_getElem? (i := 5) rfl))) Via.refl e0 S_ALL (g := (mkF m 4 #[.val (.int k)] [])) rfl (hb hby d1_4)
    have pre4 : ∀ tg_, Steps p.tables e below (T3.setTop (mkF m 7 #[.val (.int k)] [(.ref u0)])) tg_ → Steps p.tables e below (s₁.setTop (entryFrame m #[(.int k)] 1)) tg_ := by
      intro tg_ kt
      refine pre1 _ ?_
      show Steps p.tables e below (s₁.setTop (mkF m 1 #[.val (.int k)] [(.int k)])) _
      refine XS.ifNo X0.here hx rfl (hb hby d1_1) rfl (XT.i0_ne_f hc1_2) ?_
      show Steps p.tables e below (s₁.setTop (mkF m 4 #[.val (.int k)] [])) _
      refine st3 _ ?_
      exact kt
    obtain ⟨fs, hr, hrun, hended, hW, hsame⟩ := X3.leave (v := some (.ref u0)) (fun h => by rw [Bd.returns] at h; cases h)
    refine ⟨_, _, pre4 _ ?_, hrun, hended, _, _, rfl, ?_, ⟨_, rfl⟩, hW, hsame.mono (by decide) (by decide)⟩
    · show Steps p.tables e below (T3.setTop (mkF m 7 #[.val (.int k)] [(.ref u0)])) _
      jvm_step X3.here [X3.here.top, hx, (hb hby d1_7), X3.method', Bd.returns, Value.isRef, FieldType.isReference]
      first | (intro acts; rw [hr _ acts rfl rfl rfl]) | rw [hr _ _ rfl rfl rfl]
      exact Steps.refl _
    · show Q1 Z (.ref (polF k u0 u1 u2 u3 u4)) h0 n0 _ T3.heap _
      rw [e3]
      exact ⟨by simp [polF, hc1_2], N0, rfl⟩
  · have pre5 : ∀ tg_, Steps p.tables e below (s₁.setTop (mkF m 10 #[.val (.int k)] [(.int (1 : Int32)), (.int k)])) tg_ → Steps p.tables e below (s₁.setTop (entryFrame m #[(.int k)] 1)) tg_ := by
      intro tg_ kt
      refine pre1 _ ?_
      show Steps p.tables e below (s₁.setTop (mkF m 1 #[.val (.int k)] [(.int k)])) _
      refine XS.ifYes X0.here hx rfl (pc0 := 1) (pc' := 8) rfl (hb hby d1_1) rfl (XT.i0_ne_t hc1_2) (by decide) (by decide) ?_
      show Steps p.tables e below (s₁.setTop (mkF m 8 #[.val (.int k)] [])) _
      refine XS.iloadN X0.here hx rfl (hb hby d1_8) rfl ?_
      show Steps p.tables e below (s₁.setTop (mkF m 9 #[.val (.int k)] [(.int k)])) _
      refine XS.iconst X0.here hx rfl (hb hby d1_9) ?_
      exact kt
    by_cases hc10_6 : k = (1 : Int32)
    · obtain ⟨T7, X7, e7, st7⟩ := getS2 X0 hx hZ hown (host := "") (Or.inl (hw _ (List.mem_of_getElem? (i := 56) rfl))) Via.refl e0 S_DIRECT (g := (mkF m 13 #[.val (.int k)] [])) rfl (hb hby d1_13)
      have pre8 : ∀ tg_, Steps p.tables e below (T7.setTop (mkF m 16 #[.val (.int k)] [(.ref u1)])) tg_ → Steps p.tables e below (s₁.setTop (entryFrame m #[(.int k)] 1)) tg_ := by
        intro tg_ kt
        refine pre5 _ ?_
        show Steps p.tables e below (s₁.setTop (mkF m 10 #[.val (.int k)] [(.int (1 : Int32)), (.int k)])) _
        refine XS.icmpNo X0.here hx rfl (hb hby d1_10) rfl (XT.ii_ne_f hc10_6) ?_
        show Steps p.tables e below (s₁.setTop (mkF m 13 #[.val (.int k)] [])) _
        refine st7 _ ?_
        exact kt
      obtain ⟨fs, hr, hrun, hended, hW, hsame⟩ := X7.leave (v := some (.ref u1)) (fun h => by rw [Bd.returns] at h; cases h)
      refine ⟨_, _, pre8 _ ?_, hrun, hended, _, _, rfl, ?_, ⟨_, rfl⟩, hW, hsame.mono (by decide) (by decide)⟩
      · show Steps p.tables e below (T7.setTop (mkF m 16 #[.val (.int k)] [(.ref u1)])) _
        jvm_step X7.here [X7.here.top, hx, (hb hby d1_16), X7.method', Bd.returns, Value.isRef, FieldType.isReference]
        first | (intro acts; rw [hr _ acts rfl rfl rfl]) | rw [hr _ _ rfl rfl rfl]
        exact Steps.refl _
      · show Q1 Z (.ref (polF k u0 u1 u2 u3 u4)) h0 n0 _ T7.heap _
        rw [e7]
        exact ⟨by simp [polF, hc1_2, hc10_6], N0, rfl⟩
    · have pre9 : ∀ tg_, Steps p.tables e below (s₁.setTop (mkF m 19 #[.val (.int k)] [(.int (2 : Int32)), (.int k)])) tg_ → Steps p.tables e below (s₁.setTop (entryFrame m #[(.int k)] 1)) tg_ := by
        intro tg_ kt
        refine pre5 _ ?_
        show Steps p.tables e below (s₁.setTop (mkF m 10 #[.val (.int k)] [(.int (1 : Int32)), (.int k)])) _
        refine XS.icmpYes X0.here hx rfl (pc0 := 10) (pc' := 17) rfl (hb hby d1_10) rfl (XT.ii_ne_t hc10_6) (by decide) (by decide) ?_
        show Steps p.tables e below (s₁.setTop (mkF m 17 #[.val (.int k)] [])) _
        refine XS.iloadN X0.here hx rfl (hb hby d1_17) rfl ?_
        show Steps p.tables e below (s₁.setTop (mkF m 18 #[.val (.int k)] [(.int k)])) _
        refine XS.iconst X0.here hx rfl (hb hby d1_18) ?_
        exact kt
      by_cases hc19_10 : k = (2 : Int32)
      · obtain ⟨T11, X11, e11, st11⟩ := getS2 X0 hx hZ hown (host := "") (Or.inl (hw _ (List.mem_of_getElem? (i := 58) rfl))) Via.refl e0 S_MESSAGE (g := (mkF m 22 #[.val (.int k)] [])) rfl (hb hby d1_22)
        have pre12 : ∀ tg_, Steps p.tables e below (T11.setTop (mkF m 25 #[.val (.int k)] [(.ref u2)])) tg_ → Steps p.tables e below (s₁.setTop (entryFrame m #[(.int k)] 1)) tg_ := by
          intro tg_ kt
          refine pre9 _ ?_
          show Steps p.tables e below (s₁.setTop (mkF m 19 #[.val (.int k)] [(.int (2 : Int32)), (.int k)])) _
          refine XS.icmpNo X0.here hx rfl (hb hby d1_19) rfl (XT.ii_ne_f hc19_10) ?_
          show Steps p.tables e below (s₁.setTop (mkF m 22 #[.val (.int k)] [])) _
          refine st11 _ ?_
          exact kt
        obtain ⟨fs, hr, hrun, hended, hW, hsame⟩ := X11.leave (v := some (.ref u2)) (fun h => by rw [Bd.returns] at h; cases h)
        refine ⟨_, _, pre12 _ ?_, hrun, hended, _, _, rfl, ?_, ⟨_, rfl⟩, hW, hsame.mono (by decide) (by decide)⟩
        · show Steps p.tables e below (T11.setTop (mkF m 25 #[.val (.int k)] [(.ref u2)])) _
          jvm_step X11.here [X11.here.top, hx, (hb hby d1_25), X11.method', Bd.returns, Value.isRef, FieldType.isReference]
          first | (intro acts; rw [hr _ acts rfl rfl rfl]) | rw [hr _ _ rfl rfl rfl]
          exact Steps.refl _
        · show Q1 Z (.ref (polF k u0 u1 u2 u3 u4)) h0 n0 _ T11.heap _
          rw [e11]
          exact ⟨by simp [polF, hc1_2, hc10_6, hc19_10], N0, rfl⟩
      · have pre13 : ∀ tg_, Steps p.tables e below (s₁.setTop (mkF m 28 #[.val (.int k)] [(.int (3 : Int32)), (.int k)])) tg_ → Steps p.tables e below (s₁.setTop (entryFrame m #[(.int k)] 1)) tg_ := by
          intro tg_ kt
          refine pre9 _ ?_
          show Steps p.tables e below (s₁.setTop (mkF m 19 #[.val (.int k)] [(.int (2 : Int32)), (.int k)])) _
          refine XS.icmpYes X0.here hx rfl (pc0 := 19) (pc' := 26) rfl (hb hby d1_19) rfl (XT.ii_ne_t hc19_10) (by decide) (by decide) ?_
          show Steps p.tables e below (s₁.setTop (mkF m 26 #[.val (.int k)] [])) _
          refine XS.iloadN X0.here hx rfl (hb hby d1_26) rfl ?_
          show Steps p.tables e below (s₁.setTop (mkF m 27 #[.val (.int k)] [(.int k)])) _
          refine XS.iconst X0.here hx rfl (hb hby d1_27) ?_
          exact kt
        by_cases hc28_14 : k = (3 : Int32)
        · obtain ⟨T15, X15, e15, st15⟩ := getS2 X0 hx hZ hown (host := "") (Or.inl (hw _ (List.mem_of_getElem? (i := 49) rfl))) Via.refl e0 S_EXECUTION (g := (mkF m 31 #[.val (.int k)] [])) rfl (hb hby d1_31)
          have pre16 : ∀ tg_, Steps p.tables e below (T15.setTop (mkF m 34 #[.val (.int k)] [(.ref u3)])) tg_ → Steps p.tables e below (s₁.setTop (entryFrame m #[(.int k)] 1)) tg_ := by
            intro tg_ kt
            refine pre13 _ ?_
            show Steps p.tables e below (s₁.setTop (mkF m 28 #[.val (.int k)] [(.int (3 : Int32)), (.int k)])) _
            refine XS.icmpNo X0.here hx rfl (hb hby d1_28) rfl (XT.ii_ne_f hc28_14) ?_
            show Steps p.tables e below (s₁.setTop (mkF m 31 #[.val (.int k)] [])) _
            refine st15 _ ?_
            exact kt
          obtain ⟨fs, hr, hrun, hended, hW, hsame⟩ := X15.leave (v := some (.ref u3)) (fun h => by rw [Bd.returns] at h; cases h)
          refine ⟨_, _, pre16 _ ?_, hrun, hended, _, _, rfl, ?_, ⟨_, rfl⟩, hW, hsame.mono (by decide) (by decide)⟩
          · show Steps p.tables e below (T15.setTop (mkF m 34 #[.val (.int k)] [(.ref u3)])) _
            jvm_step X15.here [X15.here.top, hx, (hb hby d1_34), X15.method', Bd.returns, Value.isRef, FieldType.isReference]
            first | (intro acts; rw [hr _ acts rfl rfl rfl]) | rw [hr _ _ rfl rfl rfl]
            exact Steps.refl _
          · show Q1 Z (.ref (polF k u0 u1 u2 u3 u4)) h0 n0 _ T15.heap _
            rw [e15]
            exact ⟨by simp [polF, hc1_2, hc10_6, hc19_10, hc28_14], N0, rfl⟩
        · obtain ⟨T17, X17, e17, st17⟩ := getS2 X0 hx hZ hown (host := "") (Or.inl (hw _ (List.mem_of_getElem? (i := 43) rfl))) Via.refl e0 S_CONNECTION (g := (mkF m 35 #[.val (.int k)] [])) rfl (hb hby d1_35)
          have pre18 : ∀ tg_, Steps p.tables e below (T17.setTop (mkF m 38 #[.val (.int k)] [(.ref u4)])) tg_ → Steps p.tables e below (s₁.setTop (entryFrame m #[(.int k)] 1)) tg_ := by
            intro tg_ kt
            refine pre13 _ ?_
            show Steps p.tables e below (s₁.setTop (mkF m 28 #[.val (.int k)] [(.int (3 : Int32)), (.int k)])) _
            refine XS.icmpYes X0.here hx rfl (pc0 := 28) (pc' := 35) rfl (hb hby d1_28) rfl (XT.ii_ne_t hc28_14) (by decide) (by decide) ?_
            show Steps p.tables e below (s₁.setTop (mkF m 35 #[.val (.int k)] [])) _
            refine st17 _ ?_
            exact kt
          obtain ⟨fs, hr, hrun, hended, hW, hsame⟩ := X17.leave (v := some (.ref u4)) (fun h => by rw [Bd.returns] at h; cases h)
          refine ⟨_, _, pre18 _ ?_, hrun, hended, _, _, rfl, ?_, ⟨_, rfl⟩, hW, hsame.mono (by decide) (by decide)⟩
          · show Steps p.tables e below (T17.setTop (mkF m 38 #[.val (.int k)] [(.ref u4)])) _
            jvm_step X17.here [X17.here.top, hx, (hb hby d1_38), X17.method', Bd.returns, Value.isRef, FieldType.isReference]
            first | (intro acts; rw [hr _ acts rfl rfl rfl]) | rw [hr _ _ rfl rfl rfl]
            exact Steps.refl _
          · show Q1 Z (.ref (polF k u0 u1 u2 u3 u4)) h0 n0 _ T17.heap _
            rw [e17]
            exact ⟨by simp [polF, hc1_2, hc10_6, hc19_10, hc28_14], N0, rfl⟩
theorem d2_0 : decode method_3_code 0 = .ok (.iload_n 0, 1) := by decide +kernel
theorem d2_1 : decode method_3_code 1 = .ok (.ifCond .ne 7, 3) := by decide +kernel
theorem d2_4 : decode method_3_code 4 = .ok (.getstatic 25, 3) := by decide +kernel
theorem d2_7 : decode method_3_code 7 = .ok (.areturn, 1) := by decide +kernel
theorem d2_8 : decode method_3_code 8 = .ok (.iload_n 0, 1) := by decide +kernel
theorem d2_9 : decode method_3_code 9 = .ok (.iconst 1, 1) := by decide +kernel
theorem d2_10 : decode method_3_code 10 = .ok (.if_icmp .ne 7, 3) := by decide +kernel
theorem d2_13 : decode method_3_code 13 = .ok (.getstatic 31, 3) := by decide +kernel
theorem d2_16 : decode method_3_code 16 = .ok (.areturn, 1) := by decide +kernel
theorem d2_17 : decode method_3_code 17 = .ok (.getstatic 34, 3) := by decide +kernel
theorem d2_20 : decode method_3_code 20 = .ok (.areturn, 1) := by decide +kernel
theorem pn2 : plainName "com/example/hawtip/hawtip/dispatch/PolicyUsesPinLaw" = true := by first | (simp [plainName, overriddenIn]; done) | decide +kernel
theorem ef2 (m : MethodId) (x0 : Int32) : entryFrame m #[(.int x0)] 1 = mkF m 0 #[.val (.int x0)] [] := by first | (simp [entryFrame, mkF, argsToLocals, Value.category]; done) | rfl
set_option maxRecDepth 65536 in
set_option maxHeartbeats 40000000 in
theorem rm2 (l : Launch) (Z : State) (a0 : Array Value) (hw : ∀ d ∈ tables_1, d.before a0 Z = true) (ws : List Jvm.Cond) (k : Int32) (r0 r1 r2 : Addr) (h0 : Heap) (n0 : Nat) (Z0 : n0 ≤ h0.size) (S_IO : Sta Z h0 "com/example/hawtip/hawtip/dispatch/Policy$Route" "IO" "Lcom/example/hawtip/hawtip/dispatch/Policy$Route;" (.ref r0)) (S_POOL : Sta Z h0 "com/example/hawtip/hawtip/dispatch/Policy$Route" "POOL" "Lcom/example/hawtip/hawtip/dispatch/Policy$Route;" (.ref r1)) (S_CONNECTION_THREAD : Sta Z h0 "com/example/hawtip/hawtip/dispatch/Policy$Route" "CONNECTION_THREAD" "Lcom/example/hawtip/hawtip/dispatch/Policy$Route;" (.ref r2)) :
    MetFree l (⟨"com/example/hawtip/hawtip/dispatch/PolicyUsesPinLaw", "routeOf", "(I)Lcom/example/hawtip/hawtip/dispatch/Policy$Route;"⟩ : MethodName) (head1 (Jvm.Cond.code (⟨"com/example/hawtip/hawtip/dispatch/PolicyUsesPinLaw", "routeOf", "(I)Lcom/example/hawtip/hawtip/dispatch/Policy$Route;"⟩ : MethodName) method_3_code 1 (some (.object "com/example/hawtip/hawtip/dispatch/Policy$Route")) :: ws) ({ frames := 0, cells := 0, slots := 0, locals := 0 } : Room)) (fun aa_ U => aa_ = #[(.int k)] ∧ Z.Warmed39 U.vm ∧ U.heap = h0) (fun _ _ _ _ _ => True) (fun _ U o U' => ∃ vv_ LL_, o = .returned vv_ ∧ Q1 Z (.ref (routeF k r0 r1 r2)) h0 n0 vv_ U'.heap LL_ ∧ FrameEnd U o U' LL_ ({ frames := 0, cells := 0, slots := 0, locals := 0 } : Room).cells ({ frames := 0, cells := 0, slots := 0, locals := 0 } : Room).slots) := by
  refine MetFree.of_bodySF (plainFor_of_name pn2) hisR ?_
  intro p e s m args below meth c s₁ Bd hml0 hP hK
  obtain ⟨rfl, hZ, hh⟩ := hP
  have hx := Bd.exec
  have hby := Bd.bytes
  have hml : c.maxLocals = 1 := hml0
  have hown : s.vm.findClass "com/example/hawtip/hawtip/dispatch/PolicyUsesPinLaw" = some m.cls := findClass_of_methodNamed Bd.named
  have hnm := (name_of_methodNamed Bd.named Bd.method).1
  have X0 : Stand p l e ({ frames := 0, cells := 0, slots := 0, locals := 0 } : Room) s m #[(.int k)] below meth c s₁ [] 0 0 := Stand.of_body Bd
  have e0 : s₁.heap = h0 := by rw [← hh, Bd.state]; rfl
  have N0 := Fr.nil n0
  have pre0 : ∀ tg_, Steps p.tables e below (s₁.setTop (mkF m 0 #[.val (.int k)] [])) tg_ → Steps p.tables e below (s₁.setTop (entryFrame m #[(.int k)] 1)) tg_ := fun tg_ kt => castTop (ef2 m k) kt
  have pre1 : ∀ tg_, Steps p.tables e below (s₁.setTop (mkF m 1 #[.val (.int k)] [(.int k)])) tg_ → Steps p.tables e below (s₁.setTop (entryFrame m #[(.int k)] 1)) tg_ := by
    intro tg_ kt
    refine pre0 _ ?_
    show Steps p.tables e below (s₁.setTop (mkF m 0 #[.val (.int k)] [])) _
    refine XS.iloadN X0.here hx rfl (hb hby d2_0) rfl ?_
    exact kt
  by_cases hc1_2 : k = (0 : Int32)
  · obtain ⟨T3, X3, e3, st3⟩ := getS2 X0 hx hZ hown (host := "") (Or.inl (hw _ (List.mem_of_getElem? (i := 11) rfl))) Via.refl e0 S_IO (g := (mkF m 4 #[.val (.int k)] [])) rfl (hb hby d2_4)
    have pre4 : ∀ tg_, Steps p.tables e below (T3.setTop (mkF m 7 #[.val (.int k)] [(.ref r0)])) tg_ → Steps p.tables e below (s₁.setTop (entryFrame m #[(.int k)] 1)) tg_ := by
      intro tg_ kt
      refine pre1 _ ?_
      show Steps p.tables e below (s₁.setTop (mkF m 1 #[.val (.int k)] [(.int k)])) _
      refine XS.ifNo X0.here hx rfl (hb hby d2_1) rfl (XT.i0_ne_f hc1_2) ?_
      show Steps p.tables e below (s₁.setTop (mkF m 4 #[.val (.int k)] [])) _
      refine st3 _ ?_
      exact kt
    obtain ⟨fs, hr, hrun, hended, hW, hsame⟩ := X3.leave (v := some (.ref r0)) (fun h => by rw [Bd.returns] at h; cases h)
    refine ⟨_, _, pre4 _ ?_, hrun, hended, _, _, rfl, ?_, ⟨_, rfl⟩, hW, hsame.mono (by decide) (by decide)⟩
    · show Steps p.tables e below (T3.setTop (mkF m 7 #[.val (.int k)] [(.ref r0)])) _
      jvm_step X3.here [X3.here.top, hx, (hb hby d2_7), X3.method', Bd.returns, Value.isRef, FieldType.isReference]
      first | (intro acts; rw [hr _ acts rfl rfl rfl]) | rw [hr _ _ rfl rfl rfl]
      exact Steps.refl _
    · show Q1 Z (.ref (routeF k r0 r1 r2)) h0 n0 _ T3.heap _
      rw [e3]
      exact ⟨by simp [routeF, hc1_2], N0, rfl⟩
  · have pre5 : ∀ tg_, Steps p.tables e below (s₁.setTop (mkF m 10 #[.val (.int k)] [(.int (1 : Int32)), (.int k)])) tg_ → Steps p.tables e below (s₁.setTop (entryFrame m #[(.int k)] 1)) tg_ := by
      intro tg_ kt
      refine pre1 _ ?_
      show Steps p.tables e below (s₁.setTop (mkF m 1 #[.val (.int k)] [(.int k)])) _
      refine XS.ifYes X0.here hx rfl (pc0 := 1) (pc' := 8) rfl (hb hby d2_1) rfl (XT.i0_ne_t hc1_2) (by decide) (by decide) ?_
      show Steps p.tables e below (s₁.setTop (mkF m 8 #[.val (.int k)] [])) _
      refine XS.iloadN X0.here hx rfl (hb hby d2_8) rfl ?_
      show Steps p.tables e below (s₁.setTop (mkF m 9 #[.val (.int k)] [(.int k)])) _
      refine XS.iconst X0.here hx rfl (hb hby d2_9) ?_
      exact kt
    by_cases hc10_6 : k = (1 : Int32)
    · obtain ⟨T7, X7, e7, st7⟩ := getS2 X0 hx hZ hown (host := "") (Or.inl (hw _ (List.mem_of_getElem? (i := 45) rfl))) Via.refl e0 S_POOL (g := (mkF m 13 #[.val (.int k)] [])) rfl (hb hby d2_13)
      have pre8 : ∀ tg_, Steps p.tables e below (T7.setTop (mkF m 16 #[.val (.int k)] [(.ref r1)])) tg_ → Steps p.tables e below (s₁.setTop (entryFrame m #[(.int k)] 1)) tg_ := by
        intro tg_ kt
        refine pre5 _ ?_
        show Steps p.tables e below (s₁.setTop (mkF m 10 #[.val (.int k)] [(.int (1 : Int32)), (.int k)])) _
        refine XS.icmpNo X0.here hx rfl (hb hby d2_10) rfl (XT.ii_ne_f hc10_6) ?_
        show Steps p.tables e below (s₁.setTop (mkF m 13 #[.val (.int k)] [])) _
        refine st7 _ ?_
        exact kt
      obtain ⟨fs, hr, hrun, hended, hW, hsame⟩ := X7.leave (v := some (.ref r1)) (fun h => by rw [Bd.returns] at h; cases h)
      refine ⟨_, _, pre8 _ ?_, hrun, hended, _, _, rfl, ?_, ⟨_, rfl⟩, hW, hsame.mono (by decide) (by decide)⟩
      · show Steps p.tables e below (T7.setTop (mkF m 16 #[.val (.int k)] [(.ref r1)])) _
        jvm_step X7.here [X7.here.top, hx, (hb hby d2_16), X7.method', Bd.returns, Value.isRef, FieldType.isReference]
        first | (intro acts; rw [hr _ acts rfl rfl rfl]) | rw [hr _ _ rfl rfl rfl]
        exact Steps.refl _
      · show Q1 Z (.ref (routeF k r0 r1 r2)) h0 n0 _ T7.heap _
        rw [e7]
        exact ⟨by simp [routeF, hc1_2, hc10_6], N0, rfl⟩
    · obtain ⟨T9, X9, e9, st9⟩ := getS2 X0 hx hZ hown (host := "") (Or.inl (hw _ (List.mem_of_getElem? (i := 51) rfl))) Via.refl e0 S_CONNECTION_THREAD (g := (mkF m 17 #[.val (.int k)] [])) rfl (hb hby d2_17)
      have pre10 : ∀ tg_, Steps p.tables e below (T9.setTop (mkF m 20 #[.val (.int k)] [(.ref r2)])) tg_ → Steps p.tables e below (s₁.setTop (entryFrame m #[(.int k)] 1)) tg_ := by
        intro tg_ kt
        refine pre5 _ ?_
        show Steps p.tables e below (s₁.setTop (mkF m 10 #[.val (.int k)] [(.int (1 : Int32)), (.int k)])) _
        refine XS.icmpYes X0.here hx rfl (pc0 := 10) (pc' := 17) rfl (hb hby d2_10) rfl (XT.ii_ne_t hc10_6) (by decide) (by decide) ?_
        show Steps p.tables e below (s₁.setTop (mkF m 17 #[.val (.int k)] [])) _
        refine st9 _ ?_
        exact kt
      obtain ⟨fs, hr, hrun, hended, hW, hsame⟩ := X9.leave (v := some (.ref r2)) (fun h => by rw [Bd.returns] at h; cases h)
      refine ⟨_, _, pre10 _ ?_, hrun, hended, _, _, rfl, ?_, ⟨_, rfl⟩, hW, hsame.mono (by decide) (by decide)⟩
      · show Steps p.tables e below (T9.setTop (mkF m 20 #[.val (.int k)] [(.ref r2)])) _
        jvm_step X9.here [X9.here.top, hx, (hb hby d2_20), X9.method', Bd.returns, Value.isRef, FieldType.isReference]
        first | (intro acts; rw [hr _ acts rfl rfl rfl]) | rw [hr _ _ rfl rfl rfl]
        exact Steps.refl _
      · show Q1 Z (.ref (routeF k r0 r1 r2)) h0 n0 _ T9.heap _
        rw [e9]
        exact ⟨by simp [routeF, hc1_2, hc10_6], N0, rfl⟩
theorem d3_0 : decode jdk_37_method_2_code 0 = .ok (.aload_n 0, 1) := by decide +kernel
theorem d3_1 : decode jdk_37_method_2_code 1 = .ok (.getfield 7, 3) := by decide +kernel
theorem d3_4 : decode jdk_37_method_2_code 4 = .ok (.ireturn, 1) := by decide +kernel
theorem pn3 : plainName "java/lang/Enum" = true := by first | (simp [plainName, overriddenIn]; done) | decide +kernel
theorem ef3 (m : MethodId) (x0 : Addr) : entryFrame m #[(.ref x0)] 1 = mkF m 0 #[.val (.ref x0)] [] := by first | (simp [entryFrame, mkF, argsToLocals, Value.category]; done) | rfl
set_option maxRecDepth 65536 in
set_option maxHeartbeats 40000000 in
theorem rm3 (l : Launch) (Z : State) (a0 : Array Value) (hw : ∀ d ∈ tables_1, d.before a0 Z = true) (ws : List Jvm.Cond) (a : Addr) (j : Int32) (h0 : Heap) (n0 : Nat) (Z0 : n0 ≤ h0.size) (Fo : Fld Z h0 a "java/lang/Enum" "ordinal" "I" (.int j)) :
    MetFree l (⟨"java/lang/Enum", "ordinal", "()I"⟩ : MethodName) (head1 (Jvm.Cond.code (⟨"java/lang/Enum", "ordinal", "()I"⟩ : MethodName) jdk_37_method_2_code 1 (some .int) :: ws) ({ frames := 0, cells := 0, slots := 0, locals := 0 } : Room)) (fun aa_ U => aa_ = #[(.ref a)] ∧ Z.Warmed39 U.vm ∧ U.heap = h0) (fun _ _ _ _ _ => True) (fun _ U o U' => ∃ vv_ LL_, o = .returned vv_ ∧ Q1 Z (.int j) h0 n0 vv_ U'.heap LL_ ∧ FrameEnd U o U' LL_ ({ frames := 0, cells := 0, slots := 0, locals := 0 } : Room).cells ({ frames := 0, cells := 0, slots := 0, locals := 0 } : Room).slots) := by
  refine MetFree.of_bodySF (plainFor_of_name pn3) hisR ?_
  intro p e s m args below meth c s₁ Bd hml0 hP hK
  obtain ⟨rfl, hZ, hh⟩ := hP
  have hx := Bd.exec
  have hby := Bd.bytes
  have hml : c.maxLocals = 1 := hml0
  have hown : s.vm.findClass "java/lang/Enum" = some m.cls := findClass_of_methodNamed Bd.named
  have hnm := (name_of_methodNamed Bd.named Bd.method).1
  have X0 : Stand p l e ({ frames := 0, cells := 0, slots := 0, locals := 0 } : Room) s m #[(.ref a)] below meth c s₁ [] 0 0 := Stand.of_body Bd
  have e0 : s₁.heap = h0 := by rw [← hh, Bd.state]; rfl
  have N0 := Fr.nil n0
  have pre0 : ∀ tg_, Steps p.tables e below (s₁.setTop (mkF m 0 #[.val (.ref a)] [])) tg_ → Steps p.tables e below (s₁.setTop (entryFrame m #[(.ref a)] 1)) tg_ := fun tg_ kt => castTop (ef3 m a) kt
  obtain ⟨T1, X1, e1, st1⟩ := getF X0 hx hZ hown (host := "") (Or.inl (hw _ (List.mem_of_getElem? (i := 31) rfl))) Via.refl e0 Fo (g := (mkF m 1 #[.val (.ref a)] [(.ref a)])) rfl rfl (hb hby d3_1)
  have pre2 : ∀ tg_, Steps p.tables e below (T1.setTop (mkF m 4 #[.val (.ref a)] [(.int j)])) tg_ → Steps p.tables e below (s₁.setTop (entryFrame m #[(.ref a)] 1)) tg_ := by
    intro tg_ kt
    refine pre0 _ ?_
    show Steps p.tables e below (s₁.setTop (mkF m 0 #[.val (.ref a)] [])) _
    refine XS.aloadN X0.here hx rfl (hb hby d3_0) rfl rfl ?_
    show Steps p.tables e below (s₁.setTop (mkF m 1 #[.val (.ref a)] [(.ref a)])) _
    refine st1 _ ?_
    exact kt
  obtain ⟨fs, hr, hrun, hended, hW, hsame⟩ := X1.leave (v := some (.int j)) (fun h => by rw [Bd.returns] at h; cases h)
  refine ⟨_, _, pre2 _ ?_, hrun, hended, _, _, rfl, ?_, ⟨_, rfl⟩, hW, hsame.mono (by decide) (by decide)⟩
  · show Steps p.tables e below (T1.setTop (mkF m 4 #[.val (.ref a)] [(.int j)])) _
    exact retI X1 hx Bd.returns (hb hby d3_4) hr
  · show Q1 Z (.int j) h0 n0 _ T1.heap _
    rw [e1]
    exact ⟨rfl, N0, rfl⟩
theorem d4_0 : decode prog_5_method_5_code 0 = .ok (.aload_n 0, 1) := by decide +kernel
theorem d4_1 : decode prog_5_method_5_code 1 = .ok (.getfield 58, 3) := by decide +kernel
theorem d4_4 : decode prog_5_method_5_code 4 = .ok (.aload_n 1, 1) := by decide +kernel
theorem d4_5 : decode prog_5_method_5_code 5 = .ok (.invokevirtual 98, 3) := by decide +kernel
theorem d4_8 : decode prog_5_method_5_code 8 = .ok (.aaload, 1) := by decide +kernel
theorem d4_9 : decode prog_5_method_5_code 9 = .ok (.areturn, 1) := by decide +kernel
theorem pn4 : plainName "com/example/hawtip/hawtip/dispatch/Policy" = true := by first | (simp [plainName, overriddenIn]; done) | decide +kernel
theorem pd4_0 : parseMethodDescriptor "()I" = some ⟨[], some .int⟩ := by decide +kernel
theorem ef4 (m : MethodId) (x0 : Addr) (x1 : Addr) : entryFrame m #[(.ref x0), (.ref x1)] 2 = mkF m 0 #[.val (.ref x0), .val (.ref x1)] [] := by first | (simp [entryFrame, mkF, argsToLocals, Value.category]; done) | rfl
set_option maxRecDepth 65536 in
set_option maxHeartbeats 40000000 in
theorem rm4 (l : Launch) (Z : State) (a0 : Array Value) (hw : ∀ d ∈ tables_1, d.before a0 Z = true) (ws : List Jvm.Cond) (a b ra t : Addr) (j : Int32) (cl : Cell) (h0 : Heap) (n0 : Nat) (Z0 : n0 ≤ h0.size) (Fr_ : Fld Z h0 a "com/example/hawtip/hawtip/dispatch/Policy" "routes" "[Lcom/example/hawtip/hawtip/dispatch/Policy$Route;" (.ref ra)) (Fo : Fld Z h0 b "java/lang/Enum" "ordinal" "I" (.int j)) (Eb : Exa Z h0 b "com/example/hawtip/hawtip/dispatch/Event") (Ar : Arr Z h0 ra cl (.object "com/example/hawtip/hawtip/dispatch/Policy$Route")) (El : Elem cl j t) :
    MetFree l (⟨"com/example/hawtip/hawtip/dispatch/Policy", "route", "(Lcom/example/hawtip/hawtip/dispatch/Event;)Lcom/example/hawtip/hawtip/dispatch/Policy$Route;"⟩ : MethodName) (head1 (Jvm.Cond.code (⟨"com/example/hawtip/hawtip/dispatch/Policy", "route", "(Lcom/example/hawtip/hawtip/dispatch/Event;)Lcom/example/hawtip/hawtip/dispatch/Policy$Route;"⟩ : MethodName) prog_5_method_5_code 2 (some (.object "com/example/hawtip/hawtip/dispatch/Policy$Route")) :: ws) ({ frames := 1, cells := 0, slots := 0, locals := 13 } : Room)) (fun aa_ U => aa_ = #[(.ref a), (.ref b)] ∧ Z.Warmed39 U.vm ∧ U.heap = h0) (fun _ _ _ _ _ => True) (fun _ U o U' => ∃ vv_ LL_, o = .returned vv_ ∧ Q1 Z (.ref t) h0 n0 vv_ U'.heap LL_ ∧ FrameEnd U o U' LL_ ({ frames := 1, cells := 0, slots := 0, locals := 13 } : Room).cells ({ frames := 1, cells := 0, slots := 0, locals := 13 } : Room).slots) := by
  refine MetFree.of_bodySF (plainFor_of_name pn4) hisR ?_
  intro p e s m args below meth c s₁ Bd hml0 hP hK
  obtain ⟨rfl, hZ, hh⟩ := hP
  have hx := Bd.exec
  have hby := Bd.bytes
  have hml : c.maxLocals = 2 := hml0
  have hown : s.vm.findClass "com/example/hawtip/hawtip/dispatch/Policy" = some m.cls := findClass_of_methodNamed Bd.named
  have hnm := (name_of_methodNamed Bd.named Bd.method).1
  have X0 : Stand p l e ({ frames := 1, cells := 0, slots := 0, locals := 13 } : Room) s m #[(.ref a), (.ref b)] below meth c s₁ [] 0 0 := Stand.of_body Bd
  have e0 : s₁.heap = h0 := by rw [← hh, Bd.state]; rfl
  have N0 := Fr.nil n0
  have pre0 : ∀ tg_, Steps p.tables e below (s₁.setTop (mkF m 0 #[.val (.ref a), .val (.ref b)] [])) tg_ → Steps p.tables e below (s₁.setTop (entryFrame m #[(.ref a), (.ref b)] 2)) tg_ := fun tg_ kt => castTop (ef4 m a b) kt
  obtain ⟨T1, X1, e1, st1⟩ := getF X0 hx hZ hown (host := "") (Or.inl (hw _ (List.mem_of_getElem? (i := 22) rfl))) Via.refl e0 Fr_ (g := (mkF m 1 #[.val (.ref a), .val (.ref b)] [(.ref a)])) rfl rfl (hb hby d4_1)
  obtain ⟨cq2, kq2, q2a, q2b, q2c⟩ := isOf hZ e1 Eb
  obtain ⟨_, _, ⟨T2, L2, k2, n2⟩, -, X2, ⟨Lc2, hQ2, l2, y2, z2⟩, st2⟩ := X1.virtualBackUp hx (x := (⟨"com/example/hawtip/hawtip/dispatch/Event", "ordinal", "()I"⟩ : MethodName)) (y := (⟨"java/lang/Enum", "ordinal", "()I"⟩ : MethodName)) (owner := "java/lang/Enum") hown (mvT hZ (hw _ (List.mem_of_getElem? (i := 24) rfl))) (mvT hZ (hw _ (List.mem_of_getElem? (i := 25) rfl))) (mvT hZ (hw _ (List.mem_of_getElem? (i := 26) rfl))) (by decide) (mvT hZ (hw _ (List.mem_of_getElem? (i := 28) rfl))) (mvT hZ (hw _ (List.mem_of_getElem? (i := 27) rfl))) (backOf (W := 1) (rm3 l Z a0 hw [] b j h0 n0 Z0 Fo) hZ (hw _ (List.mem_of_getElem? (i := 30) rfl)) (hw _ (List.mem_of_getElem? (i := 29) rfl)) (by decide) (by decide)) q2a q2c (g := (mkF m 5 #[.val (.ref a), .val (.ref b)] [(.ref b), (.ref ra)])) rfl (by rw [hml]; rfl) (Steps.refl _) (argsL := []) (rest := [(.ref ra)]) (lenOf pd4_0 rfl) rfl (by show 2 * 0 + _ ≤ _; exact Nat.le_of_eq rfl) (hb hby d4_5) (fun _ _ => ⟨rfl, e1, (by decide : 0 + 0 ≤ _), (by decide : 0 + 0 ≤ _)⟩)
  dsimp only [Pt.U, Pt.locs, Pt.cells, Pt.slots] at X2 l2 y2 z2 st2 hQ2
  subst l2 y2 z2
  obtain ⟨rfl, N2q, e2⟩ := hQ2
  have N2 := Fr.app N0 N2q
  have pre3 : ∀ tg_, Steps p.tables e below (T2.setTop (mkF m 9 #[.val (.ref a), .val (.ref b)] [(.ref t)])) tg_ → Steps p.tables e below (s₁.setTop (entryFrame m #[(.ref a), (.ref b)] 2)) tg_ := by
    intro tg_ kt
    refine pre0 _ ?_
    show Steps p.tables e below (s₁.setTop (mkF m 0 #[.val (.ref a), .val (.ref b)] [])) _
    refine XS.aloadN X0.here hx rfl (hb hby d4_0) rfl rfl ?_
    show Steps p.tables e below (s₁.setTop (mkF m 1 #[.val (.ref a), .val (.ref b)] [(.ref a)])) _
    refine st1 _ ?_
    show Steps p.tables e below (T1.setTop (mkF m 4 #[.val (.ref a), .val (.ref b)] [(.ref ra)])) _
    refine XS.aloadN X1.here hx rfl (hb hby d4_4) rfl rfl ?_
    show Steps p.tables e below (T1.setTop (mkF m 5 #[.val (.ref a), .val (.ref b)] [(.ref b), (.ref ra)])) _
    refine st2.trans ?_
    show Steps p.tables e below (T2.setTop (mkF m 8 #[.val (.ref a), .val (.ref b)] [(.int j), (.ref ra)])) _
    refine X2.aaload hx (j := j) (v := (.ref t)) (by rw [e2]; exact Ar.1) (State.isArrayOf_alike hZ.alike Ar.2.1) rfl Ar.2.2 El.1 El.2 (g := (mkF m 8 #[.val (.ref a), .val (.ref b)] [(.int j), (.ref ra)])) rfl rfl (hb hby d4_8) _ ?_
    exact kt
  obtain ⟨fs, hr, hrun, hended, hW, hsame⟩ := X2.leave (v := some (.ref t)) (fun h => by rw [Bd.returns] at h; cases h)
  refine ⟨_, _, pre3 _ ?_, hrun, hended, _, _, rfl, ?_, ⟨_, rfl⟩, hW, hsame.mono (by decide) (by decide)⟩
  · show Steps p.tables e below (T2.setTop (mkF m 9 #[.val (.ref a), .val (.ref b)] [(.ref t)])) _
    jvm_step X2.here [X2.here.top, hx, (hb hby d4_9), X2.method', Bd.returns, Value.isRef, FieldType.isReference]
    first | (intro acts; rw [hr _ acts rfl rfl rfl]) | rw [hr _ _ rfl rfl rfl]
    exact Steps.refl _
  · show Q1 Z (.ref t) h0 n0 _ T2.heap _
    rw [e2]
    exact ⟨rfl, N2, rfl⟩
theorem d5_0 : decode prog_5_method_6_code 0 = .ok (.aload_n 0, 1) := by decide +kernel
theorem d5_1 : decode prog_5_method_6_code 1 = .ok (.getfield 58, 3) := by decide +kernel
theorem d5_4 : decode prog_5_method_6_code 4 = .ok (.astore_n 2, 1) := by decide +kernel
theorem d5_5 : decode prog_5_method_6_code 5 = .ok (.aload_n 2, 1) := by decide +kernel
theorem d5_6 : decode prog_5_method_6_code 6 = .ok (.arraylength, 1) := by decide +kernel
theorem d5_7 : decode prog_5_method_6_code 7 = .ok (.istore_n 3, 1) := by decide +kernel
theorem d5_8 : decode prog_5_method_6_code 8 = .ok (.iconst 0, 1) := by decide +kernel
theorem d5_9 : decode prog_5_method_6_code 9 = .ok (.istore 4, 2) := by decide +kernel
theorem d5_11 : decode prog_5_method_6_code 11 = .ok (.iload 4, 2) := by decide +kernel
theorem d5_13 : decode prog_5_method_6_code 13 = .ok (.iload_n 3, 1) := by decide +kernel
theorem d5_14 : decode prog_5_method_6_code 14 = .ok (.if_icmp .ge 23, 3) := by decide +kernel
theorem d5_17 : decode prog_5_method_6_code 17 = .ok (.aload_n 2, 1) := by decide +kernel
theorem d5_18 : decode prog_5_method_6_code 18 = .ok (.iload 4, 2) := by decide +kernel
theorem d5_20 : decode prog_5_method_6_code 20 = .ok (.aaload, 1) := by decide +kernel
theorem d5_21 : decode prog_5_method_6_code 21 = .ok (.astore 5, 2) := by decide +kernel
theorem d5_23 : decode prog_5_method_6_code 23 = .ok (.aload 5, 2) := by decide +kernel
theorem d5_25 : decode prog_5_method_6_code 25 = .ok (.aload_n 1, 1) := by decide +kernel
theorem d5_26 : decode prog_5_method_6_code 26 = .ok (.if_acmp .ne 5, 3) := by decide +kernel
theorem d5_29 : decode prog_5_method_6_code 29 = .ok (.iconst 1, 1) := by decide +kernel
theorem d5_30 : decode prog_5_method_6_code 30 = .ok (.ireturn, 1) := by decide +kernel
theorem d5_31 : decode prog_5_method_6_code 31 = .ok (.iinc 4 1, 3) := by decide +kernel
theorem d5_34 : decode prog_5_method_6_code 34 = .ok (.goto (-23), 3) := by decide +kernel
theorem d5_37 : decode prog_5_method_6_code 37 = .ok (.iconst 0, 1) := by decide +kernel
theorem d5_38 : decode prog_5_method_6_code 38 = .ok (.ireturn, 1) := by decide +kernel
theorem pn5 : plainName "com/example/hawtip/hawtip/dispatch/Policy" = true := by first | (simp [plainName, overriddenIn]; done) | decide +kernel
theorem ef5 (m : MethodId) (x0 : Addr) (x1 : Addr) : entryFrame m #[(.ref x0), (.ref x1)] 6 = mkF m 0 #[.val (.ref x0), .val (.ref x1), .unset, .unset, .unset, .unset] [] := by first | (simp [entryFrame, mkF, argsToLocals, Value.category]; done) | rfl
set_option maxRecDepth 65536 in
set_option maxHeartbeats 40000000 in
theorem rm5 (l : Launch) (Z : State) (a0 : Array Value) (hw : ∀ d ∈ tables_1, d.before a0 Z = true) (ws : List Jvm.Cond) (a b ra t0 t1 t2 t3 t4 t5 : Addr) (cl : Cell) (h0 : Heap) (n0 : Nat) (Z0 : n0 ≤ h0.size) (Fr_ : Fld Z h0 a "com/example/hawtip/hawtip/dispatch/Policy" "routes" "[Lcom/example/hawtip/hawtip/dispatch/Policy$Route;" (.ref ra)) (Ar : Arr Z h0 ra cl (.object "com/example/hawtip/hawtip/dispatch/Policy$Route")) (hlen : cl.slots.size.toInt32 = 6) (El0 : Elem cl 0 t0) (El1 : Elem cl 1 t1) (El2 : Elem cl 2 t2) (El3 : Elem cl 3 t3) (El4 : Elem cl 4 t4) (El5 : Elem cl 5 t5) :
    MetFree l (⟨"com/example/hawtip/hawtip/dispatch/Policy", "uses", "(Lcom/example/hawtip/hawtip/dispatch/Policy$Route;)Z"⟩ : MethodName) (head1 (Jvm.Cond.code (⟨"com/example/hawtip/hawtip/dispatch/Policy", "uses", "(Lcom/example/hawtip/hawtip/dispatch/Policy$Route;)Z"⟩ : MethodName) prog_5_method_6_code 6 (some .boolean) :: ws) ({ frames := 0, cells := 0, slots := 0, locals := 0 } : Room)) (fun aa_ U => aa_ = #[(.ref a), (.ref b)] ∧ Z.Warmed39 U.vm ∧ U.heap = h0) (fun _ _ _ _ _ => True) (fun _ U o U' => ∃ vv_ LL_, o = .returned vv_ ∧ Q1 Z (.int (usesF t0 t1 t2 t3 t4 t5 b)) h0 n0 vv_ U'.heap LL_ ∧ FrameEnd U o U' LL_ ({ frames := 0, cells := 0, slots := 0, locals := 0 } : Room).cells ({ frames := 0, cells := 0, slots := 0, locals := 0 } : Room).slots) := by
  refine MetFree.of_bodySF (plainFor_of_name pn5) hisR ?_
  intro p e s m args below meth c s₁ Bd hml0 hP hK
  obtain ⟨rfl, hZ, hh⟩ := hP
  have hx := Bd.exec
  have hby := Bd.bytes
  have hml : c.maxLocals = 6 := hml0
  have hown : s.vm.findClass "com/example/hawtip/hawtip/dispatch/Policy" = some m.cls := findClass_of_methodNamed Bd.named
  have hnm := (name_of_methodNamed Bd.named Bd.method).1
  have X0 : Stand p l e ({ frames := 0, cells := 0, slots := 0, locals := 0 } : Room) s m #[(.ref a), (.ref b)] below meth c s₁ [] 0 0 := Stand.of_body Bd
  have e0 : s₁.heap = h0 := by rw [← hh, Bd.state]; rfl
  have N0 := Fr.nil n0
  have pre0 : ∀ tg_, Steps p.tables e below (s₁.setTop (mkF m 0 #[.val (.ref a), .val (.ref b), .unset, .unset, .unset, .unset] [])) tg_ → Steps p.tables e below (s₁.setTop (entryFrame m #[(.ref a), (.ref b)] 6)) tg_ := fun tg_ kt => castTop (ef5 m a b) kt
  obtain ⟨T1, X1, e1, st1⟩ := getF X0 hx hZ hown (host := "") (Or.inl (hw _ (List.mem_of_getElem? (i := 22) rfl))) Via.refl e0 Fr_ (g := (mkF m 1 #[.val (.ref a), .val (.ref b), .unset, .unset, .unset, .unset] [(.ref a)])) rfl rfl (hb hby d5_1)
  have pre2 : ∀ tg_, Steps p.tables e below (T1.setTop (mkF m 26 #[.val (.ref a), .val (.ref b), .val (.ref ra), .val (.int (6 : Int32)), .val (.int (0 : Int32)), .val (.ref t0)] [(.ref b), (.ref t0)])) tg_ → Steps p.tables e below (s₁.setTop (entryFrame m #[(.ref a), (.ref b)] 6)) tg_ := by
    intro tg_ kt
    refine pre0 _ ?_
    show Steps p.tables e below (s₁.setTop (mkF m 0 #[.val (.ref a), .val (.ref b), .unset, .unset, .unset, .unset] [])) _
    refine XS.aloadN X0.here hx rfl (hb hby d5_0) rfl rfl ?_
    show Steps p.tables e below (s₁.setTop (mkF m 1 #[.val (.ref a), .val (.ref b), .unset, .unset, .unset, .unset] [(.ref a)])) _
    refine st1 _ ?_
    show Steps p.tables e below (T1.setTop (mkF m 4 #[.val (.ref a), .val (.ref b), .unset, .unset, .unset, .unset] [(.ref ra)])) _
    refine XS.astoreN X1.here hx rfl (hb hby d5_4) rfl rfl (l' := #[.val (.ref a), .val (.ref b), .val (.ref ra), .unset, .unset, .unset]) rfl ?_
    show Steps p.tables e below (T1.setTop (mkF m 5 #[.val (.ref a), .val (.ref b), .val (.ref ra), .unset, .unset, .unset] [])) _
    refine XS.aloadN X1.here hx rfl (hb hby d5_5) rfl rfl ?_
    show Steps p.tables e below (T1.setTop (mkF m 6 #[.val (.ref a), .val (.ref b), .val (.ref ra), .unset, .unset, .unset] [(.ref ra)])) _
    refine X1.arraylength hx (by rw [e1]; exact Ar.1) (State.isArrayOf_alike hZ.alike Ar.2.1) (g := (mkF m 6 #[.val (.ref a), .val (.ref b), .val (.ref ra), .unset, .unset, .unset] [(.ref ra)])) rfl rfl (hb hby d5_6) _ ?_
    rw [hlen]
    show Steps p.tables e below (T1.setTop (mkF m 7 #[.val (.ref a), .val (.ref b), .val (.ref ra), .unset, .unset, .unset] [(.int (6 : Int32))])) _
    refine XS.istoreN X1.here hx rfl (hb hby d5_7) rfl (l' := #[.val (.ref a), .val (.ref b), .val (.ref ra), .val (.int (6 : Int32)), .unset, .unset]) rfl ?_
    show Steps p.tables e below (T1.setTop (mkF m 8 #[.val (.ref a), .val (.ref b), .val (.ref ra), .val (.int (6 : Int32)), .unset, .unset] [])) _
    refine XS.iconst X1.here hx rfl (hb hby d5_8) ?_
    show Steps p.tables e below (T1.setTop (mkF m 9 #[.val (.ref a), .val (.ref b), .val (.ref ra), .val (.int (6 : Int32)), .unset, .unset] [(.int (0 : Int32))])) _
    refine XS.istore X1.here hx rfl (hb hby d5_9) rfl (l' := #[.val (.ref a), .val (.ref b), .val (.ref ra), .val (.int (6 : Int32)), .val (.int (0 : Int32)), .unset]) rfl ?_
    show Steps p.tables e below (T1.setTop (mkF m 11 #[.val (.ref a), .val (.ref b), .val (.ref ra), .val (.int (6 : Int32)), .val (.int (0 : Int32)), .unset] [])) _
    refine XS.iload X1.here hx rfl (hb hby d5_11) rfl ?_
    show Steps p.tables e below (T1.setTop (mkF m 13 #[.val (.ref a), .val (.ref b), .val (.ref ra), .val (.int (6 : Int32)), .val (.int (0 : Int32)), .unset] [(.int (0 : Int32))])) _
    refine XS.iloadN X1.here hx rfl (hb hby d5_13) rfl ?_
    show Steps p.tables e below (T1.setTop (mkF m 14 #[.val (.ref a), .val (.ref b), .val (.ref ra), .val (.int (6 : Int32)), .val (.int (0 : Int32)), .unset] [(.int (6 : Int32)), (.int (0 : Int32))])) _
    refine XS.icmpNo X1.here hx rfl (hb hby d5_14) rfl (XT.ii_ge_f (by decide)) ?_
    show Steps p.tables e below (T1.setTop (mkF m 17 #[.val (.ref a), .val (.ref b), .val (.ref ra), .val (.int (6 : Int32)), .val (.int (0 : Int32)), .unset] [])) _
    refine XS.aloadN X1.here hx rfl (hb hby d5_17) rfl rfl ?_
    show Steps p.tables e below (T1.setTop (mkF m 18 #[.val (.ref a), .val (.ref b), .val (.ref ra), .val (.int (6 : Int32)), .val (.int (0 : Int32)), .unset] [(.ref ra)])) _
    refine XS.iload X1.here hx rfl (hb hby d5_18) rfl ?_
    show Steps p.tables e below (T1.setTop (mkF m 20 #[.val (.ref a), .val (.ref b), .val (.ref ra), .val (.int (6 : Int32)), .val (.int (0 : Int32)), .unset] [(.int (0 : Int32)), (.ref ra)])) _
    refine X1.aaload hx (j := (0 : Int32)) (v := (.ref t0)) (by rw [e1]; exact Ar.1) (State.isArrayOf_alike hZ.alike Ar.2.1) rfl Ar.2.2 El0.1 El0.2 (g := (mkF m 20 #[.val (.ref a), .val (.ref b), .val (.ref ra), .val (.int (6 : Int32)), .val (.int (0 : Int32)), .unset] [(.int (0 : Int32)), (.ref ra)])) rfl rfl (hb hby d5_20) _ ?_
    show Steps p.tables e below (T1.setTop (mkF m 21 #[.val (.ref a), .val (.ref b), .val (.ref ra), .val (.int (6 : Int32)), .val (.int (0 : Int32)), .unset] [(.ref t0)])) _
    refine XS.astore X1.here hx rfl (hb hby d5_21) rfl rfl (l' := #[.val (.ref a), .val (.ref b), .val (.ref ra), .val (.int (6 : Int32)), .val (.int (0 : Int32)), .val (.ref t0)]) rfl ?_
    show Steps p.tables e below (T1.setTop (mkF m 23 #[.val (.ref a), .val (.ref b), .val (.ref ra), .val (.int (6 : Int32)), .val (.int (0 : Int32)), .val (.ref t0)] [])) _
    refine XS.aload X1.here hx rfl (hb hby d5_23) rfl rfl ?_
    show Steps p.tables e below (T1.setTop (mkF m 25 #[.val (.ref a), .val (.ref b), .val (.ref ra), .val (.int (6 : Int32)), .val (.int (0 : Int32)), .val (.ref t0)] [(.ref t0)])) _
    refine XS.aloadN X1.here hx rfl (hb hby d5_25) rfl rfl ?_
    exact kt
  by_cases hc26_3 : t0 = b
  · have pre4 : ∀ tg_, Steps p.tables e below (T1.setTop (mkF m 30 #[.val (.ref a), .val (.ref b), .val (.ref ra), .val (.int (6 : Int32)), .val (.int (0 : Int32)), .val (.ref t0)] [(.int (1 : Int32))])) tg_ → Steps p.tables e below (s₁.setTop (entryFrame m #[(.ref a), (.ref b)] 6)) tg_ := by
      intro tg_ kt
      refine pre2 _ ?_
      show Steps p.tables e below (T1.setTop (mkF m 26 #[.val (.ref a), .val (.ref b), .val (.ref ra), .val (.int (6 : Int32)), .val (.int (0 : Int32)), .val (.ref t0)] [(.ref b), (.ref t0)])) _
      refine XT.acmpNo X1.here hx rfl (hb hby d5_26) rfl rfl rfl (XT.aa_ne_f (congrArg Value.ref hc26_3)) ?_
      show Steps p.tables e below (T1.setTop (mkF m 29 #[.val (.ref a), .val (.ref b), .val (.ref ra), .val (.int (6 : Int32)), .val (.int (0 : Int32)), .val (.ref t0)] [])) _
      refine XS.iconst X1.here hx rfl (hb hby d5_29) ?_
      exact kt
    obtain ⟨fs, hr, hrun, hended, hW, hsame⟩ := X1.leave (v := some (.int (1 : Int32))) (fun h => by rw [Bd.returns] at h; cases h)
    refine ⟨_, _, pre4 _ ?_, hrun, hended, _, _, rfl, ?_, ⟨_, rfl⟩, hW, hsame.mono (by decide) (by decide)⟩
    · show Steps p.tables e below (T1.setTop (mkF m 30 #[.val (.ref a), .val (.ref b), .val (.ref ra), .val (.int (6 : Int32)), .val (.int (0 : Int32)), .val (.ref t0)] [(.int (1 : Int32))])) _
      exact retN X1 hx (t := .boolean) Bd.returns (by simp) (hb hby d5_30) hr
    · show Q1 Z (.int (usesF t0 t1 t2 t3 t4 t5 b)) h0 n0 _ T1.heap _
      rw [e1]
      exact ⟨by simp [usesF, hc26_3], N0, rfl⟩
  · have pre5 : ∀ tg_, Steps p.tables e below (T1.setTop (mkF m 26 #[.val (.ref a), .val (.ref b), .val (.ref ra), .val (.int (6 : Int32)), .val (.int (1 : Int32)), .val (.ref t1)] [(.ref b), (.ref t1)])) tg_ → Steps p.tables e below (s₁.setTop (entryFrame m #[(.ref a), (.ref b)] 6)) tg_ := by
      intro tg_ kt
      refine pre2 _ ?_
      show Steps p.tables e below (T1.setTop (mkF m 26 #[.val (.ref a), .val (.ref b), .val (.ref ra), .val (.int (6 : Int32)), .val (.int (0 : Int32)), .val (.ref t0)] [(.ref b), (.ref t0)])) _
      refine XT.acmpYes X1.here hx rfl (pc0 := 26) (pc' := 31) rfl (hb hby d5_26) rfl rfl rfl (XT.aa_ne_t (fun q => hc26_3 (Value.ref.inj q))) (by decide) (by decide) ?_
      show Steps p.tables e below (T1.setTop (mkF m 31 #[.val (.ref a), .val (.ref b), .val (.ref ra), .val (.int (6 : Int32)), .val (.int (0 : Int32)), .val (.ref t0)] [])) _
      refine XS.iinc X1.here hx rfl (hb hby d5_31) rfl (l' := #[.val (.ref a), .val (.ref b), .val (.ref ra), .val (.int (6 : Int32)), .val (.int (1 : Int32)), .val (.ref t0)]) rfl ?_
      show Steps p.tables e below (T1.setTop (mkF m 34 #[.val (.ref a), .val (.ref b), .val (.ref ra), .val (.int (6 : Int32)), .val (.int (1 : Int32)), .val (.ref t0)] [])) _
      refine XS.goto X1.here hx rfl (pc0 := 34) (pc' := 11) rfl (hb hby d5_34) (by decide) (by decide) ?_
      show Steps p.tables e below (T1.setTop (mkF m 11 #[.val (.ref a), .val (.ref b), .val (.ref ra), .val (.int (6 : Int32)), .val (.int (1 : Int32)), .val (.ref t0)] [])) _
      refine XS.iload X1.here hx rfl (hb hby d5_11) rfl ?_
      show Steps p.tables e below (T1.setTop (mkF m 13 #[.val (.ref a), .val (.ref b), .val (.ref ra), .val (.int (6 : Int32)), .val (.int (1 : Int32)), .val (.ref t0)] [(.int (1 : Int32))])) _
      refine XS.iloadN X1.here hx rfl (hb hby d5_13) rfl ?_
      show Steps p.tables e below (T1.setTop (mkF m 14 #[.val (.ref a), .val (.ref b), .val (.ref ra), .val (.int (6 : Int32)), .val (.int (1 : Int32)), .val (.ref t0)] [(.int (6 : Int32)), (.int (1 : Int32))])) _
      refine XS.icmpNo X1.here hx rfl (hb hby d5_14) rfl (XT.ii_ge_f (by decide)) ?_
      show Steps p.tables e below (T1.setTop (mkF m 17 #[.val (.ref a), .val (.ref b), .val (.ref ra), .val (.int (6 : Int32)), .val (.int (1 : Int32)), .val (.ref t0)] [])) _
      refine XS.aloadN X1.here hx rfl (hb hby d5_17) rfl rfl ?_
      show Steps p.tables e below (T1.setTop (mkF m 18 #[.val (.ref a), .val (.ref b), .val (.ref ra), .val (.int (6 : Int32)), .val (.int (1 : Int32)), .val (.ref t0)] [(.ref ra)])) _
      refine XS.iload X1.here hx rfl (hb hby d5_18) rfl ?_
      show Steps p.tables e below (T1.setTop (mkF m 20 #[.val (.ref a), .val (.ref b), .val (.ref ra), .val (.int (6 : Int32)), .val (.int (1 : Int32)), .val (.ref t0)] [(.int (1 : Int32)), (.ref ra)])) _
      refine X1.aaload hx (j := (1 : Int32)) (v := (.ref t1)) (by rw [e1]; exact Ar.1) (State.isArrayOf_alike hZ.alike Ar.2.1) rfl Ar.2.2 El1.1 El1.2 (g := (mkF m 20 #[.val (.ref a), .val (.ref b), .val (.ref ra), .val (.int (6 : Int32)), .val (.int (1 : Int32)), .val (.ref t0)] [(.int (1 : Int32)), (.ref ra)])) rfl rfl (hb hby d5_20) _ ?_
      show Steps p.tables e below (T1.setTop (mkF m 21 #[.val (.ref a), .val (.ref b), .val (.ref ra), .val (.int (6 : Int32)), .val (.int (1 : Int32)), .val (.ref t0)] [(.ref t1)])) _
      refine XS.astore X1.here hx rfl (hb hby d5_21) rfl rfl (l' := #[.val (.ref a), .val (.ref b), .val (.ref ra), .val (.int (6 : Int32)), .val (.int (1 : Int32)), .val (.ref t1)]) rfl ?_
      show Steps p.tables e below (T1.setTop (mkF m 23 #[.val (.ref a), .val (.ref b), .val (.ref ra), .val (.int (6 : Int32)), .val (.int (1 : Int32)), .val (.ref t1)] [])) _
      refine XS.aload X1.here hx rfl (hb hby d5_23) rfl rfl ?_
      show Steps p.tables e below (T1.setTop (mkF m 25 #[.val (.ref a), .val (.ref b), .val (.ref ra), .val (.int (6 : Int32)), .val (.int (1 : Int32)), .val (.ref t1)] [(.ref t1)])) _
      refine XS.aloadN X1.here hx rfl (hb hby d5_25) rfl rfl ?_
      exact kt
    by_cases hc26_6 : t1 = b
    · have pre7 : ∀ tg_, Steps p.tables e below (T1.setTop (mkF m 30 #[.val (.ref a), .val (.ref b), .val (.ref ra), .val (.int (6 : Int32)), .val (.int (1 : Int32)), .val (.ref t1)] [(.int (1 : Int32))])) tg_ → Steps p.tables e below (s₁.setTop (entryFrame m #[(.ref a), (.ref b)] 6)) tg_ := by
        intro tg_ kt
        refine pre5 _ ?_
        show Steps p.tables e below (T1.setTop (mkF m 26 #[.val (.ref a), .val (.ref b), .val (.ref ra), .val (.int (6 : Int32)), .val (.int (1 : Int32)), .val (.ref t1)] [(.ref b), (.ref t1)])) _
        refine XT.acmpNo X1.here hx rfl (hb hby d5_26) rfl rfl rfl (XT.aa_ne_f (congrArg Value.ref hc26_6)) ?_
        show Steps p.tables e below (T1.setTop (mkF m 29 #[.val (.ref a), .val (.ref b), .val (.ref ra), .val (.int (6 : Int32)), .val (.int (1 : Int32)), .val (.ref t1)] [])) _
        refine XS.iconst X1.here hx rfl (hb hby d5_29) ?_
        exact kt
      obtain ⟨fs, hr, hrun, hended, hW, hsame⟩ := X1.leave (v := some (.int (1 : Int32))) (fun h => by rw [Bd.returns] at h; cases h)
      refine ⟨_, _, pre7 _ ?_, hrun, hended, _, _, rfl, ?_, ⟨_, rfl⟩, hW, hsame.mono (by decide) (by decide)⟩
      · show Steps p.tables e below (T1.setTop (mkF m 30 #[.val (.ref a), .val (.ref b), .val (.ref ra), .val (.int (6 : Int32)), .val (.int (1 : Int32)), .val (.ref t1)] [(.int (1 : Int32))])) _
        exact retN X1 hx (t := .boolean) Bd.returns (by simp) (hb hby d5_30) hr
      · show Q1 Z (.int (usesF t0 t1 t2 t3 t4 t5 b)) h0 n0 _ T1.heap _
        rw [e1]
        exact ⟨by simp [usesF, hc26_3, hc26_6], N0, rfl⟩
    · have pre8 : ∀ tg_, Steps p.tables e below (T1.setTop (mkF m 26 #[.val (.ref a), .val (.ref b), .val (.ref ra), .val (.int (6 : Int32)), .val (.int (2 : Int32)), .val (.ref t2)] [(.ref b), (.ref t2)])) tg_ → Steps p.tables e below (s₁.setTop (entryFrame m #[(.ref a), (.ref b)] 6)) tg_ := by
        intro tg_ kt
        refine pre5 _ ?_
        show Steps p.tables e below (T1.setTop (mkF m 26 #[.val (.ref a), .val (.ref b), .val (.ref ra), .val (.int (6 : Int32)), .val (.int (1 : Int32)), .val (.ref t1)] [(.ref b), (.ref t1)])) _
        refine XT.acmpYes X1.here hx rfl (pc0 := 26) (pc' := 31) rfl (hb hby d5_26) rfl rfl rfl (XT.aa_ne_t (fun q => hc26_6 (Value.ref.inj q))) (by decide) (by decide) ?_
        show Steps p.tables e below (T1.setTop (mkF m 31 #[.val (.ref a), .val (.ref b), .val (.ref ra), .val (.int (6 : Int32)), .val (.int (1 : Int32)), .val (.ref t1)] [])) _
        refine XS.iinc X1.here hx rfl (hb hby d5_31) rfl (l' := #[.val (.ref a), .val (.ref b), .val (.ref ra), .val (.int (6 : Int32)), .val (.int (2 : Int32)), .val (.ref t1)]) rfl ?_
        show Steps p.tables e below (T1.setTop (mkF m 34 #[.val (.ref a), .val (.ref b), .val (.ref ra), .val (.int (6 : Int32)), .val (.int (2 : Int32)), .val (.ref t1)] [])) _
        refine XS.goto X1.here hx rfl (pc0 := 34) (pc' := 11) rfl (hb hby d5_34) (by decide) (by decide) ?_
        show Steps p.tables e below (T1.setTop (mkF m 11 #[.val (.ref a), .val (.ref b), .val (.ref ra), .val (.int (6 : Int32)), .val (.int (2 : Int32)), .val (.ref t1)] [])) _
        refine XS.iload X1.here hx rfl (hb hby d5_11) rfl ?_
        show Steps p.tables e below (T1.setTop (mkF m 13 #[.val (.ref a), .val (.ref b), .val (.ref ra), .val (.int (6 : Int32)), .val (.int (2 : Int32)), .val (.ref t1)] [(.int (2 : Int32))])) _
        refine XS.iloadN X1.here hx rfl (hb hby d5_13) rfl ?_
        show Steps p.tables e below (T1.setTop (mkF m 14 #[.val (.ref a), .val (.ref b), .val (.ref ra), .val (.int (6 : Int32)), .val (.int (2 : Int32)), .val (.ref t1)] [(.int (6 : Int32)), (.int (2 : Int32))])) _
        refine XS.icmpNo X1.here hx rfl (hb hby d5_14) rfl (XT.ii_ge_f (by decide)) ?_
        show Steps p.tables e below (T1.setTop (mkF m 17 #[.val (.ref a), .val (.ref b), .val (.ref ra), .val (.int (6 : Int32)), .val (.int (2 : Int32)), .val (.ref t1)] [])) _
        refine XS.aloadN X1.here hx rfl (hb hby d5_17) rfl rfl ?_
        show Steps p.tables e below (T1.setTop (mkF m 18 #[.val (.ref a), .val (.ref b), .val (.ref ra), .val (.int (6 : Int32)), .val (.int (2 : Int32)), .val (.ref t1)] [(.ref ra)])) _
        refine XS.iload X1.here hx rfl (hb hby d5_18) rfl ?_
        show Steps p.tables e below (T1.setTop (mkF m 20 #[.val (.ref a), .val (.ref b), .val (.ref ra), .val (.int (6 : Int32)), .val (.int (2 : Int32)), .val (.ref t1)] [(.int (2 : Int32)), (.ref ra)])) _
        refine X1.aaload hx (j := (2 : Int32)) (v := (.ref t2)) (by rw [e1]; exact Ar.1) (State.isArrayOf_alike hZ.alike Ar.2.1) rfl Ar.2.2 El2.1 El2.2 (g := (mkF m 20 #[.val (.ref a), .val (.ref b), .val (.ref ra), .val (.int (6 : Int32)), .val (.int (2 : Int32)), .val (.ref t1)] [(.int (2 : Int32)), (.ref ra)])) rfl rfl (hb hby d5_20) _ ?_
        show Steps p.tables e below (T1.setTop (mkF m 21 #[.val (.ref a), .val (.ref b), .val (.ref ra), .val (.int (6 : Int32)), .val (.int (2 : Int32)), .val (.ref t1)] [(.ref t2)])) _
        refine XS.astore X1.here hx rfl (hb hby d5_21) rfl rfl (l' := #[.val (.ref a), .val (.ref b), .val (.ref ra), .val (.int (6 : Int32)), .val (.int (2 : Int32)), .val (.ref t2)]) rfl ?_
        show Steps p.tables e below (T1.setTop (mkF m 23 #[.val (.ref a), .val (.ref b), .val (.ref ra), .val (.int (6 : Int32)), .val (.int (2 : Int32)), .val (.ref t2)] [])) _
        refine XS.aload X1.here hx rfl (hb hby d5_23) rfl rfl ?_
        show Steps p.tables e below (T1.setTop (mkF m 25 #[.val (.ref a), .val (.ref b), .val (.ref ra), .val (.int (6 : Int32)), .val (.int (2 : Int32)), .val (.ref t2)] [(.ref t2)])) _
        refine XS.aloadN X1.here hx rfl (hb hby d5_25) rfl rfl ?_
        exact kt
      by_cases hc26_9 : t2 = b
      · have pre10 : ∀ tg_, Steps p.tables e below (T1.setTop (mkF m 30 #[.val (.ref a), .val (.ref b), .val (.ref ra), .val (.int (6 : Int32)), .val (.int (2 : Int32)), .val (.ref t2)] [(.int (1 : Int32))])) tg_ → Steps p.tables e below (s₁.setTop (entryFrame m #[(.ref a), (.ref b)] 6)) tg_ := by
          intro tg_ kt
          refine pre8 _ ?_
          show Steps p.tables e below (T1.setTop (mkF m 26 #[.val (.ref a), .val (.ref b), .val (.ref ra), .val (.int (6 : Int32)), .val (.int (2 : Int32)), .val (.ref t2)] [(.ref b), (.ref t2)])) _
          refine XT.acmpNo X1.here hx rfl (hb hby d5_26) rfl rfl rfl (XT.aa_ne_f (congrArg Value.ref hc26_9)) ?_
          show Steps p.tables e below (T1.setTop (mkF m 29 #[.val (.ref a), .val (.ref b), .val (.ref ra), .val (.int (6 : Int32)), .val (.int (2 : Int32)), .val (.ref t2)] [])) _
          refine XS.iconst X1.here hx rfl (hb hby d5_29) ?_
          exact kt
        obtain ⟨fs, hr, hrun, hended, hW, hsame⟩ := X1.leave (v := some (.int (1 : Int32))) (fun h => by rw [Bd.returns] at h; cases h)
        refine ⟨_, _, pre10 _ ?_, hrun, hended, _, _, rfl, ?_, ⟨_, rfl⟩, hW, hsame.mono (by decide) (by decide)⟩
        · show Steps p.tables e below (T1.setTop (mkF m 30 #[.val (.ref a), .val (.ref b), .val (.ref ra), .val (.int (6 : Int32)), .val (.int (2 : Int32)), .val (.ref t2)] [(.int (1 : Int32))])) _
          exact retN X1 hx (t := .boolean) Bd.returns (by simp) (hb hby d5_30) hr
        · show Q1 Z (.int (usesF t0 t1 t2 t3 t4 t5 b)) h0 n0 _ T1.heap _
          rw [e1]
          exact ⟨by simp [usesF, hc26_3, hc26_6, hc26_9], N0, rfl⟩
      · have pre11 : ∀ tg_, Steps p.tables e below (T1.setTop (mkF m 26 #[.val (.ref a), .val (.ref b), .val (.ref ra), .val (.int (6 : Int32)), .val (.int (3 : Int32)), .val (.ref t3)] [(.ref b), (.ref t3)])) tg_ → Steps p.tables e below (s₁.setTop (entryFrame m #[(.ref a), (.ref b)] 6)) tg_ := by
          intro tg_ kt
          refine pre8 _ ?_
          show Steps p.tables e below (T1.setTop (mkF m 26 #[.val (.ref a), .val (.ref b), .val (.ref ra), .val (.int (6 : Int32)), .val (.int (2 : Int32)), .val (.ref t2)] [(.ref b), (.ref t2)])) _
          refine XT.acmpYes X1.here hx rfl (pc0 := 26) (pc' := 31) rfl (hb hby d5_26) rfl rfl rfl (XT.aa_ne_t (fun q => hc26_9 (Value.ref.inj q))) (by decide) (by decide) ?_
          show Steps p.tables e below (T1.setTop (mkF m 31 #[.val (.ref a), .val (.ref b), .val (.ref ra), .val (.int (6 : Int32)), .val (.int (2 : Int32)), .val (.ref t2)] [])) _
          refine XS.iinc X1.here hx rfl (hb hby d5_31) rfl (l' := #[.val (.ref a), .val (.ref b), .val (.ref ra), .val (.int (6 : Int32)), .val (.int (3 : Int32)), .val (.ref t2)]) rfl ?_
          show Steps p.tables e below (T1.setTop (mkF m 34 #[.val (.ref a), .val (.ref b), .val (.ref ra), .val (.int (6 : Int32)), .val (.int (3 : Int32)), .val (.ref t2)] [])) _
          refine XS.goto X1.here hx rfl (pc0 := 34) (pc' := 11) rfl (hb hby d5_34) (by decide) (by decide) ?_
          show Steps p.tables e below (T1.setTop (mkF m 11 #[.val (.ref a), .val (.ref b), .val (.ref ra), .val (.int (6 : Int32)), .val (.int (3 : Int32)), .val (.ref t2)] [])) _
          refine XS.iload X1.here hx rfl (hb hby d5_11) rfl ?_
          show Steps p.tables e below (T1.setTop (mkF m 13 #[.val (.ref a), .val (.ref b), .val (.ref ra), .val (.int (6 : Int32)), .val (.int (3 : Int32)), .val (.ref t2)] [(.int (3 : Int32))])) _
          refine XS.iloadN X1.here hx rfl (hb hby d5_13) rfl ?_
          show Steps p.tables e below (T1.setTop (mkF m 14 #[.val (.ref a), .val (.ref b), .val (.ref ra), .val (.int (6 : Int32)), .val (.int (3 : Int32)), .val (.ref t2)] [(.int (6 : Int32)), (.int (3 : Int32))])) _
          refine XS.icmpNo X1.here hx rfl (hb hby d5_14) rfl (XT.ii_ge_f (by decide)) ?_
          show Steps p.tables e below (T1.setTop (mkF m 17 #[.val (.ref a), .val (.ref b), .val (.ref ra), .val (.int (6 : Int32)), .val (.int (3 : Int32)), .val (.ref t2)] [])) _
          refine XS.aloadN X1.here hx rfl (hb hby d5_17) rfl rfl ?_
          show Steps p.tables e below (T1.setTop (mkF m 18 #[.val (.ref a), .val (.ref b), .val (.ref ra), .val (.int (6 : Int32)), .val (.int (3 : Int32)), .val (.ref t2)] [(.ref ra)])) _
          refine XS.iload X1.here hx rfl (hb hby d5_18) rfl ?_
          show Steps p.tables e below (T1.setTop (mkF m 20 #[.val (.ref a), .val (.ref b), .val (.ref ra), .val (.int (6 : Int32)), .val (.int (3 : Int32)), .val (.ref t2)] [(.int (3 : Int32)), (.ref ra)])) _
          refine X1.aaload hx (j := (3 : Int32)) (v := (.ref t3)) (by rw [e1]; exact Ar.1) (State.isArrayOf_alike hZ.alike Ar.2.1) rfl Ar.2.2 El3.1 El3.2 (g := (mkF m 20 #[.val (.ref a), .val (.ref b), .val (.ref ra), .val (.int (6 : Int32)), .val (.int (3 : Int32)), .val (.ref t2)] [(.int (3 : Int32)), (.ref ra)])) rfl rfl (hb hby d5_20) _ ?_
          show Steps p.tables e below (T1.setTop (mkF m 21 #[.val (.ref a), .val (.ref b), .val (.ref ra), .val (.int (6 : Int32)), .val (.int (3 : Int32)), .val (.ref t2)] [(.ref t3)])) _
          refine XS.astore X1.here hx rfl (hb hby d5_21) rfl rfl (l' := #[.val (.ref a), .val (.ref b), .val (.ref ra), .val (.int (6 : Int32)), .val (.int (3 : Int32)), .val (.ref t3)]) rfl ?_
          show Steps p.tables e below (T1.setTop (mkF m 23 #[.val (.ref a), .val (.ref b), .val (.ref ra), .val (.int (6 : Int32)), .val (.int (3 : Int32)), .val (.ref t3)] [])) _
          refine XS.aload X1.here hx rfl (hb hby d5_23) rfl rfl ?_
          show Steps p.tables e below (T1.setTop (mkF m 25 #[.val (.ref a), .val (.ref b), .val (.ref ra), .val (.int (6 : Int32)), .val (.int (3 : Int32)), .val (.ref t3)] [(.ref t3)])) _
          refine XS.aloadN X1.here hx rfl (hb hby d5_25) rfl rfl ?_
          exact kt
        by_cases hc26_12 : t3 = b
        · have pre13 : ∀ tg_, Steps p.tables e below (T1.setTop (mkF m 30 #[.val (.ref a), .val (.ref b), .val (.ref ra), .val (.int (6 : Int32)), .val (.int (3 : Int32)), .val (.ref t3)] [(.int (1 : Int32))])) tg_ → Steps p.tables e below (s₁.setTop (entryFrame m #[(.ref a), (.ref b)] 6)) tg_ := by
            intro tg_ kt
            refine pre11 _ ?_
            show Steps p.tables e below (T1.setTop (mkF m 26 #[.val (.ref a), .val (.ref b), .val (.ref ra), .val (.int (6 : Int32)), .val (.int (3 : Int32)), .val (.ref t3)] [(.ref b), (.ref t3)])) _
            refine XT.acmpNo X1.here hx rfl (hb hby d5_26) rfl rfl rfl (XT.aa_ne_f (congrArg Value.ref hc26_12)) ?_
            show Steps p.tables e below (T1.setTop (mkF m 29 #[.val (.ref a), .val (.ref b), .val (.ref ra), .val (.int (6 : Int32)), .val (.int (3 : Int32)), .val (.ref t3)] [])) _
            refine XS.iconst X1.here hx rfl (hb hby d5_29) ?_
            exact kt
          obtain ⟨fs, hr, hrun, hended, hW, hsame⟩ := X1.leave (v := some (.int (1 : Int32))) (fun h => by rw [Bd.returns] at h; cases h)
          refine ⟨_, _, pre13 _ ?_, hrun, hended, _, _, rfl, ?_, ⟨_, rfl⟩, hW, hsame.mono (by decide) (by decide)⟩
          · show Steps p.tables e below (T1.setTop (mkF m 30 #[.val (.ref a), .val (.ref b), .val (.ref ra), .val (.int (6 : Int32)), .val (.int (3 : Int32)), .val (.ref t3)] [(.int (1 : Int32))])) _
            exact retN X1 hx (t := .boolean) Bd.returns (by simp) (hb hby d5_30) hr
          · show Q1 Z (.int (usesF t0 t1 t2 t3 t4 t5 b)) h0 n0 _ T1.heap _
            rw [e1]
            exact ⟨by simp [usesF, hc26_3, hc26_6, hc26_9, hc26_12], N0, rfl⟩
        · have pre14 : ∀ tg_, Steps p.tables e below (T1.setTop (mkF m 26 #[.val (.ref a), .val (.ref b), .val (.ref ra), .val (.int (6 : Int32)), .val (.int (4 : Int32)), .val (.ref t4)] [(.ref b), (.ref t4)])) tg_ → Steps p.tables e below (s₁.setTop (entryFrame m #[(.ref a), (.ref b)] 6)) tg_ := by
            intro tg_ kt
            refine pre11 _ ?_
            show Steps p.tables e below (T1.setTop (mkF m 26 #[.val (.ref a), .val (.ref b), .val (.ref ra), .val (.int (6 : Int32)), .val (.int (3 : Int32)), .val (.ref t3)] [(.ref b), (.ref t3)])) _
            refine XT.acmpYes X1.here hx rfl (pc0 := 26) (pc' := 31) rfl (hb hby d5_26) rfl rfl rfl (XT.aa_ne_t (fun q => hc26_12 (Value.ref.inj q))) (by decide) (by decide) ?_
            show Steps p.tables e below (T1.setTop (mkF m 31 #[.val (.ref a), .val (.ref b), .val (.ref ra), .val (.int (6 : Int32)), .val (.int (3 : Int32)), .val (.ref t3)] [])) _
            refine XS.iinc X1.here hx rfl (hb hby d5_31) rfl (l' := #[.val (.ref a), .val (.ref b), .val (.ref ra), .val (.int (6 : Int32)), .val (.int (4 : Int32)), .val (.ref t3)]) rfl ?_
            show Steps p.tables e below (T1.setTop (mkF m 34 #[.val (.ref a), .val (.ref b), .val (.ref ra), .val (.int (6 : Int32)), .val (.int (4 : Int32)), .val (.ref t3)] [])) _
            refine XS.goto X1.here hx rfl (pc0 := 34) (pc' := 11) rfl (hb hby d5_34) (by decide) (by decide) ?_
            show Steps p.tables e below (T1.setTop (mkF m 11 #[.val (.ref a), .val (.ref b), .val (.ref ra), .val (.int (6 : Int32)), .val (.int (4 : Int32)), .val (.ref t3)] [])) _
            refine XS.iload X1.here hx rfl (hb hby d5_11) rfl ?_
            show Steps p.tables e below (T1.setTop (mkF m 13 #[.val (.ref a), .val (.ref b), .val (.ref ra), .val (.int (6 : Int32)), .val (.int (4 : Int32)), .val (.ref t3)] [(.int (4 : Int32))])) _
            refine XS.iloadN X1.here hx rfl (hb hby d5_13) rfl ?_
            show Steps p.tables e below (T1.setTop (mkF m 14 #[.val (.ref a), .val (.ref b), .val (.ref ra), .val (.int (6 : Int32)), .val (.int (4 : Int32)), .val (.ref t3)] [(.int (6 : Int32)), (.int (4 : Int32))])) _
            refine XS.icmpNo X1.here hx rfl (hb hby d5_14) rfl (XT.ii_ge_f (by decide)) ?_
            show Steps p.tables e below (T1.setTop (mkF m 17 #[.val (.ref a), .val (.ref b), .val (.ref ra), .val (.int (6 : Int32)), .val (.int (4 : Int32)), .val (.ref t3)] [])) _
            refine XS.aloadN X1.here hx rfl (hb hby d5_17) rfl rfl ?_
            show Steps p.tables e below (T1.setTop (mkF m 18 #[.val (.ref a), .val (.ref b), .val (.ref ra), .val (.int (6 : Int32)), .val (.int (4 : Int32)), .val (.ref t3)] [(.ref ra)])) _
            refine XS.iload X1.here hx rfl (hb hby d5_18) rfl ?_
            show Steps p.tables e below (T1.setTop (mkF m 20 #[.val (.ref a), .val (.ref b), .val (.ref ra), .val (.int (6 : Int32)), .val (.int (4 : Int32)), .val (.ref t3)] [(.int (4 : Int32)), (.ref ra)])) _
            refine X1.aaload hx (j := (4 : Int32)) (v := (.ref t4)) (by rw [e1]; exact Ar.1) (State.isArrayOf_alike hZ.alike Ar.2.1) rfl Ar.2.2 El4.1 El4.2 (g := (mkF m 20 #[.val (.ref a), .val (.ref b), .val (.ref ra), .val (.int (6 : Int32)), .val (.int (4 : Int32)), .val (.ref t3)] [(.int (4 : Int32)), (.ref ra)])) rfl rfl (hb hby d5_20) _ ?_
            show Steps p.tables e below (T1.setTop (mkF m 21 #[.val (.ref a), .val (.ref b), .val (.ref ra), .val (.int (6 : Int32)), .val (.int (4 : Int32)), .val (.ref t3)] [(.ref t4)])) _
            refine XS.astore X1.here hx rfl (hb hby d5_21) rfl rfl (l' := #[.val (.ref a), .val (.ref b), .val (.ref ra), .val (.int (6 : Int32)), .val (.int (4 : Int32)), .val (.ref t4)]) rfl ?_
            show Steps p.tables e below (T1.setTop (mkF m 23 #[.val (.ref a), .val (.ref b), .val (.ref ra), .val (.int (6 : Int32)), .val (.int (4 : Int32)), .val (.ref t4)] [])) _
            refine XS.aload X1.here hx rfl (hb hby d5_23) rfl rfl ?_
            show Steps p.tables e below (T1.setTop (mkF m 25 #[.val (.ref a), .val (.ref b), .val (.ref ra), .val (.int (6 : Int32)), .val (.int (4 : Int32)), .val (.ref t4)] [(.ref t4)])) _
            refine XS.aloadN X1.here hx rfl (hb hby d5_25) rfl rfl ?_
            exact kt
          by_cases hc26_15 : t4 = b
          · have pre16 : ∀ tg_, Steps p.tables e below (T1.setTop (mkF m 30 #[.val (.ref a), .val (.ref b), .val (.ref ra), .val (.int (6 : Int32)), .val (.int (4 : Int32)), .val (.ref t4)] [(.int (1 : Int32))])) tg_ → Steps p.tables e below (s₁.setTop (entryFrame m #[(.ref a), (.ref b)] 6)) tg_ := by
              intro tg_ kt
              refine pre14 _ ?_
              show Steps p.tables e below (T1.setTop (mkF m 26 #[.val (.ref a), .val (.ref b), .val (.ref ra), .val (.int (6 : Int32)), .val (.int (4 : Int32)), .val (.ref t4)] [(.ref b), (.ref t4)])) _
              refine XT.acmpNo X1.here hx rfl (hb hby d5_26) rfl rfl rfl (XT.aa_ne_f (congrArg Value.ref hc26_15)) ?_
              show Steps p.tables e below (T1.setTop (mkF m 29 #[.val (.ref a), .val (.ref b), .val (.ref ra), .val (.int (6 : Int32)), .val (.int (4 : Int32)), .val (.ref t4)] [])) _
              refine XS.iconst X1.here hx rfl (hb hby d5_29) ?_
              exact kt
            obtain ⟨fs, hr, hrun, hended, hW, hsame⟩ := X1.leave (v := some (.int (1 : Int32))) (fun h => by rw [Bd.returns] at h; cases h)
            refine ⟨_, _, pre16 _ ?_, hrun, hended, _, _, rfl, ?_, ⟨_, rfl⟩, hW, hsame.mono (by decide) (by decide)⟩
            · show Steps p.tables e below (T1.setTop (mkF m 30 #[.val (.ref a), .val (.ref b), .val (.ref ra), .val (.int (6 : Int32)), .val (.int (4 : Int32)), .val (.ref t4)] [(.int (1 : Int32))])) _
              exact retN X1 hx (t := .boolean) Bd.returns (by simp) (hb hby d5_30) hr
            · show Q1 Z (.int (usesF t0 t1 t2 t3 t4 t5 b)) h0 n0 _ T1.heap _
              rw [e1]
              exact ⟨by simp [usesF, hc26_3, hc26_6, hc26_9, hc26_12, hc26_15], N0, rfl⟩
          · have pre17 : ∀ tg_, Steps p.tables e below (T1.setTop (mkF m 26 #[.val (.ref a), .val (.ref b), .val (.ref ra), .val (.int (6 : Int32)), .val (.int (5 : Int32)), .val (.ref t5)] [(.ref b), (.ref t5)])) tg_ → Steps p.tables e below (s₁.setTop (entryFrame m #[(.ref a), (.ref b)] 6)) tg_ := by
              intro tg_ kt
              refine pre14 _ ?_
              show Steps p.tables e below (T1.setTop (mkF m 26 #[.val (.ref a), .val (.ref b), .val (.ref ra), .val (.int (6 : Int32)), .val (.int (4 : Int32)), .val (.ref t4)] [(.ref b), (.ref t4)])) _
              refine XT.acmpYes X1.here hx rfl (pc0 := 26) (pc' := 31) rfl (hb hby d5_26) rfl rfl rfl (XT.aa_ne_t (fun q => hc26_15 (Value.ref.inj q))) (by decide) (by decide) ?_
              show Steps p.tables e below (T1.setTop (mkF m 31 #[.val (.ref a), .val (.ref b), .val (.ref ra), .val (.int (6 : Int32)), .val (.int (4 : Int32)), .val (.ref t4)] [])) _
              refine XS.iinc X1.here hx rfl (hb hby d5_31) rfl (l' := #[.val (.ref a), .val (.ref b), .val (.ref ra), .val (.int (6 : Int32)), .val (.int (5 : Int32)), .val (.ref t4)]) rfl ?_
              show Steps p.tables e below (T1.setTop (mkF m 34 #[.val (.ref a), .val (.ref b), .val (.ref ra), .val (.int (6 : Int32)), .val (.int (5 : Int32)), .val (.ref t4)] [])) _
              refine XS.goto X1.here hx rfl (pc0 := 34) (pc' := 11) rfl (hb hby d5_34) (by decide) (by decide) ?_
              show Steps p.tables e below (T1.setTop (mkF m 11 #[.val (.ref a), .val (.ref b), .val (.ref ra), .val (.int (6 : Int32)), .val (.int (5 : Int32)), .val (.ref t4)] [])) _
              refine XS.iload X1.here hx rfl (hb hby d5_11) rfl ?_
              show Steps p.tables e below (T1.setTop (mkF m 13 #[.val (.ref a), .val (.ref b), .val (.ref ra), .val (.int (6 : Int32)), .val (.int (5 : Int32)), .val (.ref t4)] [(.int (5 : Int32))])) _
              refine XS.iloadN X1.here hx rfl (hb hby d5_13) rfl ?_
              show Steps p.tables e below (T1.setTop (mkF m 14 #[.val (.ref a), .val (.ref b), .val (.ref ra), .val (.int (6 : Int32)), .val (.int (5 : Int32)), .val (.ref t4)] [(.int (6 : Int32)), (.int (5 : Int32))])) _
              refine XS.icmpNo X1.here hx rfl (hb hby d5_14) rfl (XT.ii_ge_f (by decide)) ?_
              show Steps p.tables e below (T1.setTop (mkF m 17 #[.val (.ref a), .val (.ref b), .val (.ref ra), .val (.int (6 : Int32)), .val (.int (5 : Int32)), .val (.ref t4)] [])) _
              refine XS.aloadN X1.here hx rfl (hb hby d5_17) rfl rfl ?_
              show Steps p.tables e below (T1.setTop (mkF m 18 #[.val (.ref a), .val (.ref b), .val (.ref ra), .val (.int (6 : Int32)), .val (.int (5 : Int32)), .val (.ref t4)] [(.ref ra)])) _
              refine XS.iload X1.here hx rfl (hb hby d5_18) rfl ?_
              show Steps p.tables e below (T1.setTop (mkF m 20 #[.val (.ref a), .val (.ref b), .val (.ref ra), .val (.int (6 : Int32)), .val (.int (5 : Int32)), .val (.ref t4)] [(.int (5 : Int32)), (.ref ra)])) _
              refine X1.aaload hx (j := (5 : Int32)) (v := (.ref t5)) (by rw [e1]; exact Ar.1) (State.isArrayOf_alike hZ.alike Ar.2.1) rfl Ar.2.2 El5.1 El5.2 (g := (mkF m 20 #[.val (.ref a), .val (.ref b), .val (.ref ra), .val (.int (6 : Int32)), .val (.int (5 : Int32)), .val (.ref t4)] [(.int (5 : Int32)), (.ref ra)])) rfl rfl (hb hby d5_20) _ ?_
              show Steps p.tables e below (T1.setTop (mkF m 21 #[.val (.ref a), .val (.ref b), .val (.ref ra), .val (.int (6 : Int32)), .val (.int (5 : Int32)), .val (.ref t4)] [(.ref t5)])) _
              refine XS.astore X1.here hx rfl (hb hby d5_21) rfl rfl (l' := #[.val (.ref a), .val (.ref b), .val (.ref ra), .val (.int (6 : Int32)), .val (.int (5 : Int32)), .val (.ref t5)]) rfl ?_
              show Steps p.tables e below (T1.setTop (mkF m 23 #[.val (.ref a), .val (.ref b), .val (.ref ra), .val (.int (6 : Int32)), .val (.int (5 : Int32)), .val (.ref t5)] [])) _
              refine XS.aload X1.here hx rfl (hb hby d5_23) rfl rfl ?_
              show Steps p.tables e below (T1.setTop (mkF m 25 #[.val (.ref a), .val (.ref b), .val (.ref ra), .val (.int (6 : Int32)), .val (.int (5 : Int32)), .val (.ref t5)] [(.ref t5)])) _
              refine XS.aloadN X1.here hx rfl (hb hby d5_25) rfl rfl ?_
              exact kt
            by_cases hc26_18 : t5 = b
            · have pre19 : ∀ tg_, Steps p.tables e below (T1.setTop (mkF m 30 #[.val (.ref a), .val (.ref b), .val (.ref ra), .val (.int (6 : Int32)), .val (.int (5 : Int32)), .val (.ref t5)] [(.int (1 : Int32))])) tg_ → Steps p.tables e below (s₁.setTop (entryFrame m #[(.ref a), (.ref b)] 6)) tg_ := by
                intro tg_ kt
                refine pre17 _ ?_
                show Steps p.tables e below (T1.setTop (mkF m 26 #[.val (.ref a), .val (.ref b), .val (.ref ra), .val (.int (6 : Int32)), .val (.int (5 : Int32)), .val (.ref t5)] [(.ref b), (.ref t5)])) _
                refine XT.acmpNo X1.here hx rfl (hb hby d5_26) rfl rfl rfl (XT.aa_ne_f (congrArg Value.ref hc26_18)) ?_
                show Steps p.tables e below (T1.setTop (mkF m 29 #[.val (.ref a), .val (.ref b), .val (.ref ra), .val (.int (6 : Int32)), .val (.int (5 : Int32)), .val (.ref t5)] [])) _
                refine XS.iconst X1.here hx rfl (hb hby d5_29) ?_
                exact kt
              obtain ⟨fs, hr, hrun, hended, hW, hsame⟩ := X1.leave (v := some (.int (1 : Int32))) (fun h => by rw [Bd.returns] at h; cases h)
              refine ⟨_, _, pre19 _ ?_, hrun, hended, _, _, rfl, ?_, ⟨_, rfl⟩, hW, hsame.mono (by decide) (by decide)⟩
              · show Steps p.tables e below (T1.setTop (mkF m 30 #[.val (.ref a), .val (.ref b), .val (.ref ra), .val (.int (6 : Int32)), .val (.int (5 : Int32)), .val (.ref t5)] [(.int (1 : Int32))])) _
                exact retN X1 hx (t := .boolean) Bd.returns (by simp) (hb hby d5_30) hr
              · show Q1 Z (.int (usesF t0 t1 t2 t3 t4 t5 b)) h0 n0 _ T1.heap _
                rw [e1]
                exact ⟨by simp [usesF, hc26_3, hc26_6, hc26_9, hc26_12, hc26_15, hc26_18], N0, rfl⟩
            · have pre20 : ∀ tg_, Steps p.tables e below (T1.setTop (mkF m 38 #[.val (.ref a), .val (.ref b), .val (.ref ra), .val (.int (6 : Int32)), .val (.int (6 : Int32)), .val (.ref t5)] [(.int (0 : Int32))])) tg_ → Steps p.tables e below (s₁.setTop (entryFrame m #[(.ref a), (.ref b)] 6)) tg_ := by
                intro tg_ kt
                refine pre17 _ ?_
                show Steps p.tables e below (T1.setTop (mkF m 26 #[.val (.ref a), .val (.ref b), .val (.ref ra), .val (.int (6 : Int32)), .val (.int (5 : Int32)), .val (.ref t5)] [(.ref b), (.ref t5)])) _
                refine XT.acmpYes X1.here hx rfl (pc0 := 26) (pc' := 31) rfl (hb hby d5_26) rfl rfl rfl (XT.aa_ne_t (fun q => hc26_18 (Value.ref.inj q))) (by decide) (by decide) ?_
                show Steps p.tables e below (T1.setTop (mkF m 31 #[.val (.ref a), .val (.ref b), .val (.ref ra), .val (.int (6 : Int32)), .val (.int (5 : Int32)), .val (.ref t5)] [])) _
                refine XS.iinc X1.here hx rfl (hb hby d5_31) rfl (l' := #[.val (.ref a), .val (.ref b), .val (.ref ra), .val (.int (6 : Int32)), .val (.int (6 : Int32)), .val (.ref t5)]) rfl ?_
                show Steps p.tables e below (T1.setTop (mkF m 34 #[.val (.ref a), .val (.ref b), .val (.ref ra), .val (.int (6 : Int32)), .val (.int (6 : Int32)), .val (.ref t5)] [])) _
                refine XS.goto X1.here hx rfl (pc0 := 34) (pc' := 11) rfl (hb hby d5_34) (by decide) (by decide) ?_
                show Steps p.tables e below (T1.setTop (mkF m 11 #[.val (.ref a), .val (.ref b), .val (.ref ra), .val (.int (6 : Int32)), .val (.int (6 : Int32)), .val (.ref t5)] [])) _
                refine XS.iload X1.here hx rfl (hb hby d5_11) rfl ?_
                show Steps p.tables e below (T1.setTop (mkF m 13 #[.val (.ref a), .val (.ref b), .val (.ref ra), .val (.int (6 : Int32)), .val (.int (6 : Int32)), .val (.ref t5)] [(.int (6 : Int32))])) _
                refine XS.iloadN X1.here hx rfl (hb hby d5_13) rfl ?_
                show Steps p.tables e below (T1.setTop (mkF m 14 #[.val (.ref a), .val (.ref b), .val (.ref ra), .val (.int (6 : Int32)), .val (.int (6 : Int32)), .val (.ref t5)] [(.int (6 : Int32)), (.int (6 : Int32))])) _
                refine XS.icmpYes X1.here hx rfl (pc0 := 14) (pc' := 37) rfl (hb hby d5_14) rfl (XT.ii_ge_t (by decide)) (by decide) (by decide) ?_
                show Steps p.tables e below (T1.setTop (mkF m 37 #[.val (.ref a), .val (.ref b), .val (.ref ra), .val (.int (6 : Int32)), .val (.int (6 : Int32)), .val (.ref t5)] [])) _
                refine XS.iconst X1.here hx rfl (hb hby d5_37) ?_
                exact kt
              obtain ⟨fs, hr, hrun, hended, hW, hsame⟩ := X1.leave (v := some (.int (0 : Int32))) (fun h => by rw [Bd.returns] at h; cases h)
              refine ⟨_, _, pre20 _ ?_, hrun, hended, _, _, rfl, ?_, ⟨_, rfl⟩, hW, hsame.mono (by decide) (by decide)⟩
              · show Steps p.tables e below (T1.setTop (mkF m 38 #[.val (.ref a), .val (.ref b), .val (.ref ra), .val (.int (6 : Int32)), .val (.int (6 : Int32)), .val (.ref t5)] [(.int (0 : Int32))])) _
                exact retN X1 hx (t := .boolean) Bd.returns (by simp) (hb hby d5_38) hr
              · show Q1 Z (.int (usesF t0 t1 t2 t3 t4 t5 b)) h0 n0 _ T1.heap _
                rw [e1]
                exact ⟨by simp [usesF, hc26_3, hc26_6, hc26_9, hc26_12, hc26_15, hc26_18], N0, rfl⟩
theorem pn0 : plainName "com/example/hawtip/hawtip/dispatch/PolicyUsesPinLaw" = true := by first | (simp [plainName, overriddenIn]; done) | decide +kernel
theorem pd0_0 : parseMethodDescriptor "(I)Lcom/example/hawtip/hawtip/dispatch/Policy;" = some ⟨[.int], some (.object "com/example/hawtip/hawtip/dispatch/Policy")⟩ := by decide +kernel
theorem pd0_1 : parseMethodDescriptor "(I)Lcom/example/hawtip/hawtip/dispatch/Policy$Route;" = some ⟨[.int], some (.object "com/example/hawtip/hawtip/dispatch/Policy$Route")⟩ := by decide +kernel
theorem pd0_2 : parseMethodDescriptor "(Lcom/example/hawtip/hawtip/dispatch/Event;)Lcom/example/hawtip/hawtip/dispatch/Policy$Route;" = some ⟨[(.object "com/example/hawtip/hawtip/dispatch/Event")], some (.object "com/example/hawtip/hawtip/dispatch/Policy$Route")⟩ := by decide +kernel
theorem pd0_3 : parseMethodDescriptor "(Lcom/example/hawtip/hawtip/dispatch/Policy$Route;)Z" = some ⟨[(.object "com/example/hawtip/hawtip/dispatch/Policy$Route")], some .boolean⟩ := by decide +kernel
theorem ef0 (m : MethodId) (x0 : Int32) (x1 : Int32) : entryFrame m #[(.int x0), (.int x1)] maxLocals = mkF m 0 #[.val (.int x0), .val (.int x1), .unset, .unset, .unset, .unset, .unset, .unset, .unset] [] := by first | (simp [entryFrame, mkF, argsToLocals, Value.category, maxLocals]; done) | rfl
set_option maxRecDepth 65536 in
set_option maxHeartbeats 40000000 in
theorem rm0 (l : Launch) (Z : State) (a0 : Array Value) (hw : ∀ d ∈ tables_1, d.before a0 Z = true) (ws : List Jvm.Cond) (p1 p2 : Int32) (u0 u1 u2 u3 u4 r0 r1 r2 v0 v1 v2 v3 v4 v5 ra t0 t1 t2 t3 t4 t5 : Addr) (cl : Cell) (h0 : Heap) (n0 : Nat) (Z0 : n0 ≤ h0.size) (S_ALL : Sta Z h0 "com/example/hawtip/hawtip/dispatch/Policy" "ALL" "Lcom/example/hawtip/hawtip/dispatch/Policy;" (.ref u0)) (S_DIRECT : Sta Z h0 "com/example/hawtip/hawtip/dispatch/Policy" "DIRECT" "Lcom/example/hawtip/hawtip/dispatch/Policy;" (.ref u1)) (S_MESSAGE : Sta Z h0 "com/example/hawtip/hawtip/dispatch/Policy" "MESSAGE" "Lcom/example/hawtip/hawtip/dispatch/Policy;" (.ref u2)) (S_EXECUTION : Sta Z h0 "com/example/hawtip/hawtip/dispatch/Policy" "EXECUTION" "Lcom/example/hawtip/hawtip/dispatch/Policy;" (.ref u3)) (S_CONNECTION : Sta Z h0 "com/example/hawtip/hawtip/dispatch/Policy" "CONNECTION" "Lcom/example/hawtip/hawtip/dispatch/Policy;" (.ref u4)) (S_IO : Sta Z h0 "com/example/hawtip/hawtip/dispatch/Policy$Route" "IO" "Lcom/example/hawtip/hawtip/dispatch/Policy$Route;" (.ref r0)) (S_POOL : Sta Z h0 "com/example/hawtip/hawtip/dispatch/Policy$Route" "POOL" "Lcom/example/hawtip/hawtip/dispatch/Policy$Route;" (.ref r1)) (S_CONNECTION_THREAD : Sta Z h0 "com/example/hawtip/hawtip/dispatch/Policy$Route" "CONNECTION_THREAD" "Lcom/example/hawtip/hawtip/dispatch/Policy$Route;" (.ref r2)) (S_CONNECTED : Sta Z h0 "com/example/hawtip/hawtip/dispatch/Event" "CONNECTED" "Lcom/example/hawtip/hawtip/dispatch/Event;" (.ref v0)) (S_DISCONNECTED : Sta Z h0 "com/example/hawtip/hawtip/dispatch/Event" "DISCONNECTED" "Lcom/example/hawtip/hawtip/dispatch/Event;" (.ref v1)) (S_SENT : Sta Z h0 "com/example/hawtip/hawtip/dispatch/Event" "SENT" "Lcom/example/hawtip/hawtip/dispatch/Event;" (.ref v2)) (S_REQUEST : Sta Z h0 "com/example/hawtip/hawtip/dispatch/Event" "REQUEST" "Lcom/example/hawtip/hawtip/dispatch/Event;" (.ref v3)) (S_RESPONSE : Sta Z h0 "com/example/hawtip/hawtip/dispatch/Event" "RESPONSE" "Lcom/example/hawtip/hawtip/dispatch/Event;" (.ref v4)) (S_CAUGHT : Sta Z h0 "com/example/hawtip/hawtip/dispatch/Event" "CAUGHT" "Lcom/example/hawtip/hawtip/dispatch/Event;" (.ref v5)) (Ep : Exa Z h0 (polF ((p1 &&& (2147483647 : Int32)) % (5 : Int32)) u0 u1 u2 u3 u4) "com/example/hawtip/hawtip/dispatch/Policy") (Fr_ : Fld Z h0 (polF ((p1 &&& (2147483647 : Int32)) % (5 : Int32)) u0 u1 u2 u3 u4) "com/example/hawtip/hawtip/dispatch/Policy" "routes" "[Lcom/example/hawtip/hawtip/dispatch/Policy$Route;" (.ref ra)) (Ar : Arr Z h0 ra cl (.object "com/example/hawtip/hawtip/dispatch/Policy$Route")) (hlen : cl.slots.size.toInt32 = 6) (El0 : Elem cl 0 t0) (El1 : Elem cl 1 t1) (El2 : Elem cl 2 t2) (El3 : Elem cl 3 t3) (El4 : Elem cl 4 t4) (El5 : Elem cl 5 t5) (Fo0 : Fld Z h0 v0 "java/lang/Enum" "ordinal" "I" (.int 0)) (Fo1 : Fld Z h0 v1 "java/lang/Enum" "ordinal" "I" (.int 1)) (Fo2 : Fld Z h0 v2 "java/lang/Enum" "ordinal" "I" (.int 2)) (Fo3 : Fld Z h0 v3 "java/lang/Enum" "ordinal" "I" (.int 3)) (Fo4 : Fld Z h0 v4 "java/lang/Enum" "ordinal" "I" (.int 4)) (Fo5 : Fld Z h0 v5 "java/lang/Enum" "ordinal" "I" (.int 5)) (Ev0 : Exa Z h0 v0 "com/example/hawtip/hawtip/dispatch/Event") (Ev1 : Exa Z h0 v1 "com/example/hawtip/hawtip/dispatch/Event") (Ev2 : Exa Z h0 v2 "com/example/hawtip/hawtip/dispatch/Event") (Ev3 : Exa Z h0 v3 "com/example/hawtip/hawtip/dispatch/Event") (Ev4 : Exa Z h0 v4 "com/example/hawtip/hawtip/dispatch/Event") (Ev5 : Exa Z h0 v5 "com/example/hawtip/hawtip/dispatch/Event") (hEq : usesF t0 t1 t2 t3 t4 t5 (routeF ((p2 &&& (2147483647 : Int32)) % (3 : Int32)) r0 r1 r2) = expF ((p1 &&& (2147483647 : Int32)) % (5 : Int32)) ((p2 &&& (2147483647 : Int32)) % (3 : Int32))) :
    MetFree l x (head1 (Jvm.Cond.code x code maxLocals ret :: ws) room_1) (fun aa_ U => aa_ = #[(.int p1), (.int p2)] ∧ Z.Warmed39 U.vm ∧ U.heap = h0) (fun _ _ _ _ _ => True) (fun _ U o U' => ∃ vv_ LL_, o = .returned vv_ ∧ Q1 Z (.int 1) h0 n0 vv_ U'.heap LL_ ∧ FrameEnd U o U' LL_ room_1.cells room_1.slots) := by
  refine MetFree.of_bodySF (plainFor_of_name pn0) hisR ?_
  intro p e s m args below meth c s₁ Bd hml0 hP hK
  obtain ⟨rfl, hZ, hh⟩ := hP
  have hx := Bd.exec
  have hby := Bd.bytes
  have hml : c.maxLocals = 9 := hml0
  have hown : s.vm.findClass "com/example/hawtip/hawtip/dispatch/PolicyUsesPinLaw" = some m.cls := findClass_of_methodNamed Bd.named
  have hnm := (name_of_methodNamed Bd.named Bd.method).1
  have X0 : Stand p l e room_1 s m #[(.int p1), (.int p2)] below meth c s₁ [] 0 0 := Stand.of_body Bd
  have e0 : s₁.heap = h0 := by rw [← hh, Bd.state]; rfl
  have N0 := Fr.nil n0
  have pre0 : ∀ tg_, Steps p.tables e below (s₁.setTop (mkF m 0 #[.val (.int p1), .val (.int p2), .unset, .unset, .unset, .unset, .unset, .unset, .unset] [])) tg_ → Steps p.tables e below (s₁.setTop (entryFrame m #[(.int p1), (.int p2)] maxLocals)) tg_ := fun tg_ kt => castTop (ef0 m p1 p2) kt
  obtain ⟨_, _, ⟨T1, L1, k1, n1⟩, -, X1, ⟨Lc1, hQ1, l1, y1, z1⟩, st1⟩ := Jvm.LawKit.callS X0 hx (y := (⟨"com/example/hawtip/hawtip/dispatch/PolicyUsesPinLaw", "policyOf", "(I)Lcom/example/hawtip/hawtip/dispatch/Policy;"⟩ : MethodName)) hown (mvT hZ (hw _ (List.mem_of_getElem? (i := 1) rfl))) (mvT hZ (hw _ (List.mem_of_getElem? (i := 2) rfl))) (mvT hZ (hw _ (List.mem_of_getElem? (i := 3) rfl))) (mvT hZ (hw _ (List.mem_of_getElem? (i := 4) rfl))) (by decide) (backOf (W := 0) (rm1 l Z a0 hw [] ((p1 &&& (2147483647 : Int32)) % (5 : Int32)) u0 u1 u2 u3 u4 h0 n0 Z0 S_ALL S_DIRECT S_MESSAGE S_EXECUTION S_CONNECTION) hZ (hw _ (List.mem_of_getElem? (i := 4) rfl)) (hw _ (List.mem_of_getElem? (i := 3) rfl)) (by decide) (by decide)) (g := (mkF m 15 #[.val (.int p1), .val (.int p2), .val (.int ((p1 &&& (2147483647 : Int32)) % (5 : Int32))), .val (.int ((p2 &&& (2147483647 : Int32)) % (3 : Int32))), .unset, .unset, .unset, .unset, .unset] [(.int ((p1 &&& (2147483647 : Int32)) % (5 : Int32)))])) rfl (by rw [hml]; rfl) (argsL := [(.int ((p1 &&& (2147483647 : Int32)) % (5 : Int32)))]) (rest := []) (lenOf pd0_0 rfl) rfl (by show 2 * 0 + _ ≤ _; exact Nat.le_of_eq rfl) (hb hby at_15) (fun _ _ => ⟨rfl, e0, (by decide : 0 + 0 ≤ _), (by decide : 0 + 0 ≤ _)⟩)
  dsimp only [Pt.U, Pt.locs, Pt.cells, Pt.slots] at X1 l1 y1 z1 st1 hQ1
  subst l1 y1 z1
  obtain ⟨rfl, N1q, e1⟩ := hQ1
  have N1 := Fr.app N0 N1q
  obtain ⟨_, _, ⟨T2, L2, k2, n2⟩, -, X2, ⟨Lc2, hQ2, l2, y2, z2⟩, st2⟩ := Jvm.LawKit.callS X1 hx (y := (⟨"com/example/hawtip/hawtip/dispatch/PolicyUsesPinLaw", "routeOf", "(I)Lcom/example/hawtip/hawtip/dispatch/Policy$Route;"⟩ : MethodName)) hown (mvT hZ (hw _ (List.mem_of_getElem? (i := 8) rfl))) (mvT hZ (hw _ (List.mem_of_getElem? (i := 9) rfl))) (mvT hZ (hw _ (List.mem_of_getElem? (i := 3) rfl))) (mvT hZ (hw _ (List.mem_of_getElem? (i := 10) rfl))) (by decide) (backOf (W := 0) (rm2 l Z a0 hw [] ((p2 &&& (2147483647 : Int32)) % (3 : Int32)) r0 r1 r2 h0 n0 Z0 S_IO S_POOL S_CONNECTION_THREAD) hZ (hw _ (List.mem_of_getElem? (i := 10) rfl)) (hw _ (List.mem_of_getElem? (i := 3) rfl)) (by decide) (by decide)) (g := (mkF m 21 #[.val (.int p1), .val (.int p2), .val (.int ((p1 &&& (2147483647 : Int32)) % (5 : Int32))), .val (.int ((p2 &&& (2147483647 : Int32)) % (3 : Int32))), .val (.ref (polF ((p1 &&& (2147483647 : Int32)) % (5 : Int32)) u0 u1 u2 u3 u4)), .unset, .unset, .unset, .unset] [(.int ((p2 &&& (2147483647 : Int32)) % (3 : Int32)))])) rfl (by rw [hml]; rfl) (argsL := [(.int ((p2 &&& (2147483647 : Int32)) % (3 : Int32)))]) (rest := []) (lenOf pd0_1 rfl) rfl (by show 2 * 0 + _ ≤ _; exact Nat.le_of_eq rfl) (hb hby at_21) (fun _ _ => ⟨rfl, e1, (by decide : 0 + 0 ≤ _), (by decide : 0 + 0 ≤ _)⟩)
  dsimp only [Pt.U, Pt.locs, Pt.cells, Pt.slots] at X2 l2 y2 z2 st2 hQ2
  subst l2 y2 z2
  obtain ⟨rfl, N2q, e2⟩ := hQ2
  have N2 := Fr.app N1 N2q
  have pre3 : ∀ tg_, Steps p.tables e below (T2.setTop (mkF m 27 #[.val (.int p1), .val (.int p2), .val (.int ((p1 &&& (2147483647 : Int32)) % (5 : Int32))), .val (.int ((p2 &&& (2147483647 : Int32)) % (3 : Int32))), .val (.ref (polF ((p1 &&& (2147483647 : Int32)) % (5 : Int32)) u0 u1 u2 u3 u4)), .val (.ref (routeF ((p2 &&& (2147483647 : Int32)) % (3 : Int32)) r0 r1 r2)), .unset, .unset, .unset] [(.int ((p2 &&& (2147483647 : Int32)) % (3 : Int32)))])) tg_ → Steps p.tables e below (s₁.setTop (entryFrame m #[(.int p1), (.int p2)] maxLocals)) tg_ := by
    intro tg_ kt
    refine pre0 _ ?_
    show Steps p.tables e below (s₁.setTop (mkF m 0 #[.val (.int p1), .val (.int p2), .unset, .unset, .unset, .unset, .unset, .unset, .unset] [])) _
    refine XS.iloadN X0.here hx rfl (hb hby at_0) rfl ?_
    show Steps p.tables e below (s₁.setTop (mkF m 1 #[.val (.int p1), .val (.int p2), .unset, .unset, .unset, .unset, .unset, .unset, .unset] [(.int p1)])) _
    refine X0.ldcI hx hown (mvT hZ (hw _ (List.mem_of_getElem? (i := 0) rfl))) (g := (mkF m 1 #[.val (.int p1), .val (.int p2), .unset, .unset, .unset, .unset, .unset, .unset, .unset] [(.int p1)])) rfl (hb hby at_1) ?_
    show Steps p.tables e below (s₁.setTop (mkF m 3 #[.val (.int p1), .val (.int p2), .unset, .unset, .unset, .unset, .unset, .unset, .unset] [(.int (2147483647 : Int32)), (.int p1)])) _
    refine XS.iand X0.here hx rfl (hb hby at_3) rfl ?_
    show Steps p.tables e below (s₁.setTop (mkF m 4 #[.val (.int p1), .val (.int p2), .unset, .unset, .unset, .unset, .unset, .unset, .unset] [(.int (p1 &&& (2147483647 : Int32)))])) _
    refine XS.iconst X0.here hx rfl (hb hby at_4) ?_
    show Steps p.tables e below (s₁.setTop (mkF m 5 #[.val (.int p1), .val (.int p2), .unset, .unset, .unset, .unset, .unset, .unset, .unset] [(.int (5 : Int32)), (.int (p1 &&& (2147483647 : Int32)))])) _
    refine iremM X0 hx rfl (hb hby at_5) rfl (by decide) ?_
    show Steps p.tables e below (s₁.setTop (mkF m 6 #[.val (.int p1), .val (.int p2), .unset, .unset, .unset, .unset, .unset, .unset, .unset] [(.int ((p1 &&& (2147483647 : Int32)) % (5 : Int32)))])) _
    refine XS.istoreN X0.here hx rfl (hb hby at_6) rfl (l' := #[.val (.int p1), .val (.int p2), .val (.int ((p1 &&& (2147483647 : Int32)) % (5 : Int32))), .unset, .unset, .unset, .unset, .unset, .unset]) rfl ?_
    show Steps p.tables e below (s₁.setTop (mkF m 7 #[.val (.int p1), .val (.int p2), .val (.int ((p1 &&& (2147483647 : Int32)) % (5 : Int32))), .unset, .unset, .unset, .unset, .unset, .unset] [])) _
    refine XS.iloadN X0.here hx rfl (hb hby at_7) rfl ?_
    show Steps p.tables e below (s₁.setTop (mkF m 8 #[.val (.int p1), .val (.int p2), .val (.int ((p1 &&& (2147483647 : Int32)) % (5 : Int32))), .unset, .unset, .unset, .unset, .unset, .unset] [(.int p2)])) _
    refine X0.ldcI hx hown (mvT hZ (hw _ (List.mem_of_getElem? (i := 0) rfl))) (g := (mkF m 8 #[.val (.int p1), .val (.int p2), .val (.int ((p1 &&& (2147483647 : Int32)) % (5 : Int32))), .unset, .unset, .unset, .unset, .unset, .unset] [(.int p2)])) rfl (hb hby at_8) ?_
    show Steps p.tables e below (s₁.setTop (mkF m 10 #[.val (.int p1), .val (.int p2), .val (.int ((p1 &&& (2147483647 : Int32)) % (5 : Int32))), .unset, .unset, .unset, .unset, .unset, .unset] [(.int (2147483647 : Int32)), (.int p2)])) _
    refine XS.iand X0.here hx rfl (hb hby at_10) rfl ?_
    show Steps p.tables e below (s₁.setTop (mkF m 11 #[.val (.int p1), .val (.int p2), .val (.int ((p1 &&& (2147483647 : Int32)) % (5 : Int32))), .unset, .unset, .unset, .unset, .unset, .unset] [(.int (p2 &&& (2147483647 : Int32)))])) _
    refine XS.iconst X0.here hx rfl (hb hby at_11) ?_
    show Steps p.tables e below (s₁.setTop (mkF m 12 #[.val (.int p1), .val (.int p2), .val (.int ((p1 &&& (2147483647 : Int32)) % (5 : Int32))), .unset, .unset, .unset, .unset, .unset, .unset] [(.int (3 : Int32)), (.int (p2 &&& (2147483647 : Int32)))])) _
    refine iremM X0 hx rfl (hb hby at_12) rfl (by decide) ?_
    show Steps p.tables e below (s₁.setTop (mkF m 13 #[.val (.int p1), .val (.int p2), .val (.int ((p1 &&& (2147483647 : Int32)) % (5 : Int32))), .unset, .unset, .unset, .unset, .unset, .unset] [(.int ((p2 &&& (2147483647 : Int32)) % (3 : Int32)))])) _
    refine XS.istoreN X0.here hx rfl (hb hby at_13) rfl (l' := #[.val (.int p1), .val (.int p2), .val (.int ((p1 &&& (2147483647 : Int32)) % (5 : Int32))), .val (.int ((p2 &&& (2147483647 : Int32)) % (3 : Int32))), .unset, .unset, .unset, .unset, .unset]) rfl ?_
    show Steps p.tables e below (s₁.setTop (mkF m 14 #[.val (.int p1), .val (.int p2), .val (.int ((p1 &&& (2147483647 : Int32)) % (5 : Int32))), .val (.int ((p2 &&& (2147483647 : Int32)) % (3 : Int32))), .unset, .unset, .unset, .unset, .unset] [])) _
    refine XS.iloadN X0.here hx rfl (hb hby at_14) rfl ?_
    show Steps p.tables e below (s₁.setTop (mkF m 15 #[.val (.int p1), .val (.int p2), .val (.int ((p1 &&& (2147483647 : Int32)) % (5 : Int32))), .val (.int ((p2 &&& (2147483647 : Int32)) % (3 : Int32))), .unset, .unset, .unset, .unset, .unset] [(.int ((p1 &&& (2147483647 : Int32)) % (5 : Int32)))])) _
    refine st1 _ ?_
    show Steps p.tables e below (T1.setTop (mkF m 18 #[.val (.int p1), .val (.int p2), .val (.int ((p1 &&& (2147483647 : Int32)) % (5 : Int32))), .val (.int ((p2 &&& (2147483647 : Int32)) % (3 : Int32))), .unset, .unset, .unset, .unset, .unset] [(.ref (polF ((p1 &&& (2147483647 : Int32)) % (5 : Int32)) u0 u1 u2 u3 u4))])) _
    refine XS.astore X1.here hx rfl (hb hby at_18) rfl rfl (l' := #[.val (.int p1), .val (.int p2), .val (.int ((p1 &&& (2147483647 : Int32)) % (5 : Int32))), .val (.int ((p2 &&& (2147483647 : Int32)) % (3 : Int32))), .val (.ref (polF ((p1 &&& (2147483647 : Int32)) % (5 : Int32)) u0 u1 u2 u3 u4)), .unset, .unset, .unset, .unset]) rfl ?_
    show Steps p.tables e below (T1.setTop (mkF m 20 #[.val (.int p1), .val (.int p2), .val (.int ((p1 &&& (2147483647 : Int32)) % (5 : Int32))), .val (.int ((p2 &&& (2147483647 : Int32)) % (3 : Int32))), .val (.ref (polF ((p1 &&& (2147483647 : Int32)) % (5 : Int32)) u0 u1 u2 u3 u4)), .unset, .unset, .unset, .unset] [])) _
    refine XS.iloadN X1.here hx rfl (hb hby at_20) rfl ?_
    show Steps p.tables e below (T1.setTop (mkF m 21 #[.val (.int p1), .val (.int p2), .val (.int ((p1 &&& (2147483647 : Int32)) % (5 : Int32))), .val (.int ((p2 &&& (2147483647 : Int32)) % (3 : Int32))), .val (.ref (polF ((p1 &&& (2147483647 : Int32)) % (5 : Int32)) u0 u1 u2 u3 u4)), .unset, .unset, .unset, .unset] [(.int ((p2 &&& (2147483647 : Int32)) % (3 : Int32)))])) _
    refine st2 _ ?_
    show Steps p.tables e below (T2.setTop (mkF m 24 #[.val (.int p1), .val (.int p2), .val (.int ((p1 &&& (2147483647 : Int32)) % (5 : Int32))), .val (.int ((p2 &&& (2147483647 : Int32)) % (3 : Int32))), .val (.ref (polF ((p1 &&& (2147483647 : Int32)) % (5 : Int32)) u0 u1 u2 u3 u4)), .unset, .unset, .unset, .unset] [(.ref (routeF ((p2 &&& (2147483647 : Int32)) % (3 : Int32)) r0 r1 r2))])) _
    refine XS.astore X2.here hx rfl (hb hby at_24) rfl rfl (l' := #[.val (.int p1), .val (.int p2), .val (.int ((p1 &&& (2147483647 : Int32)) % (5 : Int32))), .val (.int ((p2 &&& (2147483647 : Int32)) % (3 : Int32))), .val (.ref (polF ((p1 &&& (2147483647 : Int32)) % (5 : Int32)) u0 u1 u2 u3 u4)), .val (.ref (routeF ((p2 &&& (2147483647 : Int32)) % (3 : Int32)) r0 r1 r2)), .unset, .unset, .unset]) rfl ?_
    show Steps p.tables e below (T2.setTop (mkF m 26 #[.val (.int p1), .val (.int p2), .val (.int ((p1 &&& (2147483647 : Int32)) % (5 : Int32))), .val (.int ((p2 &&& (2147483647 : Int32)) % (3 : Int32))), .val (.ref (polF ((p1 &&& (2147483647 : Int32)) % (5 : Int32)) u0 u1 u2 u3 u4)), .val (.ref (routeF ((p2 &&& (2147483647 : Int32)) % (3 : Int32)) r0 r1 r2)), .unset, .unset, .unset] [])) _
    refine XS.iloadN X2.here hx rfl (hb hby at_26) rfl ?_
    exact kt
  have pre4 : ∀ tg_, Steps p.tables e below (T2.setTop (mkF m 68 #[.val (.int p1), .val (.int p2), .val (.int ((p1 &&& (2147483647 : Int32)) % (5 : Int32))), .val (.int ((p2 &&& (2147483647 : Int32)) % (3 : Int32))), .val (.ref (polF ((p1 &&& (2147483647 : Int32)) % (5 : Int32)) u0 u1 u2 u3 u4)), .val (.ref (routeF ((p2 &&& (2147483647 : Int32)) % (3 : Int32)) r0 r1 r2)), .val (.int (expF ((p1 &&& (2147483647 : Int32)) % (5 : Int32)) ((p2 &&& (2147483647 : Int32)) % (3 : Int32)))), .unset, .unset] [])) tg_ → Steps p.tables e below (s₁.setTop (entryFrame m #[(.int p1), (.int p2)] maxLocals)) tg_ := by
    intro tg_ kt
    refine pre3 _ ?_
    show Steps p.tables e below (T2.setTop (mkF m 27 #[.val (.int p1), .val (.int p2), .val (.int ((p1 &&& (2147483647 : Int32)) % (5 : Int32))), .val (.int ((p2 &&& (2147483647 : Int32)) % (3 : Int32))), .val (.ref (polF ((p1 &&& (2147483647 : Int32)) % (5 : Int32)) u0 u1 u2 u3 u4)), .val (.ref (routeF ((p2 &&& (2147483647 : Int32)) % (3 : Int32)) r0 r1 r2)), .unset, .unset, .unset] [(.int ((p2 &&& (2147483647 : Int32)) % (3 : Int32)))])) _
    by_cases hr27_5 : ((p2 &&& (2147483647 : Int32)) % (3 : Int32)) = (0 : Int32)
    · refine XS.ifNo X2.here hx rfl (hb hby at_27) rfl (XT.i0_ne_f hr27_5) ?_
      show Steps p.tables e below (T2.setTop (mkF m 30 #[.val (.int p1), .val (.int p2), .val (.int ((p1 &&& (2147483647 : Int32)) % (5 : Int32))), .val (.int ((p2 &&& (2147483647 : Int32)) % (3 : Int32))), .val (.ref (polF ((p1 &&& (2147483647 : Int32)) % (5 : Int32)) u0 u1 u2 u3 u4)), .val (.ref (routeF ((p2 &&& (2147483647 : Int32)) % (3 : Int32)) r0 r1 r2)), .unset, .unset, .unset] [])) _
      refine XS.iconst X2.here hx rfl (hb hby at_30) ?_
      show Steps p.tables e below (T2.setTop (mkF m 31 #[.val (.int p1), .val (.int p2), .val (.int ((p1 &&& (2147483647 : Int32)) % (5 : Int32))), .val (.int ((p2 &&& (2147483647 : Int32)) % (3 : Int32))), .val (.ref (polF ((p1 &&& (2147483647 : Int32)) % (5 : Int32)) u0 u1 u2 u3 u4)), .val (.ref (routeF ((p2 &&& (2147483647 : Int32)) % (3 : Int32)) r0 r1 r2)), .unset, .unset, .unset] [(.int (1 : Int32))])) _
      refine XS.istore X2.here hx rfl (hb hby at_31) rfl (l' := #[.val (.int p1), .val (.int p2), .val (.int ((p1 &&& (2147483647 : Int32)) % (5 : Int32))), .val (.int ((p2 &&& (2147483647 : Int32)) % (3 : Int32))), .val (.ref (polF ((p1 &&& (2147483647 : Int32)) % (5 : Int32)) u0 u1 u2 u3 u4)), .val (.ref (routeF ((p2 &&& (2147483647 : Int32)) % (3 : Int32)) r0 r1 r2)), .val (.int (1 : Int32)), .unset, .unset]) rfl ?_
      show Steps p.tables e below (T2.setTop (mkF m 33 #[.val (.int p1), .val (.int p2), .val (.int ((p1 &&& (2147483647 : Int32)) % (5 : Int32))), .val (.int ((p2 &&& (2147483647 : Int32)) % (3 : Int32))), .val (.ref (polF ((p1 &&& (2147483647 : Int32)) % (5 : Int32)) u0 u1 u2 u3 u4)), .val (.ref (routeF ((p2 &&& (2147483647 : Int32)) % (3 : Int32)) r0 r1 r2)), .val (.int (1 : Int32)), .unset, .unset] [])) _
      refine XS.goto X2.here hx rfl (pc0 := 33) (pc' := 68) rfl (hb hby at_33) (by decide) (by decide) ?_
      have qv : (expF ((p1 &&& (2147483647 : Int32)) % (5 : Int32)) ((p2 &&& (2147483647 : Int32)) % (3 : Int32))) = (1 : Int32) := by simp [expF, hr27_5]
      rw [qv] at kt
      exact kt
    · refine XS.ifYes X2.here hx rfl (pc0 := 27) (pc' := 36) rfl (hb hby at_27) rfl (XT.i0_ne_t hr27_5) (by decide) (by decide) ?_
      show Steps p.tables e below (T2.setTop (mkF m 36 #[.val (.int p1), .val (.int p2), .val (.int ((p1 &&& (2147483647 : Int32)) % (5 : Int32))), .val (.int ((p2 &&& (2147483647 : Int32)) % (3 : Int32))), .val (.ref (polF ((p1 &&& (2147483647 : Int32)) % (5 : Int32)) u0 u1 u2 u3 u4)), .val (.ref (routeF ((p2 &&& (2147483647 : Int32)) % (3 : Int32)) r0 r1 r2)), .unset, .unset, .unset] [])) _
      refine XS.iloadN X2.here hx rfl (hb hby at_36) rfl ?_
      show Steps p.tables e below (T2.setTop (mkF m 37 #[.val (.int p1), .val (.int p2), .val (.int ((p1 &&& (2147483647 : Int32)) % (5 : Int32))), .val (.int ((p2 &&& (2147483647 : Int32)) % (3 : Int32))), .val (.ref (polF ((p1 &&& (2147483647 : Int32)) % (5 : Int32)) u0 u1 u2 u3 u4)), .val (.ref (routeF ((p2 &&& (2147483647 : Int32)) % (3 : Int32)) r0 r1 r2)), .unset, .unset, .unset] [(.int ((p2 &&& (2147483647 : Int32)) % (3 : Int32)))])) _
      refine XS.iconst X2.here hx rfl (hb hby at_37) ?_
      show Steps p.tables e below (T2.setTop (mkF m 38 #[.val (.int p1), .val (.int p2), .val (.int ((p1 &&& (2147483647 : Int32)) % (5 : Int32))), .val (.int ((p2 &&& (2147483647 : Int32)) % (3 : Int32))), .val (.ref (polF ((p1 &&& (2147483647 : Int32)) % (5 : Int32)) u0 u1 u2 u3 u4)), .val (.ref (routeF ((p2 &&& (2147483647 : Int32)) % (3 : Int32)) r0 r1 r2)), .unset, .unset, .unset] [(.int (1 : Int32)), (.int ((p2 &&& (2147483647 : Int32)) % (3 : Int32)))])) _
      by_cases hr38_6 : ((p2 &&& (2147483647 : Int32)) % (3 : Int32)) = (1 : Int32)
      · refine XS.icmpNo X2.here hx rfl (hb hby at_38) rfl (XT.ii_ne_f hr38_6) ?_
        show Steps p.tables e below (T2.setTop (mkF m 41 #[.val (.int p1), .val (.int p2), .val (.int ((p1 &&& (2147483647 : Int32)) % (5 : Int32))), .val (.int ((p2 &&& (2147483647 : Int32)) % (3 : Int32))), .val (.ref (polF ((p1 &&& (2147483647 : Int32)) % (5 : Int32)) u0 u1 u2 u3 u4)), .val (.ref (routeF ((p2 &&& (2147483647 : Int32)) % (3 : Int32)) r0 r1 r2)), .unset, .unset, .unset] [])) _
        refine XS.iloadN X2.here hx rfl (hb hby at_41) rfl ?_
        show Steps p.tables e below (T2.setTop (mkF m 42 #[.val (.int p1), .val (.int p2), .val (.int ((p1 &&& (2147483647 : Int32)) % (5 : Int32))), .val (.int ((p2 &&& (2147483647 : Int32)) % (3 : Int32))), .val (.ref (polF ((p1 &&& (2147483647 : Int32)) % (5 : Int32)) u0 u1 u2 u3 u4)), .val (.ref (routeF ((p2 &&& (2147483647 : Int32)) % (3 : Int32)) r0 r1 r2)), .unset, .unset, .unset] [(.int ((p1 &&& (2147483647 : Int32)) % (5 : Int32)))])) _
        refine XS.iconst X2.here hx rfl (hb hby at_42) ?_
        show Steps p.tables e below (T2.setTop (mkF m 43 #[.val (.int p1), .val (.int p2), .val (.int ((p1 &&& (2147483647 : Int32)) % (5 : Int32))), .val (.int ((p2 &&& (2147483647 : Int32)) % (3 : Int32))), .val (.ref (polF ((p1 &&& (2147483647 : Int32)) % (5 : Int32)) u0 u1 u2 u3 u4)), .val (.ref (routeF ((p2 &&& (2147483647 : Int32)) % (3 : Int32)) r0 r1 r2)), .unset, .unset, .unset] [(.int (1 : Int32)), (.int ((p1 &&& (2147483647 : Int32)) % (5 : Int32)))])) _
        by_cases hr43_7 : ((p1 &&& (2147483647 : Int32)) % (5 : Int32)) = (1 : Int32)
        · refine XS.icmpYes X2.here hx rfl (pc0 := 43) (pc' := 50) rfl (hb hby at_43) rfl (XT.ii_eq_t hr43_7) (by decide) (by decide) ?_
          show Steps p.tables e below (T2.setTop (mkF m 50 #[.val (.int p1), .val (.int p2), .val (.int ((p1 &&& (2147483647 : Int32)) % (5 : Int32))), .val (.int ((p2 &&& (2147483647 : Int32)) % (3 : Int32))), .val (.ref (polF ((p1 &&& (2147483647 : Int32)) % (5 : Int32)) u0 u1 u2 u3 u4)), .val (.ref (routeF ((p2 &&& (2147483647 : Int32)) % (3 : Int32)) r0 r1 r2)), .unset, .unset, .unset] [])) _
          refine XS.iconst X2.here hx rfl (hb hby at_50) ?_
          show Steps p.tables e below (T2.setTop (mkF m 51 #[.val (.int p1), .val (.int p2), .val (.int ((p1 &&& (2147483647 : Int32)) % (5 : Int32))), .val (.int ((p2 &&& (2147483647 : Int32)) % (3 : Int32))), .val (.ref (polF ((p1 &&& (2147483647 : Int32)) % (5 : Int32)) u0 u1 u2 u3 u4)), .val (.ref (routeF ((p2 &&& (2147483647 : Int32)) % (3 : Int32)) r0 r1 r2)), .unset, .unset, .unset] [(.int (0 : Int32))])) _
          refine XS.istore X2.here hx rfl (hb hby at_51) rfl (l' := #[.val (.int p1), .val (.int p2), .val (.int ((p1 &&& (2147483647 : Int32)) % (5 : Int32))), .val (.int ((p2 &&& (2147483647 : Int32)) % (3 : Int32))), .val (.ref (polF ((p1 &&& (2147483647 : Int32)) % (5 : Int32)) u0 u1 u2 u3 u4)), .val (.ref (routeF ((p2 &&& (2147483647 : Int32)) % (3 : Int32)) r0 r1 r2)), .val (.int (0 : Int32)), .unset, .unset]) rfl ?_
          show Steps p.tables e below (T2.setTop (mkF m 53 #[.val (.int p1), .val (.int p2), .val (.int ((p1 &&& (2147483647 : Int32)) % (5 : Int32))), .val (.int ((p2 &&& (2147483647 : Int32)) % (3 : Int32))), .val (.ref (polF ((p1 &&& (2147483647 : Int32)) % (5 : Int32)) u0 u1 u2 u3 u4)), .val (.ref (routeF ((p2 &&& (2147483647 : Int32)) % (3 : Int32)) r0 r1 r2)), .val (.int (0 : Int32)), .unset, .unset] [])) _
          refine XS.goto X2.here hx rfl (pc0 := 53) (pc' := 68) rfl (hb hby at_53) (by decide) (by decide) ?_
          have qv : (expF ((p1 &&& (2147483647 : Int32)) % (5 : Int32)) ((p2 &&& (2147483647 : Int32)) % (3 : Int32))) = (0 : Int32) := by simp [expF, hr27_5, hr38_6, hr43_7]
          rw [qv] at kt
          exact kt
        · refine XS.icmpNo X2.here hx rfl (hb hby at_43) rfl (XT.ii_eq_f hr43_7) ?_
          show Steps p.tables e below (T2.setTop (mkF m 46 #[.val (.int p1), .val (.int p2), .val (.int ((p1 &&& (2147483647 : Int32)) % (5 : Int32))), .val (.int ((p2 &&& (2147483647 : Int32)) % (3 : Int32))), .val (.ref (polF ((p1 &&& (2147483647 : Int32)) % (5 : Int32)) u0 u1 u2 u3 u4)), .val (.ref (routeF ((p2 &&& (2147483647 : Int32)) % (3 : Int32)) r0 r1 r2)), .unset, .unset, .unset] [])) _
          refine XS.iconst X2.here hx rfl (hb hby at_46) ?_
          show Steps p.tables e below (T2.setTop (mkF m 47 #[.val (.int p1), .val (.int p2), .val (.int ((p1 &&& (2147483647 : Int32)) % (5 : Int32))), .val (.int ((p2 &&& (2147483647 : Int32)) % (3 : Int32))), .val (.ref (polF ((p1 &&& (2147483647 : Int32)) % (5 : Int32)) u0 u1 u2 u3 u4)), .val (.ref (routeF ((p2 &&& (2147483647 : Int32)) % (3 : Int32)) r0 r1 r2)), .unset, .unset, .unset] [(.int (1 : Int32))])) _
          refine XS.goto X2.here hx rfl (pc0 := 47) (pc' := 51) rfl (hb hby at_47) (by decide) (by decide) ?_
          show Steps p.tables e below (T2.setTop (mkF m 51 #[.val (.int p1), .val (.int p2), .val (.int ((p1 &&& (2147483647 : Int32)) % (5 : Int32))), .val (.int ((p2 &&& (2147483647 : Int32)) % (3 : Int32))), .val (.ref (polF ((p1 &&& (2147483647 : Int32)) % (5 : Int32)) u0 u1 u2 u3 u4)), .val (.ref (routeF ((p2 &&& (2147483647 : Int32)) % (3 : Int32)) r0 r1 r2)), .unset, .unset, .unset] [(.int (1 : Int32))])) _
          refine XS.istore X2.here hx rfl (hb hby at_51) rfl (l' := #[.val (.int p1), .val (.int p2), .val (.int ((p1 &&& (2147483647 : Int32)) % (5 : Int32))), .val (.int ((p2 &&& (2147483647 : Int32)) % (3 : Int32))), .val (.ref (polF ((p1 &&& (2147483647 : Int32)) % (5 : Int32)) u0 u1 u2 u3 u4)), .val (.ref (routeF ((p2 &&& (2147483647 : Int32)) % (3 : Int32)) r0 r1 r2)), .val (.int (1 : Int32)), .unset, .unset]) rfl ?_
          show Steps p.tables e below (T2.setTop (mkF m 53 #[.val (.int p1), .val (.int p2), .val (.int ((p1 &&& (2147483647 : Int32)) % (5 : Int32))), .val (.int ((p2 &&& (2147483647 : Int32)) % (3 : Int32))), .val (.ref (polF ((p1 &&& (2147483647 : Int32)) % (5 : Int32)) u0 u1 u2 u3 u4)), .val (.ref (routeF ((p2 &&& (2147483647 : Int32)) % (3 : Int32)) r0 r1 r2)), .val (.int (1 : Int32)), .unset, .unset] [])) _
          refine XS.goto X2.here hx rfl (pc0 := 53) (pc' := 68) rfl (hb hby at_53) (by decide) (by decide) ?_
          have qv : (expF ((p1 &&& (2147483647 : Int32)) % (5 : Int32)) ((p2 &&& (2147483647 : Int32)) % (3 : Int32))) = (1 : Int32) := by simp [expF, hr27_5, hr38_6, hr43_7]
          rw [qv] at kt
          exact kt
      · refine XS.icmpYes X2.here hx rfl (pc0 := 38) (pc' := 56) rfl (hb hby at_38) rfl (XT.ii_ne_t hr38_6) (by decide) (by decide) ?_
        show Steps p.tables e below (T2.setTop (mkF m 56 #[.val (.int p1), .val (.int p2), .val (.int ((p1 &&& (2147483647 : Int32)) % (5 : Int32))), .val (.int ((p2 &&& (2147483647 : Int32)) % (3 : Int32))), .val (.ref (polF ((p1 &&& (2147483647 : Int32)) % (5 : Int32)) u0 u1 u2 u3 u4)), .val (.ref (routeF ((p2 &&& (2147483647 : Int32)) % (3 : Int32)) r0 r1 r2)), .unset, .unset, .unset] [])) _
        refine XS.iloadN X2.here hx rfl (hb hby at_56) rfl ?_
        show Steps p.tables e below (T2.setTop (mkF m 57 #[.val (.int p1), .val (.int p2), .val (.int ((p1 &&& (2147483647 : Int32)) % (5 : Int32))), .val (.int ((p2 &&& (2147483647 : Int32)) % (3 : Int32))), .val (.ref (polF ((p1 &&& (2147483647 : Int32)) % (5 : Int32)) u0 u1 u2 u3 u4)), .val (.ref (routeF ((p2 &&& (2147483647 : Int32)) % (3 : Int32)) r0 r1 r2)), .unset, .unset, .unset] [(.int ((p1 &&& (2147483647 : Int32)) % (5 : Int32)))])) _
        refine XS.iconst X2.here hx rfl (hb hby at_57) ?_
        show Steps p.tables e below (T2.setTop (mkF m 58 #[.val (.int p1), .val (.int p2), .val (.int ((p1 &&& (2147483647 : Int32)) % (5 : Int32))), .val (.int ((p2 &&& (2147483647 : Int32)) % (3 : Int32))), .val (.ref (polF ((p1 &&& (2147483647 : Int32)) % (5 : Int32)) u0 u1 u2 u3 u4)), .val (.ref (routeF ((p2 &&& (2147483647 : Int32)) % (3 : Int32)) r0 r1 r2)), .unset, .unset, .unset] [(.int (4 : Int32)), (.int ((p1 &&& (2147483647 : Int32)) % (5 : Int32)))])) _
        by_cases hr58_8 : ((p1 &&& (2147483647 : Int32)) % (5 : Int32)) = (4 : Int32)
        · refine XS.icmpNo X2.here hx rfl (hb hby at_58) rfl (XT.ii_ne_f hr58_8) ?_
          show Steps p.tables e below (T2.setTop (mkF m 61 #[.val (.int p1), .val (.int p2), .val (.int ((p1 &&& (2147483647 : Int32)) % (5 : Int32))), .val (.int ((p2 &&& (2147483647 : Int32)) % (3 : Int32))), .val (.ref (polF ((p1 &&& (2147483647 : Int32)) % (5 : Int32)) u0 u1 u2 u3 u4)), .val (.ref (routeF ((p2 &&& (2147483647 : Int32)) % (3 : Int32)) r0 r1 r2)), .unset, .unset, .unset] [])) _
          refine XS.iconst X2.here hx rfl (hb hby at_61) ?_
          show Steps p.tables e below (T2.setTop (mkF m 62 #[.val (.int p1), .val (.int p2), .val (.int ((p1 &&& (2147483647 : Int32)) % (5 : Int32))), .val (.int ((p2 &&& (2147483647 : Int32)) % (3 : Int32))), .val (.ref (polF ((p1 &&& (2147483647 : Int32)) % (5 : Int32)) u0 u1 u2 u3 u4)), .val (.ref (routeF ((p2 &&& (2147483647 : Int32)) % (3 : Int32)) r0 r1 r2)), .unset, .unset, .unset] [(.int (1 : Int32))])) _
          refine XS.goto X2.here hx rfl (pc0 := 62) (pc' := 66) rfl (hb hby at_62) (by decide) (by decide) ?_
          show Steps p.tables e below (T2.setTop (mkF m 66 #[.val (.int p1), .val (.int p2), .val (.int ((p1 &&& (2147483647 : Int32)) % (5 : Int32))), .val (.int ((p2 &&& (2147483647 : Int32)) % (3 : Int32))), .val (.ref (polF ((p1 &&& (2147483647 : Int32)) % (5 : Int32)) u0 u1 u2 u3 u4)), .val (.ref (routeF ((p2 &&& (2147483647 : Int32)) % (3 : Int32)) r0 r1 r2)), .unset, .unset, .unset] [(.int (1 : Int32))])) _
          refine XS.istore X2.here hx rfl (hb hby at_66) rfl (l' := #[.val (.int p1), .val (.int p2), .val (.int ((p1 &&& (2147483647 : Int32)) % (5 : Int32))), .val (.int ((p2 &&& (2147483647 : Int32)) % (3 : Int32))), .val (.ref (polF ((p1 &&& (2147483647 : Int32)) % (5 : Int32)) u0 u1 u2 u3 u4)), .val (.ref (routeF ((p2 &&& (2147483647 : Int32)) % (3 : Int32)) r0 r1 r2)), .val (.int (1 : Int32)), .unset, .unset]) rfl ?_
          have qv : (expF ((p1 &&& (2147483647 : Int32)) % (5 : Int32)) ((p2 &&& (2147483647 : Int32)) % (3 : Int32))) = (1 : Int32) := by simp [expF, hr27_5, hr38_6, hr58_8]
          rw [qv] at kt
          exact kt
        · refine XS.icmpYes X2.here hx rfl (pc0 := 58) (pc' := 65) rfl (hb hby at_58) rfl (XT.ii_ne_t hr58_8) (by decide) (by decide) ?_
          show Steps p.tables e below (T2.setTop (mkF m 65 #[.val (.int p1), .val (.int p2), .val (.int ((p1 &&& (2147483647 : Int32)) % (5 : Int32))), .val (.int ((p2 &&& (2147483647 : Int32)) % (3 : Int32))), .val (.ref (polF ((p1 &&& (2147483647 : Int32)) % (5 : Int32)) u0 u1 u2 u3 u4)), .val (.ref (routeF ((p2 &&& (2147483647 : Int32)) % (3 : Int32)) r0 r1 r2)), .unset, .unset, .unset] [])) _
          refine XS.iconst X2.here hx rfl (hb hby at_65) ?_
          show Steps p.tables e below (T2.setTop (mkF m 66 #[.val (.int p1), .val (.int p2), .val (.int ((p1 &&& (2147483647 : Int32)) % (5 : Int32))), .val (.int ((p2 &&& (2147483647 : Int32)) % (3 : Int32))), .val (.ref (polF ((p1 &&& (2147483647 : Int32)) % (5 : Int32)) u0 u1 u2 u3 u4)), .val (.ref (routeF ((p2 &&& (2147483647 : Int32)) % (3 : Int32)) r0 r1 r2)), .unset, .unset, .unset] [(.int (0 : Int32))])) _
          refine XS.istore X2.here hx rfl (hb hby at_66) rfl (l' := #[.val (.int p1), .val (.int p2), .val (.int ((p1 &&& (2147483647 : Int32)) % (5 : Int32))), .val (.int ((p2 &&& (2147483647 : Int32)) % (3 : Int32))), .val (.ref (polF ((p1 &&& (2147483647 : Int32)) % (5 : Int32)) u0 u1 u2 u3 u4)), .val (.ref (routeF ((p2 &&& (2147483647 : Int32)) % (3 : Int32)) r0 r1 r2)), .val (.int (0 : Int32)), .unset, .unset]) rfl ?_
          have qv : (expF ((p1 &&& (2147483647 : Int32)) % (5 : Int32)) ((p2 &&& (2147483647 : Int32)) % (3 : Int32))) = (0 : Int32) := by simp [expF, hr27_5, hr38_6, hr58_8]
          rw [qv] at kt
          exact kt
  obtain ⟨T9, X9, e9, st9⟩ := getS2 X2 hx hZ hown (host := "") (Or.inl (hw _ (List.mem_of_getElem? (i := 14) rfl))) Via.refl e2 S_CONNECTED (g := (mkF m 70 #[.val (.int p1), .val (.int p2), .val (.int ((p1 &&& (2147483647 : Int32)) % (5 : Int32))), .val (.int ((p2 &&& (2147483647 : Int32)) % (3 : Int32))), .val (.ref (polF ((p1 &&& (2147483647 : Int32)) % (5 : Int32)) u0 u1 u2 u3 u4)), .val (.ref (routeF ((p2 &&& (2147483647 : Int32)) % (3 : Int32)) r0 r1 r2)), .val (.int (expF ((p1 &&& (2147483647 : Int32)) % (5 : Int32)) ((p2 &&& (2147483647 : Int32)) % (3 : Int32)))), .unset, .unset] [(.ref (polF ((p1 &&& (2147483647 : Int32)) % (5 : Int32)) u0 u1 u2 u3 u4))])) rfl (hb hby at_70)
  obtain ⟨cq10, kq10, q10a, q10b, q10c⟩ := isOf hZ e9 Ep
  obtain ⟨_, _, ⟨T10, L10, k10, n10⟩, -, X10, ⟨Lc10, hQ10, l10, y10, z10⟩, st10⟩ := X9.virtualBack hx (y := (⟨"com/example/hawtip/hawtip/dispatch/Policy", "route", "(Lcom/example/hawtip/hawtip/dispatch/Event;)Lcom/example/hawtip/hawtip/dispatch/Policy$Route;"⟩ : MethodName)) (z := (⟨"com/example/hawtip/hawtip/dispatch/Policy", "route", "(Lcom/example/hawtip/hawtip/dispatch/Event;)Lcom/example/hawtip/hawtip/dispatch/Policy$Route;"⟩ : MethodName)) hown (mvT hZ (hw _ (List.mem_of_getElem? (i := 17) rfl))) (mvT hZ (hw _ (List.mem_of_getElem? (i := 18) rfl))) (notFace_of_selects (args := #[]) (mvT hZ (hw _ (List.mem_of_getElem? (i := 20) rfl)))) (mvT hZ (hw _ (List.mem_of_getElem? (i := 20) rfl))) (mvT hZ (hw _ (List.mem_of_getElem? (i := 19) rfl))) (by decide) (backOf (W := 0) (rm4 l Z a0 hw [] (polF ((p1 &&& (2147483647 : Int32)) % (5 : Int32)) u0 u1 u2 u3 u4) v0 ra t0 0 cl h0 n0 Z0 Fr_ Fo0 Ev0 Ar El0) hZ (hw _ (List.mem_of_getElem? (i := 21) rfl)) (hw _ (List.mem_of_getElem? (i := 6) rfl)) (by decide) (by decide)) q10a q10c (g := (mkF m 73 #[.val (.int p1), .val (.int p2), .val (.int ((p1 &&& (2147483647 : Int32)) % (5 : Int32))), .val (.int ((p2 &&& (2147483647 : Int32)) % (3 : Int32))), .val (.ref (polF ((p1 &&& (2147483647 : Int32)) % (5 : Int32)) u0 u1 u2 u3 u4)), .val (.ref (routeF ((p2 &&& (2147483647 : Int32)) % (3 : Int32)) r0 r1 r2)), .val (.int (expF ((p1 &&& (2147483647 : Int32)) % (5 : Int32)) ((p2 &&& (2147483647 : Int32)) % (3 : Int32)))), .unset, .unset] [(.ref v0), (.ref (polF ((p1 &&& (2147483647 : Int32)) % (5 : Int32)) u0 u1 u2 u3 u4))])) rfl (by rw [hml]; rfl) (Steps.refl _) (argsL := [(.ref v0)]) (rest := []) (lenOf pd0_2 rfl) rfl (by show 2 * 0 + _ ≤ _; exact Nat.le_of_eq rfl) (hb hby at_73) (fun _ _ => ⟨rfl, e9, (by decide : 0 + 0 ≤ _), (by decide : 0 + 0 ≤ _)⟩)
  dsimp only [Pt.U, Pt.locs, Pt.cells, Pt.slots] at X10 l10 y10 z10 st10 hQ10
  subst l10 y10 z10
  obtain ⟨rfl, N10q, e10⟩ := hQ10
  have N10 := Fr.app N2 N10q
  have pre11 : ∀ tg_, Steps p.tables e below (T10.setTop (mkF m 78 #[.val (.int p1), .val (.int p2), .val (.int ((p1 &&& (2147483647 : Int32)) % (5 : Int32))), .val (.int ((p2 &&& (2147483647 : Int32)) % (3 : Int32))), .val (.ref (polF ((p1 &&& (2147483647 : Int32)) % (5 : Int32)) u0 u1 u2 u3 u4)), .val (.ref (routeF ((p2 &&& (2147483647 : Int32)) % (3 : Int32)) r0 r1 r2)), .val (.int (expF ((p1 &&& (2147483647 : Int32)) % (5 : Int32)) ((p2 &&& (2147483647 : Int32)) % (3 : Int32)))), .unset, .unset] [(.ref (routeF ((p2 &&& (2147483647 : Int32)) % (3 : Int32)) r0 r1 r2)), (.ref t0)])) tg_ → Steps p.tables e below (s₁.setTop (entryFrame m #[(.int p1), (.int p2)] maxLocals)) tg_ := by
    intro tg_ kt
    refine pre4 _ ?_
    show Steps p.tables e below (T2.setTop (mkF m 68 #[.val (.int p1), .val (.int p2), .val (.int ((p1 &&& (2147483647 : Int32)) % (5 : Int32))), .val (.int ((p2 &&& (2147483647 : Int32)) % (3 : Int32))), .val (.ref (polF ((p1 &&& (2147483647 : Int32)) % (5 : Int32)) u0 u1 u2 u3 u4)), .val (.ref (routeF ((p2 &&& (2147483647 : Int32)) % (3 : Int32)) r0 r1 r2)), .val (.int (expF ((p1 &&& (2147483647 : Int32)) % (5 : Int32)) ((p2 &&& (2147483647 : Int32)) % (3 : Int32)))), .unset, .unset] [])) _
    refine XS.aload X2.here hx rfl (hb hby at_68) rfl rfl ?_
    show Steps p.tables e below (T2.setTop (mkF m 70 #[.val (.int p1), .val (.int p2), .val (.int ((p1 &&& (2147483647 : Int32)) % (5 : Int32))), .val (.int ((p2 &&& (2147483647 : Int32)) % (3 : Int32))), .val (.ref (polF ((p1 &&& (2147483647 : Int32)) % (5 : Int32)) u0 u1 u2 u3 u4)), .val (.ref (routeF ((p2 &&& (2147483647 : Int32)) % (3 : Int32)) r0 r1 r2)), .val (.int (expF ((p1 &&& (2147483647 : Int32)) % (5 : Int32)) ((p2 &&& (2147483647 : Int32)) % (3 : Int32)))), .unset, .unset] [(.ref (polF ((p1 &&& (2147483647 : Int32)) % (5 : Int32)) u0 u1 u2 u3 u4))])) _
    refine st9 _ ?_
    show Steps p.tables e below (T9.setTop (mkF m 73 #[.val (.int p1), .val (.int p2), .val (.int ((p1 &&& (2147483647 : Int32)) % (5 : Int32))), .val (.int ((p2 &&& (2147483647 : Int32)) % (3 : Int32))), .val (.ref (polF ((p1 &&& (2147483647 : Int32)) % (5 : Int32)) u0 u1 u2 u3 u4)), .val (.ref (routeF ((p2 &&& (2147483647 : Int32)) % (3 : Int32)) r0 r1 r2)), .val (.int (expF ((p1 &&& (2147483647 : Int32)) % (5 : Int32)) ((p2 &&& (2147483647 : Int32)) % (3 : Int32)))), .unset, .unset] [(.ref v0), (.ref (polF ((p1 &&& (2147483647 : Int32)) % (5 : Int32)) u0 u1 u2 u3 u4))])) _
    refine st10.trans ?_
    show Steps p.tables e below (T10.setTop (mkF m 76 #[.val (.int p1), .val (.int p2), .val (.int ((p1 &&& (2147483647 : Int32)) % (5 : Int32))), .val (.int ((p2 &&& (2147483647 : Int32)) % (3 : Int32))), .val (.ref (polF ((p1 &&& (2147483647 : Int32)) % (5 : Int32)) u0 u1 u2 u3 u4)), .val (.ref (routeF ((p2 &&& (2147483647 : Int32)) % (3 : Int32)) r0 r1 r2)), .val (.int (expF ((p1 &&& (2147483647 : Int32)) % (5 : Int32)) ((p2 &&& (2147483647 : Int32)) % (3 : Int32)))), .unset, .unset] [(.ref t0)])) _
    refine XS.aload X10.here hx rfl (hb hby at_76) rfl rfl ?_
    exact kt
  by_cases hc78_12 : t0 = (routeF ((p2 &&& (2147483647 : Int32)) % (3 : Int32)) r0 r1 r2)
  · obtain ⟨cq13, kq13, q13a, q13b, q13c⟩ := isOf hZ e10 Ep
    obtain ⟨_, _, ⟨T13, L13, k13, n13⟩, -, X13, ⟨Lc13, hQ13, l13, y13, z13⟩, st13⟩ := X10.virtualBack hx (y := (⟨"com/example/hawtip/hawtip/dispatch/Policy", "uses", "(Lcom/example/hawtip/hawtip/dispatch/Policy$Route;)Z"⟩ : MethodName)) (z := (⟨"com/example/hawtip/hawtip/dispatch/Policy", "uses", "(Lcom/example/hawtip/hawtip/dispatch/Policy$Route;)Z"⟩ : MethodName)) hown (mvT hZ (hw _ (List.mem_of_getElem? (i := 38) rfl))) (mvT hZ (hw _ (List.mem_of_getElem? (i := 39) rfl))) (notFace_of_selects (args := #[]) (mvT hZ (hw _ (List.mem_of_getElem? (i := 41) rfl)))) (mvT hZ (hw _ (List.mem_of_getElem? (i := 41) rfl))) (mvT hZ (hw _ (List.mem_of_getElem? (i := 40) rfl))) (by decide) (backOf (W := 0) (rm5 l Z a0 hw [] (polF ((p1 &&& (2147483647 : Int32)) % (5 : Int32)) u0 u1 u2 u3 u4) (routeF ((p2 &&& (2147483647 : Int32)) % (3 : Int32)) r0 r1 r2) ra t0 t1 t2 t3 t4 t5 cl h0 n0 Z0 Fr_ Ar hlen El0 El1 El2 El3 El4 El5) hZ (hw _ (List.mem_of_getElem? (i := 42) rfl)) (hw _ (List.mem_of_getElem? (i := 6) rfl)) (by decide) (by decide)) q13a q13c (g := (mkF m 157 #[.val (.int p1), .val (.int p2), .val (.int ((p1 &&& (2147483647 : Int32)) % (5 : Int32))), .val (.int ((p2 &&& (2147483647 : Int32)) % (3 : Int32))), .val (.ref (polF ((p1 &&& (2147483647 : Int32)) % (5 : Int32)) u0 u1 u2 u3 u4)), .val (.ref (routeF ((p2 &&& (2147483647 : Int32)) % (3 : Int32)) r0 r1 r2)), .val (.int (expF ((p1 &&& (2147483647 : Int32)) % (5 : Int32)) ((p2 &&& (2147483647 : Int32)) % (3 : Int32)))), .val (.int (1 : Int32)), .unset] [(.ref (routeF ((p2 &&& (2147483647 : Int32)) % (3 : Int32)) r0 r1 r2)), (.ref (polF ((p1 &&& (2147483647 : Int32)) % (5 : Int32)) u0 u1 u2 u3 u4))])) rfl (by rw [hml]; rfl) (Steps.refl _) (argsL := [(.ref (routeF ((p2 &&& (2147483647 : Int32)) % (3 : Int32)) r0 r1 r2))]) (rest := []) (lenOf pd0_3 rfl) rfl (by show 2 * 0 + _ ≤ _; exact Nat.le_of_eq rfl) (hb hby at_157) (fun _ _ => ⟨rfl, e10, (by decide : 0 + 0 ≤ _), (by decide : 0 + 0 ≤ _)⟩)
    dsimp only [Pt.U, Pt.locs, Pt.cells, Pt.slots] at X13 l13 y13 z13 st13 hQ13
    subst l13 y13 z13
    obtain ⟨rfl, N13q, e13⟩ := hQ13
    have N13 := Fr.app N10 N13q
    have pre14 : ∀ tg_, Steps p.tables e below (T13.setTop (mkF m 181 #[.val (.int p1), .val (.int p2), .val (.int ((p1 &&& (2147483647 : Int32)) % (5 : Int32))), .val (.int ((p2 &&& (2147483647 : Int32)) % (3 : Int32))), .val (.ref (polF ((p1 &&& (2147483647 : Int32)) % (5 : Int32)) u0 u1 u2 u3 u4)), .val (.ref (routeF ((p2 &&& (2147483647 : Int32)) % (3 : Int32)) r0 r1 r2)), .val (.int (expF ((p1 &&& (2147483647 : Int32)) % (5 : Int32)) ((p2 &&& (2147483647 : Int32)) % (3 : Int32)))), .val (.int (1 : Int32)), .val (.int (usesF t0 t1 t2 t3 t4 t5 (routeF ((p2 &&& (2147483647 : Int32)) % (3 : Int32)) r0 r1 r2)))] [(.int (1 : Int32))])) tg_ → Steps p.tables e below (s₁.setTop (entryFrame m #[(.int p1), (.int p2)] maxLocals)) tg_ := by
      intro tg_ kt
      refine pre11 _ ?_
      show Steps p.tables e below (T10.setTop (mkF m 78 #[.val (.int p1), .val (.int p2), .val (.int ((p1 &&& (2147483647 : Int32)) % (5 : Int32))), .val (.int ((p2 &&& (2147483647 : Int32)) % (3 : Int32))), .val (.ref (polF ((p1 &&& (2147483647 : Int32)) % (5 : Int32)) u0 u1 u2 u3 u4)), .val (.ref (routeF ((p2 &&& (2147483647 : Int32)) % (3 : Int32)) r0 r1 r2)), .val (.int (expF ((p1 &&& (2147483647 : Int32)) % (5 : Int32)) ((p2 &&& (2147483647 : Int32)) % (3 : Int32)))), .unset, .unset] [(.ref (routeF ((p2 &&& (2147483647 : Int32)) % (3 : Int32)) r0 r1 r2)), (.ref t0)])) _
      refine XT.acmpYes X10.here hx rfl (pc0 := 78) (pc' := 146) rfl (hb hby at_78) rfl rfl rfl (XT.aa_eq_t (congrArg Value.ref hc78_12)) (by decide) (by decide) ?_
      show Steps p.tables e below (T10.setTop (mkF m 146 #[.val (.int p1), .val (.int p2), .val (.int ((p1 &&& (2147483647 : Int32)) % (5 : Int32))), .val (.int ((p2 &&& (2147483647 : Int32)) % (3 : Int32))), .val (.ref (polF ((p1 &&& (2147483647 : Int32)) % (5 : Int32)) u0 u1 u2 u3 u4)), .val (.ref (routeF ((p2 &&& (2147483647 : Int32)) % (3 : Int32)) r0 r1 r2)), .val (.int (expF ((p1 &&& (2147483647 : Int32)) % (5 : Int32)) ((p2 &&& (2147483647 : Int32)) % (3 : Int32)))), .unset, .unset] [])) _
      refine XS.iconst X10.here hx rfl (hb hby at_146) ?_
      show Steps p.tables e below (T10.setTop (mkF m 147 #[.val (.int p1), .val (.int p2), .val (.int ((p1 &&& (2147483647 : Int32)) % (5 : Int32))), .val (.int ((p2 &&& (2147483647 : Int32)) % (3 : Int32))), .val (.ref (polF ((p1 &&& (2147483647 : Int32)) % (5 : Int32)) u0 u1 u2 u3 u4)), .val (.ref (routeF ((p2 &&& (2147483647 : Int32)) % (3 : Int32)) r0 r1 r2)), .val (.int (expF ((p1 &&& (2147483647 : Int32)) % (5 : Int32)) ((p2 &&& (2147483647 : Int32)) % (3 : Int32)))), .unset, .unset] [(.int (1 : Int32))])) _
      refine XS.goto X10.here hx rfl (pc0 := 147) (pc' := 151) rfl (hb hby at_147) (by decide) (by decide) ?_
      show Steps p.tables e below (T10.setTop (mkF m 151 #[.val (.int p1), .val (.int p2), .val (.int ((p1 &&& (2147483647 : Int32)) % (5 : Int32))), .val (.int ((p2 &&& (2147483647 : Int32)) % (3 : Int32))), .val (.ref (polF ((p1 &&& (2147483647 : Int32)) % (5 : Int32)) u0 u1 u2 u3 u4)), .val (.ref (routeF ((p2 &&& (2147483647 : Int32)) % (3 : Int32)) r0 r1 r2)), .val (.int (expF ((p1 &&& (2147483647 : Int32)) % (5 : Int32)) ((p2 &&& (2147483647 : Int32)) % (3 : Int32)))), .unset, .unset] [(.int (1 : Int32))])) _
      refine XS.istore X10.here hx rfl (hb hby at_151) rfl (l' := #[.val (.int p1), .val (.int p2), .val (.int ((p1 &&& (2147483647 : Int32)) % (5 : Int32))), .val (.int ((p2 &&& (2147483647 : Int32)) % (3 : Int32))), .val (.ref (polF ((p1 &&& (2147483647 : Int32)) % (5 : Int32)) u0 u1 u2 u3 u4)), .val (.ref (routeF ((p2 &&& (2147483647 : Int32)) % (3 : Int32)) r0 r1 r2)), .val (.int (expF ((p1 &&& (2147483647 : Int32)) % (5 : Int32)) ((p2 &&& (2147483647 : Int32)) % (3 : Int32)))), .val (.int (1 : Int32)), .unset]) rfl ?_
      show Steps p.tables e below (T10.setTop (mkF m 153 #[.val (.int p1), .val (.int p2), .val (.int ((p1 &&& (2147483647 : Int32)) % (5 : Int32))), .val (.int ((p2 &&& (2147483647 : Int32)) % (3 : Int32))), .val (.ref (polF ((p1 &&& (2147483647 : Int32)) % (5 : Int32)) u0 u1 u2 u3 u4)), .val (.ref (routeF ((p2 &&& (2147483647 : Int32)) % (3 : Int32)) r0 r1 r2)), .val (.int (expF ((p1 &&& (2147483647 : Int32)) % (5 : Int32)) ((p2 &&& (2147483647 : Int32)) % (3 : Int32)))), .val (.int (1 : Int32)), .unset] [])) _
      refine XS.aload X10.here hx rfl (hb hby at_153) rfl rfl ?_
      show Steps p.tables e below (T10.setTop (mkF m 155 #[.val (.int p1), .val (.int p2), .val (.int ((p1 &&& (2147483647 : Int32)) % (5 : Int32))), .val (.int ((p2 &&& (2147483647 : Int32)) % (3 : Int32))), .val (.ref (polF ((p1 &&& (2147483647 : Int32)) % (5 : Int32)) u0 u1 u2 u3 u4)), .val (.ref (routeF ((p2 &&& (2147483647 : Int32)) % (3 : Int32)) r0 r1 r2)), .val (.int (expF ((p1 &&& (2147483647 : Int32)) % (5 : Int32)) ((p2 &&& (2147483647 : Int32)) % (3 : Int32)))), .val (.int (1 : Int32)), .unset] [(.ref (polF ((p1 &&& (2147483647 : Int32)) % (5 : Int32)) u0 u1 u2 u3 u4))])) _
      refine XS.aload X10.here hx rfl (hb hby at_155) rfl rfl ?_
      show Steps p.tables e below (T10.setTop (mkF m 157 #[.val (.int p1), .val (.int p2), .val (.int ((p1 &&& (2147483647 : Int32)) % (5 : Int32))), .val (.int ((p2 &&& (2147483647 : Int32)) % (3 : Int32))), .val (.ref (polF ((p1 &&& (2147483647 : Int32)) % (5 : Int32)) u0 u1 u2 u3 u4)), .val (.ref (routeF ((p2 &&& (2147483647 : Int32)) % (3 : Int32)) r0 r1 r2)), .val (.int (expF ((p1 &&& (2147483647 : Int32)) % (5 : Int32)) ((p2 &&& (2147483647 : Int32)) % (3 : Int32)))), .val (.int (1 : Int32)), .unset] [(.ref (routeF ((p2 &&& (2147483647 : Int32)) % (3 : Int32)) r0 r1 r2)), (.ref (polF ((p1 &&& (2147483647 : Int32)) % (5 : Int32)) u0 u1 u2 u3 u4))])) _
      refine st13.trans ?_
      show Steps p.tables e below (T13.setTop (mkF m 160 #[.val (.int p1), .val (.int p2), .val (.int ((p1 &&& (2147483647 : Int32)) % (5 : Int32))), .val (.int ((p2 &&& (2147483647 : Int32)) % (3 : Int32))), .val (.ref (polF ((p1 &&& (2147483647 : Int32)) % (5 : Int32)) u0 u1 u2 u3 u4)), .val (.ref (routeF ((p2 &&& (2147483647 : Int32)) % (3 : Int32)) r0 r1 r2)), .val (.int (expF ((p1 &&& (2147483647 : Int32)) % (5 : Int32)) ((p2 &&& (2147483647 : Int32)) % (3 : Int32)))), .val (.int (1 : Int32)), .unset] [(.int (usesF t0 t1 t2 t3 t4 t5 (routeF ((p2 &&& (2147483647 : Int32)) % (3 : Int32)) r0 r1 r2)))])) _
      refine XS.istore X13.here hx rfl (hb hby at_160) rfl (l' := #[.val (.int p1), .val (.int p2), .val (.int ((p1 &&& (2147483647 : Int32)) % (5 : Int32))), .val (.int ((p2 &&& (2147483647 : Int32)) % (3 : Int32))), .val (.ref (polF ((p1 &&& (2147483647 : Int32)) % (5 : Int32)) u0 u1 u2 u3 u4)), .val (.ref (routeF ((p2 &&& (2147483647 : Int32)) % (3 : Int32)) r0 r1 r2)), .val (.int (expF ((p1 &&& (2147483647 : Int32)) % (5 : Int32)) ((p2 &&& (2147483647 : Int32)) % (3 : Int32)))), .val (.int (1 : Int32)), .val (.int (usesF t0 t1 t2 t3 t4 t5 (routeF ((p2 &&& (2147483647 : Int32)) % (3 : Int32)) r0 r1 r2)))]) rfl ?_
      show Steps p.tables e below (T13.setTop (mkF m 162 #[.val (.int p1), .val (.int p2), .val (.int ((p1 &&& (2147483647 : Int32)) % (5 : Int32))), .val (.int ((p2 &&& (2147483647 : Int32)) % (3 : Int32))), .val (.ref (polF ((p1 &&& (2147483647 : Int32)) % (5 : Int32)) u0 u1 u2 u3 u4)), .val (.ref (routeF ((p2 &&& (2147483647 : Int32)) % (3 : Int32)) r0 r1 r2)), .val (.int (expF ((p1 &&& (2147483647 : Int32)) % (5 : Int32)) ((p2 &&& (2147483647 : Int32)) % (3 : Int32)))), .val (.int (1 : Int32)), .val (.int (usesF t0 t1 t2 t3 t4 t5 (routeF ((p2 &&& (2147483647 : Int32)) % (3 : Int32)) r0 r1 r2)))] [])) _
      refine XS.iload X13.here hx rfl (hb hby at_162) rfl ?_
      show Steps p.tables e below (T13.setTop (mkF m 164 #[.val (.int p1), .val (.int p2), .val (.int ((p1 &&& (2147483647 : Int32)) % (5 : Int32))), .val (.int ((p2 &&& (2147483647 : Int32)) % (3 : Int32))), .val (.ref (polF ((p1 &&& (2147483647 : Int32)) % (5 : Int32)) u0 u1 u2 u3 u4)), .val (.ref (routeF ((p2 &&& (2147483647 : Int32)) % (3 : Int32)) r0 r1 r2)), .val (.int (expF ((p1 &&& (2147483647 : Int32)) % (5 : Int32)) ((p2 &&& (2147483647 : Int32)) % (3 : Int32)))), .val (.int (1 : Int32)), .val (.int (usesF t0 t1 t2 t3 t4 t5 (routeF ((p2 &&& (2147483647 : Int32)) % (3 : Int32)) r0 r1 r2)))] [(.int (usesF t0 t1 t2 t3 t4 t5 (routeF ((p2 &&& (2147483647 : Int32)) % (3 : Int32)) r0 r1 r2)))])) _
      refine XS.iload X13.here hx rfl (hb hby at_164) rfl ?_
      show Steps p.tables e below (T13.setTop (mkF m 166 #[.val (.int p1), .val (.int p2), .val (.int ((p1 &&& (2147483647 : Int32)) % (5 : Int32))), .val (.int ((p2 &&& (2147483647 : Int32)) % (3 : Int32))), .val (.ref (polF ((p1 &&& (2147483647 : Int32)) % (5 : Int32)) u0 u1 u2 u3 u4)), .val (.ref (routeF ((p2 &&& (2147483647 : Int32)) % (3 : Int32)) r0 r1 r2)), .val (.int (expF ((p1 &&& (2147483647 : Int32)) % (5 : Int32)) ((p2 &&& (2147483647 : Int32)) % (3 : Int32)))), .val (.int (1 : Int32)), .val (.int (usesF t0 t1 t2 t3 t4 t5 (routeF ((p2 &&& (2147483647 : Int32)) % (3 : Int32)) r0 r1 r2)))] [(.int (expF ((p1 &&& (2147483647 : Int32)) % (5 : Int32)) ((p2 &&& (2147483647 : Int32)) % (3 : Int32)))), (.int (usesF t0 t1 t2 t3 t4 t5 (routeF ((p2 &&& (2147483647 : Int32)) % (3 : Int32)) r0 r1 r2)))])) _
      refine XS.icmpNo X13.here hx rfl (hb hby at_166) rfl (XT.ii_ne_f hEq) ?_
      show Steps p.tables e below (T13.setTop (mkF m 169 #[.val (.int p1), .val (.int p2), .val (.int ((p1 &&& (2147483647 : Int32)) % (5 : Int32))), .val (.int ((p2 &&& (2147483647 : Int32)) % (3 : Int32))), .val (.ref (polF ((p1 &&& (2147483647 : Int32)) % (5 : Int32)) u0 u1 u2 u3 u4)), .val (.ref (routeF ((p2 &&& (2147483647 : Int32)) % (3 : Int32)) r0 r1 r2)), .val (.int (expF ((p1 &&& (2147483647 : Int32)) % (5 : Int32)) ((p2 &&& (2147483647 : Int32)) % (3 : Int32)))), .val (.int (1 : Int32)), .val (.int (usesF t0 t1 t2 t3 t4 t5 (routeF ((p2 &&& (2147483647 : Int32)) % (3 : Int32)) r0 r1 r2)))] [])) _
      refine XS.iload X13.here hx rfl (hb hby at_169) rfl ?_
      show Steps p.tables e below (T13.setTop (mkF m 171 #[.val (.int p1), .val (.int p2), .val (.int ((p1 &&& (2147483647 : Int32)) % (5 : Int32))), .val (.int ((p2 &&& (2147483647 : Int32)) % (3 : Int32))), .val (.ref (polF ((p1 &&& (2147483647 : Int32)) % (5 : Int32)) u0 u1 u2 u3 u4)), .val (.ref (routeF ((p2 &&& (2147483647 : Int32)) % (3 : Int32)) r0 r1 r2)), .val (.int (expF ((p1 &&& (2147483647 : Int32)) % (5 : Int32)) ((p2 &&& (2147483647 : Int32)) % (3 : Int32)))), .val (.int (1 : Int32)), .val (.int (usesF t0 t1 t2 t3 t4 t5 (routeF ((p2 &&& (2147483647 : Int32)) % (3 : Int32)) r0 r1 r2)))] [(.int (usesF t0 t1 t2 t3 t4 t5 (routeF ((p2 &&& (2147483647 : Int32)) % (3 : Int32)) r0 r1 r2)))])) _
      refine XS.iload X13.here hx rfl (hb hby at_171) rfl ?_
      show Steps p.tables e below (T13.setTop (mkF m 173 #[.val (.int p1), .val (.int p2), .val (.int ((p1 &&& (2147483647 : Int32)) % (5 : Int32))), .val (.int ((p2 &&& (2147483647 : Int32)) % (3 : Int32))), .val (.ref (polF ((p1 &&& (2147483647 : Int32)) % (5 : Int32)) u0 u1 u2 u3 u4)), .val (.ref (routeF ((p2 &&& (2147483647 : Int32)) % (3 : Int32)) r0 r1 r2)), .val (.int (expF ((p1 &&& (2147483647 : Int32)) % (5 : Int32)) ((p2 &&& (2147483647 : Int32)) % (3 : Int32)))), .val (.int (1 : Int32)), .val (.int (usesF t0 t1 t2 t3 t4 t5 (routeF ((p2 &&& (2147483647 : Int32)) % (3 : Int32)) r0 r1 r2)))] [(.int (1 : Int32)), (.int (usesF t0 t1 t2 t3 t4 t5 (routeF ((p2 &&& (2147483647 : Int32)) % (3 : Int32)) r0 r1 r2)))])) _
      refine XS.icmpNo X13.here hx rfl (hb hby at_173) rfl (XT.ii_ne_f (by simp [usesF, hc78_12])) ?_
      show Steps p.tables e below (T13.setTop (mkF m 176 #[.val (.int p1), .val (.int p2), .val (.int ((p1 &&& (2147483647 : Int32)) % (5 : Int32))), .val (.int ((p2 &&& (2147483647 : Int32)) % (3 : Int32))), .val (.ref (polF ((p1 &&& (2147483647 : Int32)) % (5 : Int32)) u0 u1 u2 u3 u4)), .val (.ref (routeF ((p2 &&& (2147483647 : Int32)) % (3 : Int32)) r0 r1 r2)), .val (.int (expF ((p1 &&& (2147483647 : Int32)) % (5 : Int32)) ((p2 &&& (2147483647 : Int32)) % (3 : Int32)))), .val (.int (1 : Int32)), .val (.int (usesF t0 t1 t2 t3 t4 t5 (routeF ((p2 &&& (2147483647 : Int32)) % (3 : Int32)) r0 r1 r2)))] [])) _
      refine XS.iconst X13.here hx rfl (hb hby at_176) ?_
      show Steps p.tables e below (T13.setTop (mkF m 177 #[.val (.int p1), .val (.int p2), .val (.int ((p1 &&& (2147483647 : Int32)) % (5 : Int32))), .val (.int ((p2 &&& (2147483647 : Int32)) % (3 : Int32))), .val (.ref (polF ((p1 &&& (2147483647 : Int32)) % (5 : Int32)) u0 u1 u2 u3 u4)), .val (.ref (routeF ((p2 &&& (2147483647 : Int32)) % (3 : Int32)) r0 r1 r2)), .val (.int (expF ((p1 &&& (2147483647 : Int32)) % (5 : Int32)) ((p2 &&& (2147483647 : Int32)) % (3 : Int32)))), .val (.int (1 : Int32)), .val (.int (usesF t0 t1 t2 t3 t4 t5 (routeF ((p2 &&& (2147483647 : Int32)) % (3 : Int32)) r0 r1 r2)))] [(.int (1 : Int32))])) _
      refine XS.goto X13.here hx rfl (pc0 := 177) (pc' := 181) rfl (hb hby at_177) (by decide) (by decide) ?_
      exact kt
    obtain ⟨fs, hr, hrun, hended, hW, hsame⟩ := X13.leave (v := some (.int (1 : Int32))) (fun h => by rw [Bd.returns] at h; cases h)
    refine ⟨_, _, pre14 _ ?_, hrun, hended, _, _, rfl, ?_, ⟨_, rfl⟩, hW, hsame.mono (by decide) (by decide)⟩
    · show Steps p.tables e below (T13.setTop (mkF m 181 #[.val (.int p1), .val (.int p2), .val (.int ((p1 &&& (2147483647 : Int32)) % (5 : Int32))), .val (.int ((p2 &&& (2147483647 : Int32)) % (3 : Int32))), .val (.ref (polF ((p1 &&& (2147483647 : Int32)) % (5 : Int32)) u0 u1 u2 u3 u4)), .val (.ref (routeF ((p2 &&& (2147483647 : Int32)) % (3 : Int32)) r0 r1 r2)), .val (.int (expF ((p1 &&& (2147483647 : Int32)) % (5 : Int32)) ((p2 &&& (2147483647 : Int32)) % (3 : Int32)))), .val (.int (1 : Int32)), .val (.int (usesF t0 t1 t2 t3 t4 t5 (routeF ((p2 &&& (2147483647 : Int32)) % (3 : Int32)) r0 r1 r2)))] [(.int (1 : Int32))])) _
      exact retN X13 hx (t := .boolean) Bd.returns (by simp) (hb hby at_181) hr
    · show Q1 Z (.int 1) h0 n0 _ T13.heap _
      rw [e13]
      exact ⟨rfl, N13, rfl⟩
  · obtain ⟨T15, X15, e15, st15⟩ := getS2 X10 hx hZ hown (host := "") (Or.inl (hw _ (List.mem_of_getElem? (i := 34) rfl))) Via.refl e10 S_DISCONNECTED (g := (mkF m 83 #[.val (.int p1), .val (.int p2), .val (.int ((p1 &&& (2147483647 : Int32)) % (5 : Int32))), .val (.int ((p2 &&& (2147483647 : Int32)) % (3 : Int32))), .val (.ref (polF ((p1 &&& (2147483647 : Int32)) % (5 : Int32)) u0 u1 u2 u3 u4)), .val (.ref (routeF ((p2 &&& (2147483647 : Int32)) % (3 : Int32)) r0 r1 r2)), .val (.int (expF ((p1 &&& (2147483647 : Int32)) % (5 : Int32)) ((p2 &&& (2147483647 : Int32)) % (3 : Int32)))), .unset, .unset] [(.ref (polF ((p1 &&& (2147483647 : Int32)) % (5 : Int32)) u0 u1 u2 u3 u4))])) rfl (hb hby at_83)
    obtain ⟨cq16, kq16, q16a, q16b, q16c⟩ := isOf hZ e15 Ep
    obtain ⟨_, _, ⟨T16, L16, k16, n16⟩, -, X16, ⟨Lc16, hQ16, l16, y16, z16⟩, st16⟩ := X15.virtualBack hx (y := (⟨"com/example/hawtip/hawtip/dispatch/Policy", "route", "(Lcom/example/hawtip/hawtip/dispatch/Event;)Lcom/example/hawtip/hawtip/dispatch/Policy$Route;"⟩ : MethodName)) (z := (⟨"com/example/hawtip/hawtip/dispatch/Policy", "route", "(Lcom/example/hawtip/hawtip/dispatch/Event;)Lcom/example/hawtip/hawtip/dispatch/Policy$Route;"⟩ : MethodName)) hown (mvT hZ (hw _ (List.mem_of_getElem? (i := 17) rfl))) (mvT hZ (hw _ (List.mem_of_getElem? (i := 18) rfl))) (notFace_of_selects (args := #[]) (mvT hZ (hw _ (List.mem_of_getElem? (i := 20) rfl)))) (mvT hZ (hw _ (List.mem_of_getElem? (i := 20) rfl))) (mvT hZ (hw _ (List.mem_of_getElem? (i := 19) rfl))) (by decide) (backOf (W := 0) (rm4 l Z a0 hw [] (polF ((p1 &&& (2147483647 : Int32)) % (5 : Int32)) u0 u1 u2 u3 u4) v1 ra t1 1 cl h0 n0 Z0 Fr_ Fo1 Ev1 Ar El1) hZ (hw _ (List.mem_of_getElem? (i := 21) rfl)) (hw _ (List.mem_of_getElem? (i := 6) rfl)) (by decide) (by decide)) q16a q16c (g := (mkF m 86 #[.val (.int p1), .val (.int p2), .val (.int ((p1 &&& (2147483647 : Int32)) % (5 : Int32))), .val (.int ((p2 &&& (2147483647 : Int32)) % (3 : Int32))), .val (.ref (polF ((p1 &&& (2147483647 : Int32)) % (5 : Int32)) u0 u1 u2 u3 u4)), .val (.ref (routeF ((p2 &&& (2147483647 : Int32)) % (3 : Int32)) r0 r1 r2)), .val (.int (expF ((p1 &&& (2147483647 : Int32)) % (5 : Int32)) ((p2 &&& (2147483647 : Int32)) % (3 : Int32)))), .unset, .unset] [(.ref v1), (.ref (polF ((p1 &&& (2147483647 : Int32)) % (5 : Int32)) u0 u1 u2 u3 u4))])) rfl (by rw [hml]; rfl) (Steps.refl _) (argsL := [(.ref v1)]) (rest := []) (lenOf pd0_2 rfl) rfl (by show 2 * 0 + _ ≤ _; exact Nat.le_of_eq rfl) (hb hby at_86) (fun _ _ => ⟨rfl, e15, (by decide : 0 + 0 ≤ _), (by decide : 0 + 0 ≤ _)⟩)
    dsimp only [Pt.U, Pt.locs, Pt.cells, Pt.slots] at X16 l16 y16 z16 st16 hQ16
    subst l16 y16 z16
    obtain ⟨rfl, N16q, e16⟩ := hQ16
    have N16 := Fr.app N10 N16q
    have pre17 : ∀ tg_, Steps p.tables e below (T16.setTop (mkF m 91 #[.val (.int p1), .val (.int p2), .val (.int ((p1 &&& (2147483647 : Int32)) % (5 : Int32))), .val (.int ((p2 &&& (2147483647 : Int32)) % (3 : Int32))), .val (.ref (polF ((p1 &&& (2147483647 : Int32)) % (5 : Int32)) u0 u1 u2 u3 u4)), .val (.ref (routeF ((p2 &&& (2147483647 : Int32)) % (3 : Int32)) r0 r1 r2)), .val (.int (expF ((p1 &&& (2147483647 : Int32)) % (5 : Int32)) ((p2 &&& (2147483647 : Int32)) % (3 : Int32)))), .unset, .unset] [(.ref (routeF ((p2 &&& (2147483647 : Int32)) % (3 : Int32)) r0 r1 r2)), (.ref t1)])) tg_ → Steps p.tables e below (s₁.setTop (entryFrame m #[(.int p1), (.int p2)] maxLocals)) tg_ := by
      intro tg_ kt
      refine pre11 _ ?_
      show Steps p.tables e below (T10.setTop (mkF m 78 #[.val (.int p1), .val (.int p2), .val (.int ((p1 &&& (2147483647 : Int32)) % (5 : Int32))), .val (.int ((p2 &&& (2147483647 : Int32)) % (3 : Int32))), .val (.ref (polF ((p1 &&& (2147483647 : Int32)) % (5 : Int32)) u0 u1 u2 u3 u4)), .val (.ref (routeF ((p2 &&& (2147483647 : Int32)) % (3 : Int32)) r0 r1 r2)), .val (.int (expF ((p1 &&& (2147483647 : Int32)) % (5 : Int32)) ((p2 &&& (2147483647 : Int32)) % (3 : Int32)))), .unset, .unset] [(.ref (routeF ((p2 &&& (2147483647 : Int32)) % (3 : Int32)) r0 r1 r2)), (.ref t0)])) _
      refine XT.acmpNo X10.here hx rfl (hb hby at_78) rfl rfl rfl (XT.aa_eq_f (fun q => hc78_12 (Value.ref.inj q))) ?_
      show Steps p.tables e below (T10.setTop (mkF m 81 #[.val (.int p1), .val (.int p2), .val (.int ((p1 &&& (2147483647 : Int32)) % (5 : Int32))), .val (.int ((p2 &&& (2147483647 : Int32)) % (3 : Int32))), .val (.ref (polF ((p1 &&& (2147483647 : Int32)) % (5 : Int32)) u0 u1 u2 u3 u4)), .val (.ref (routeF ((p2 &&& (2147483647 : Int32)) % (3 : Int32)) r0 r1 r2)), .val (.int (expF ((p1 &&& (2147483647 : Int32)) % (5 : Int32)) ((p2 &&& (2147483647 : Int32)) % (3 : Int32)))), .unset, .unset] [])) _
      refine XS.aload X10.here hx rfl (hb hby at_81) rfl rfl ?_
      show Steps p.tables e below (T10.setTop (mkF m 83 #[.val (.int p1), .val (.int p2), .val (.int ((p1 &&& (2147483647 : Int32)) % (5 : Int32))), .val (.int ((p2 &&& (2147483647 : Int32)) % (3 : Int32))), .val (.ref (polF ((p1 &&& (2147483647 : Int32)) % (5 : Int32)) u0 u1 u2 u3 u4)), .val (.ref (routeF ((p2 &&& (2147483647 : Int32)) % (3 : Int32)) r0 r1 r2)), .val (.int (expF ((p1 &&& (2147483647 : Int32)) % (5 : Int32)) ((p2 &&& (2147483647 : Int32)) % (3 : Int32)))), .unset, .unset] [(.ref (polF ((p1 &&& (2147483647 : Int32)) % (5 : Int32)) u0 u1 u2 u3 u4))])) _
      refine st15 _ ?_
      show Steps p.tables e below (T15.setTop (mkF m 86 #[.val (.int p1), .val (.int p2), .val (.int ((p1 &&& (2147483647 : Int32)) % (5 : Int32))), .val (.int ((p2 &&& (2147483647 : Int32)) % (3 : Int32))), .val (.ref (polF ((p1 &&& (2147483647 : Int32)) % (5 : Int32)) u0 u1 u2 u3 u4)), .val (.ref (routeF ((p2 &&& (2147483647 : Int32)) % (3 : Int32)) r0 r1 r2)), .val (.int (expF ((p1 &&& (2147483647 : Int32)) % (5 : Int32)) ((p2 &&& (2147483647 : Int32)) % (3 : Int32)))), .unset, .unset] [(.ref v1), (.ref (polF ((p1 &&& (2147483647 : Int32)) % (5 : Int32)) u0 u1 u2 u3 u4))])) _
      refine st16.trans ?_
      show Steps p.tables e below (T16.setTop (mkF m 89 #[.val (.int p1), .val (.int p2), .val (.int ((p1 &&& (2147483647 : Int32)) % (5 : Int32))), .val (.int ((p2 &&& (2147483647 : Int32)) % (3 : Int32))), .val (.ref (polF ((p1 &&& (2147483647 : Int32)) % (5 : Int32)) u0 u1 u2 u3 u4)), .val (.ref (routeF ((p2 &&& (2147483647 : Int32)) % (3 : Int32)) r0 r1 r2)), .val (.int (expF ((p1 &&& (2147483647 : Int32)) % (5 : Int32)) ((p2 &&& (2147483647 : Int32)) % (3 : Int32)))), .unset, .unset] [(.ref t1)])) _
      refine XS.aload X16.here hx rfl (hb hby at_89) rfl rfl ?_
      exact kt
    by_cases hc91_18 : t1 = (routeF ((p2 &&& (2147483647 : Int32)) % (3 : Int32)) r0 r1 r2)
    · obtain ⟨cq19, kq19, q19a, q19b, q19c⟩ := isOf hZ e16 Ep
      obtain ⟨_, _, ⟨T19, L19, k19, n19⟩, -, X19, ⟨Lc19, hQ19, l19, y19, z19⟩, st19⟩ := X16.virtualBack hx (y := (⟨"com/example/hawtip/hawtip/dispatch/Policy", "uses", "(Lcom/example/hawtip/hawtip/dispatch/Policy$Route;)Z"⟩ : MethodName)) (z := (⟨"com/example/hawtip/hawtip/dispatch/Policy", "uses", "(Lcom/example/hawtip/hawtip/dispatch/Policy$Route;)Z"⟩ : MethodName)) hown (mvT hZ (hw _ (List.mem_of_getElem? (i := 38) rfl))) (mvT hZ (hw _ (List.mem_of_getElem? (i := 39) rfl))) (notFace_of_selects (args := #[]) (mvT hZ (hw _ (List.mem_of_getElem? (i := 41) rfl)))) (mvT hZ (hw _ (List.mem_of_getElem? (i := 41) rfl))) (mvT hZ (hw _ (List.mem_of_getElem? (i := 40) rfl))) (by decide) (backOf (W := 0) (rm5 l Z a0 hw [] (polF ((p1 &&& (2147483647 : Int32)) % (5 : Int32)) u0 u1 u2 u3 u4) (routeF ((p2 &&& (2147483647 : Int32)) % (3 : Int32)) r0 r1 r2) ra t0 t1 t2 t3 t4 t5 cl h0 n0 Z0 Fr_ Ar hlen El0 El1 El2 El3 El4 El5) hZ (hw _ (List.mem_of_getElem? (i := 42) rfl)) (hw _ (List.mem_of_getElem? (i := 6) rfl)) (by decide) (by decide)) q19a q19c (g := (mkF m 157 #[.val (.int p1), .val (.int p2), .val (.int ((p1 &&& (2147483647 : Int32)) % (5 : Int32))), .val (.int ((p2 &&& (2147483647 : Int32)) % (3 : Int32))), .val (.ref (polF ((p1 &&& (2147483647 : Int32)) % (5 : Int32)) u0 u1 u2 u3 u4)), .val (.ref (routeF ((p2 &&& (2147483647 : Int32)) % (3 : Int32)) r0 r1 r2)), .val (.int (expF ((p1 &&& (2147483647 : Int32)) % (5 : Int32)) ((p2 &&& (2147483647 : Int32)) % (3 : Int32)))), .val (.int (1 : Int32)), .unset] [(.ref (routeF ((p2 &&& (2147483647 : Int32)) % (3 : Int32)) r0 r1 r2)), (.ref (polF ((p1 &&& (2147483647 : Int32)) % (5 : Int32)) u0 u1 u2 u3 u4))])) rfl (by rw [hml]; rfl) (Steps.refl _) (argsL := [(.ref (routeF ((p2 &&& (2147483647 : Int32)) % (3 : Int32)) r0 r1 r2))]) (rest := []) (lenOf pd0_3 rfl) rfl (by show 2 * 0 + _ ≤ _; exact Nat.le_of_eq rfl) (hb hby at_157) (fun _ _ => ⟨rfl, e16, (by decide : 0 + 0 ≤ _), (by decide : 0 + 0 ≤ _)⟩)
      dsimp only [Pt.U, Pt.locs, Pt.cells, Pt.slots] at X19 l19 y19 z19 st19 hQ19
      subst l19 y19 z19
      obtain ⟨rfl, N19q, e19⟩ := hQ19
      have N19 := Fr.app N16 N19q
      have pre20 : ∀ tg_, Steps p.tables e below (T19.setTop (mkF m 181 #[.val (.int p1), .val (.int p2), .val (.int ((p1 &&& (2147483647 : Int32)) % (5 : Int32))), .val (.int ((p2 &&& (2147483647 : Int32)) % (3 : Int32))), .val (.ref (polF ((p1 &&& (2147483647 : Int32)) % (5 : Int32)) u0 u1 u2 u3 u4)), .val (.ref (routeF ((p2 &&& (2147483647 : Int32)) % (3 : Int32)) r0 r1 r2)), .val (.int (expF ((p1 &&& (2147483647 : Int32)) % (5 : Int32)) ((p2 &&& (2147483647 : Int32)) % (3 : Int32)))), .val (.int (1 : Int32)), .val (.int (usesF t0 t1 t2 t3 t4 t5 (routeF ((p2 &&& (2147483647 : Int32)) % (3 : Int32)) r0 r1 r2)))] [(.int (1 : Int32))])) tg_ → Steps p.tables e below (s₁.setTop (entryFrame m #[(.int p1), (.int p2)] maxLocals)) tg_ := by
        intro tg_ kt
        refine pre17 _ ?_
        show Steps p.tables e below (T16.setTop (mkF m 91 #[.val (.int p1), .val (.int p2), .val (.int ((p1 &&& (2147483647 : Int32)) % (5 : Int32))), .val (.int ((p2 &&& (2147483647 : Int32)) % (3 : Int32))), .val (.ref (polF ((p1 &&& (2147483647 : Int32)) % (5 : Int32)) u0 u1 u2 u3 u4)), .val (.ref (routeF ((p2 &&& (2147483647 : Int32)) % (3 : Int32)) r0 r1 r2)), .val (.int (expF ((p1 &&& (2147483647 : Int32)) % (5 : Int32)) ((p2 &&& (2147483647 : Int32)) % (3 : Int32)))), .unset, .unset] [(.ref (routeF ((p2 &&& (2147483647 : Int32)) % (3 : Int32)) r0 r1 r2)), (.ref t1)])) _
        refine XT.acmpYes X16.here hx rfl (pc0 := 91) (pc' := 146) rfl (hb hby at_91) rfl rfl rfl (XT.aa_eq_t (congrArg Value.ref hc91_18)) (by decide) (by decide) ?_
        show Steps p.tables e below (T16.setTop (mkF m 146 #[.val (.int p1), .val (.int p2), .val (.int ((p1 &&& (2147483647 : Int32)) % (5 : Int32))), .val (.int ((p2 &&& (2147483647 : Int32)) % (3 : Int32))), .val (.ref (polF ((p1 &&& (2147483647 : Int32)) % (5 : Int32)) u0 u1 u2 u3 u4)), .val (.ref (routeF ((p2 &&& (2147483647 : Int32)) % (3 : Int32)) r0 r1 r2)), .val (.int (expF ((p1 &&& (2147483647 : Int32)) % (5 : Int32)) ((p2 &&& (2147483647 : Int32)) % (3 : Int32)))), .unset, .unset] [])) _
        refine XS.iconst X16.here hx rfl (hb hby at_146) ?_
        show Steps p.tables e below (T16.setTop (mkF m 147 #[.val (.int p1), .val (.int p2), .val (.int ((p1 &&& (2147483647 : Int32)) % (5 : Int32))), .val (.int ((p2 &&& (2147483647 : Int32)) % (3 : Int32))), .val (.ref (polF ((p1 &&& (2147483647 : Int32)) % (5 : Int32)) u0 u1 u2 u3 u4)), .val (.ref (routeF ((p2 &&& (2147483647 : Int32)) % (3 : Int32)) r0 r1 r2)), .val (.int (expF ((p1 &&& (2147483647 : Int32)) % (5 : Int32)) ((p2 &&& (2147483647 : Int32)) % (3 : Int32)))), .unset, .unset] [(.int (1 : Int32))])) _
        refine XS.goto X16.here hx rfl (pc0 := 147) (pc' := 151) rfl (hb hby at_147) (by decide) (by decide) ?_
        show Steps p.tables e below (T16.setTop (mkF m 151 #[.val (.int p1), .val (.int p2), .val (.int ((p1 &&& (2147483647 : Int32)) % (5 : Int32))), .val (.int ((p2 &&& (2147483647 : Int32)) % (3 : Int32))), .val (.ref (polF ((p1 &&& (2147483647 : Int32)) % (5 : Int32)) u0 u1 u2 u3 u4)), .val (.ref (routeF ((p2 &&& (2147483647 : Int32)) % (3 : Int32)) r0 r1 r2)), .val (.int (expF ((p1 &&& (2147483647 : Int32)) % (5 : Int32)) ((p2 &&& (2147483647 : Int32)) % (3 : Int32)))), .unset, .unset] [(.int (1 : Int32))])) _
        refine XS.istore X16.here hx rfl (hb hby at_151) rfl (l' := #[.val (.int p1), .val (.int p2), .val (.int ((p1 &&& (2147483647 : Int32)) % (5 : Int32))), .val (.int ((p2 &&& (2147483647 : Int32)) % (3 : Int32))), .val (.ref (polF ((p1 &&& (2147483647 : Int32)) % (5 : Int32)) u0 u1 u2 u3 u4)), .val (.ref (routeF ((p2 &&& (2147483647 : Int32)) % (3 : Int32)) r0 r1 r2)), .val (.int (expF ((p1 &&& (2147483647 : Int32)) % (5 : Int32)) ((p2 &&& (2147483647 : Int32)) % (3 : Int32)))), .val (.int (1 : Int32)), .unset]) rfl ?_
        show Steps p.tables e below (T16.setTop (mkF m 153 #[.val (.int p1), .val (.int p2), .val (.int ((p1 &&& (2147483647 : Int32)) % (5 : Int32))), .val (.int ((p2 &&& (2147483647 : Int32)) % (3 : Int32))), .val (.ref (polF ((p1 &&& (2147483647 : Int32)) % (5 : Int32)) u0 u1 u2 u3 u4)), .val (.ref (routeF ((p2 &&& (2147483647 : Int32)) % (3 : Int32)) r0 r1 r2)), .val (.int (expF ((p1 &&& (2147483647 : Int32)) % (5 : Int32)) ((p2 &&& (2147483647 : Int32)) % (3 : Int32)))), .val (.int (1 : Int32)), .unset] [])) _
        refine XS.aload X16.here hx rfl (hb hby at_153) rfl rfl ?_
        show Steps p.tables e below (T16.setTop (mkF m 155 #[.val (.int p1), .val (.int p2), .val (.int ((p1 &&& (2147483647 : Int32)) % (5 : Int32))), .val (.int ((p2 &&& (2147483647 : Int32)) % (3 : Int32))), .val (.ref (polF ((p1 &&& (2147483647 : Int32)) % (5 : Int32)) u0 u1 u2 u3 u4)), .val (.ref (routeF ((p2 &&& (2147483647 : Int32)) % (3 : Int32)) r0 r1 r2)), .val (.int (expF ((p1 &&& (2147483647 : Int32)) % (5 : Int32)) ((p2 &&& (2147483647 : Int32)) % (3 : Int32)))), .val (.int (1 : Int32)), .unset] [(.ref (polF ((p1 &&& (2147483647 : Int32)) % (5 : Int32)) u0 u1 u2 u3 u4))])) _
        refine XS.aload X16.here hx rfl (hb hby at_155) rfl rfl ?_
        show Steps p.tables e below (T16.setTop (mkF m 157 #[.val (.int p1), .val (.int p2), .val (.int ((p1 &&& (2147483647 : Int32)) % (5 : Int32))), .val (.int ((p2 &&& (2147483647 : Int32)) % (3 : Int32))), .val (.ref (polF ((p1 &&& (2147483647 : Int32)) % (5 : Int32)) u0 u1 u2 u3 u4)), .val (.ref (routeF ((p2 &&& (2147483647 : Int32)) % (3 : Int32)) r0 r1 r2)), .val (.int (expF ((p1 &&& (2147483647 : Int32)) % (5 : Int32)) ((p2 &&& (2147483647 : Int32)) % (3 : Int32)))), .val (.int (1 : Int32)), .unset] [(.ref (routeF ((p2 &&& (2147483647 : Int32)) % (3 : Int32)) r0 r1 r2)), (.ref (polF ((p1 &&& (2147483647 : Int32)) % (5 : Int32)) u0 u1 u2 u3 u4))])) _
        refine st19.trans ?_
        show Steps p.tables e below (T19.setTop (mkF m 160 #[.val (.int p1), .val (.int p2), .val (.int ((p1 &&& (2147483647 : Int32)) % (5 : Int32))), .val (.int ((p2 &&& (2147483647 : Int32)) % (3 : Int32))), .val (.ref (polF ((p1 &&& (2147483647 : Int32)) % (5 : Int32)) u0 u1 u2 u3 u4)), .val (.ref (routeF ((p2 &&& (2147483647 : Int32)) % (3 : Int32)) r0 r1 r2)), .val (.int (expF ((p1 &&& (2147483647 : Int32)) % (5 : Int32)) ((p2 &&& (2147483647 : Int32)) % (3 : Int32)))), .val (.int (1 : Int32)), .unset] [(.int (usesF t0 t1 t2 t3 t4 t5 (routeF ((p2 &&& (2147483647 : Int32)) % (3 : Int32)) r0 r1 r2)))])) _
        refine XS.istore X19.here hx rfl (hb hby at_160) rfl (l' := #[.val (.int p1), .val (.int p2), .val (.int ((p1 &&& (2147483647 : Int32)) % (5 : Int32))), .val (.int ((p2 &&& (2147483647 : Int32)) % (3 : Int32))), .val (.ref (polF ((p1 &&& (2147483647 : Int32)) % (5 : Int32)) u0 u1 u2 u3 u4)), .val (.ref (routeF ((p2 &&& (2147483647 : Int32)) % (3 : Int32)) r0 r1 r2)), .val (.int (expF ((p1 &&& (2147483647 : Int32)) % (5 : Int32)) ((p2 &&& (2147483647 : Int32)) % (3 : Int32)))), .val (.int (1 : Int32)), .val (.int (usesF t0 t1 t2 t3 t4 t5 (routeF ((p2 &&& (2147483647 : Int32)) % (3 : Int32)) r0 r1 r2)))]) rfl ?_
        show Steps p.tables e below (T19.setTop (mkF m 162 #[.val (.int p1), .val (.int p2), .val (.int ((p1 &&& (2147483647 : Int32)) % (5 : Int32))), .val (.int ((p2 &&& (2147483647 : Int32)) % (3 : Int32))), .val (.ref (polF ((p1 &&& (2147483647 : Int32)) % (5 : Int32)) u0 u1 u2 u3 u4)), .val (.ref (routeF ((p2 &&& (2147483647 : Int32)) % (3 : Int32)) r0 r1 r2)), .val (.int (expF ((p1 &&& (2147483647 : Int32)) % (5 : Int32)) ((p2 &&& (2147483647 : Int32)) % (3 : Int32)))), .val (.int (1 : Int32)), .val (.int (usesF t0 t1 t2 t3 t4 t5 (routeF ((p2 &&& (2147483647 : Int32)) % (3 : Int32)) r0 r1 r2)))] [])) _
        refine XS.iload X19.here hx rfl (hb hby at_162) rfl ?_
        show Steps p.tables e below (T19.setTop (mkF m 164 #[.val (.int p1), .val (.int p2), .val (.int ((p1 &&& (2147483647 : Int32)) % (5 : Int32))), .val (.int ((p2 &&& (2147483647 : Int32)) % (3 : Int32))), .val (.ref (polF ((p1 &&& (2147483647 : Int32)) % (5 : Int32)) u0 u1 u2 u3 u4)), .val (.ref (routeF ((p2 &&& (2147483647 : Int32)) % (3 : Int32)) r0 r1 r2)), .val (.int (expF ((p1 &&& (2147483647 : Int32)) % (5 : Int32)) ((p2 &&& (2147483647 : Int32)) % (3 : Int32)))), .val (.int (1 : Int32)), .val (.int (usesF t0 t1 t2 t3 t4 t5 (routeF ((p2 &&& (2147483647 : Int32)) % (3 : Int32)) r0 r1 r2)))] [(.int (usesF t0 t1 t2 t3 t4 t5 (routeF ((p2 &&& (2147483647 : Int32)) % (3 : Int32)) r0 r1 r2)))])) _
        refine XS.iload X19.here hx rfl (hb hby at_164) rfl ?_
        show Steps p.tables e below (T19.setTop (mkF m 166 #[.val (.int p1), .val (.int p2), .val (.int ((p1 &&& (2147483647 : Int32)) % (5 : Int32))), .val (.int ((p2 &&& (2147483647 : Int32)) % (3 : Int32))), .val (.ref (polF ((p1 &&& (2147483647 : Int32)) % (5 : Int32)) u0 u1 u2 u3 u4)), .val (.ref (routeF ((p2 &&& (2147483647 : Int32)) % (3 : Int32)) r0 r1 r2)), .val (.int (expF ((p1 &&& (2147483647 : Int32)) % (5 : Int32)) ((p2 &&& (2147483647 : Int32)) % (3 : Int32)))), .val (.int (1 : Int32)), .val (.int (usesF t0 t1 t2 t3 t4 t5 (routeF ((p2 &&& (2147483647 : Int32)) % (3 : Int32)) r0 r1 r2)))] [(.int (expF ((p1 &&& (2147483647 : Int32)) % (5 : Int32)) ((p2 &&& (2147483647 : Int32)) % (3 : Int32)))), (.int (usesF t0 t1 t2 t3 t4 t5 (routeF ((p2 &&& (2147483647 : Int32)) % (3 : Int32)) r0 r1 r2)))])) _
        refine XS.icmpNo X19.here hx rfl (hb hby at_166) rfl (XT.ii_ne_f hEq) ?_
        show Steps p.tables e below (T19.setTop (mkF m 169 #[.val (.int p1), .val (.int p2), .val (.int ((p1 &&& (2147483647 : Int32)) % (5 : Int32))), .val (.int ((p2 &&& (2147483647 : Int32)) % (3 : Int32))), .val (.ref (polF ((p1 &&& (2147483647 : Int32)) % (5 : Int32)) u0 u1 u2 u3 u4)), .val (.ref (routeF ((p2 &&& (2147483647 : Int32)) % (3 : Int32)) r0 r1 r2)), .val (.int (expF ((p1 &&& (2147483647 : Int32)) % (5 : Int32)) ((p2 &&& (2147483647 : Int32)) % (3 : Int32)))), .val (.int (1 : Int32)), .val (.int (usesF t0 t1 t2 t3 t4 t5 (routeF ((p2 &&& (2147483647 : Int32)) % (3 : Int32)) r0 r1 r2)))] [])) _
        refine XS.iload X19.here hx rfl (hb hby at_169) rfl ?_
        show Steps p.tables e below (T19.setTop (mkF m 171 #[.val (.int p1), .val (.int p2), .val (.int ((p1 &&& (2147483647 : Int32)) % (5 : Int32))), .val (.int ((p2 &&& (2147483647 : Int32)) % (3 : Int32))), .val (.ref (polF ((p1 &&& (2147483647 : Int32)) % (5 : Int32)) u0 u1 u2 u3 u4)), .val (.ref (routeF ((p2 &&& (2147483647 : Int32)) % (3 : Int32)) r0 r1 r2)), .val (.int (expF ((p1 &&& (2147483647 : Int32)) % (5 : Int32)) ((p2 &&& (2147483647 : Int32)) % (3 : Int32)))), .val (.int (1 : Int32)), .val (.int (usesF t0 t1 t2 t3 t4 t5 (routeF ((p2 &&& (2147483647 : Int32)) % (3 : Int32)) r0 r1 r2)))] [(.int (usesF t0 t1 t2 t3 t4 t5 (routeF ((p2 &&& (2147483647 : Int32)) % (3 : Int32)) r0 r1 r2)))])) _
        refine XS.iload X19.here hx rfl (hb hby at_171) rfl ?_
        show Steps p.tables e below (T19.setTop (mkF m 173 #[.val (.int p1), .val (.int p2), .val (.int ((p1 &&& (2147483647 : Int32)) % (5 : Int32))), .val (.int ((p2 &&& (2147483647 : Int32)) % (3 : Int32))), .val (.ref (polF ((p1 &&& (2147483647 : Int32)) % (5 : Int32)) u0 u1 u2 u3 u4)), .val (.ref (routeF ((p2 &&& (2147483647 : Int32)) % (3 : Int32)) r0 r1 r2)), .val (.int (expF ((p1 &&& (2147483647 : Int32)) % (5 : Int32)) ((p2 &&& (2147483647 : Int32)) % (3 : Int32)))), .val (.int (1 : Int32)), .val (.int (usesF t0 t1 t2 t3 t4 t5 (routeF ((p2 &&& (2147483647 : Int32)) % (3 : Int32)) r0 r1 r2)))] [(.int (1 : Int32)), (.int (usesF t0 t1 t2 t3 t4 t5 (routeF ((p2 &&& (2147483647 : Int32)) % (3 : Int32)) r0 r1 r2)))])) _
        refine XS.icmpNo X19.here hx rfl (hb hby at_173) rfl (XT.ii_ne_f (by simp [usesF, hc78_12, hc91_18])) ?_
        show Steps p.tables e below (T19.setTop (mkF m 176 #[.val (.int p1), .val (.int p2), .val (.int ((p1 &&& (2147483647 : Int32)) % (5 : Int32))), .val (.int ((p2 &&& (2147483647 : Int32)) % (3 : Int32))), .val (.ref (polF ((p1 &&& (2147483647 : Int32)) % (5 : Int32)) u0 u1 u2 u3 u4)), .val (.ref (routeF ((p2 &&& (2147483647 : Int32)) % (3 : Int32)) r0 r1 r2)), .val (.int (expF ((p1 &&& (2147483647 : Int32)) % (5 : Int32)) ((p2 &&& (2147483647 : Int32)) % (3 : Int32)))), .val (.int (1 : Int32)), .val (.int (usesF t0 t1 t2 t3 t4 t5 (routeF ((p2 &&& (2147483647 : Int32)) % (3 : Int32)) r0 r1 r2)))] [])) _
        refine XS.iconst X19.here hx rfl (hb hby at_176) ?_
        show Steps p.tables e below (T19.setTop (mkF m 177 #[.val (.int p1), .val (.int p2), .val (.int ((p1 &&& (2147483647 : Int32)) % (5 : Int32))), .val (.int ((p2 &&& (2147483647 : Int32)) % (3 : Int32))), .val (.ref (polF ((p1 &&& (2147483647 : Int32)) % (5 : Int32)) u0 u1 u2 u3 u4)), .val (.ref (routeF ((p2 &&& (2147483647 : Int32)) % (3 : Int32)) r0 r1 r2)), .val (.int (expF ((p1 &&& (2147483647 : Int32)) % (5 : Int32)) ((p2 &&& (2147483647 : Int32)) % (3 : Int32)))), .val (.int (1 : Int32)), .val (.int (usesF t0 t1 t2 t3 t4 t5 (routeF ((p2 &&& (2147483647 : Int32)) % (3 : Int32)) r0 r1 r2)))] [(.int (1 : Int32))])) _
        refine XS.goto X19.here hx rfl (pc0 := 177) (pc' := 181) rfl (hb hby at_177) (by decide) (by decide) ?_
        exact kt
      obtain ⟨fs, hr, hrun, hended, hW, hsame⟩ := X19.leave (v := some (.int (1 : Int32))) (fun h => by rw [Bd.returns] at h; cases h)
      refine ⟨_, _, pre20 _ ?_, hrun, hended, _, _, rfl, ?_, ⟨_, rfl⟩, hW, hsame.mono (by decide) (by decide)⟩
      · show Steps p.tables e below (T19.setTop (mkF m 181 #[.val (.int p1), .val (.int p2), .val (.int ((p1 &&& (2147483647 : Int32)) % (5 : Int32))), .val (.int ((p2 &&& (2147483647 : Int32)) % (3 : Int32))), .val (.ref (polF ((p1 &&& (2147483647 : Int32)) % (5 : Int32)) u0 u1 u2 u3 u4)), .val (.ref (routeF ((p2 &&& (2147483647 : Int32)) % (3 : Int32)) r0 r1 r2)), .val (.int (expF ((p1 &&& (2147483647 : Int32)) % (5 : Int32)) ((p2 &&& (2147483647 : Int32)) % (3 : Int32)))), .val (.int (1 : Int32)), .val (.int (usesF t0 t1 t2 t3 t4 t5 (routeF ((p2 &&& (2147483647 : Int32)) % (3 : Int32)) r0 r1 r2)))] [(.int (1 : Int32))])) _
        exact retN X19 hx (t := .boolean) Bd.returns (by simp) (hb hby at_181) hr
      · show Q1 Z (.int 1) h0 n0 _ T19.heap _
        rw [e19]
        exact ⟨rfl, N19, rfl⟩
    · obtain ⟨T21, X21, e21, st21⟩ := getS2 X16 hx hZ hown (host := "") (Or.inl (hw _ (List.mem_of_getElem? (i := 36) rfl))) Via.refl e16 S_SENT (g := (mkF m 96 #[.val (.int p1), .val (.int p2), .val (.int ((p1 &&& (2147483647 : Int32)) % (5 : Int32))), .val (.int ((p2 &&& (2147483647 : Int32)) % (3 : Int32))), .val (.ref (polF ((p1 &&& (2147483647 : Int32)) % (5 : Int32)) u0 u1 u2 u3 u4)), .val (.ref (routeF ((p2 &&& (2147483647 : Int32)) % (3 : Int32)) r0 r1 r2)), .val (.int (expF ((p1 &&& (2147483647 : Int32)) % (5 : Int32)) ((p2 &&& (2147483647 : Int32)) % (3 : Int32)))), .unset, .unset] [(.ref (polF ((p1 &&& (2147483647 : Int32)) % (5 : Int32)) u0 u1 u2 u3 u4))])) rfl (hb hby at_96)
      obtain ⟨cq22, kq22, q22a, q22b, q22c⟩ := isOf hZ e21 Ep
      obtain ⟨_, _, ⟨T22, L22, k22, n22⟩, -, X22, ⟨Lc22, hQ22, l22, y22, z22⟩, st22⟩ := X21.virtualBack hx (y := (⟨"com/example/hawtip/hawtip/dispatch/Policy", "route", "(Lcom/example/hawtip/hawtip/dispatch/Event;)Lcom/example/hawtip/hawtip/dispatch/Policy$Route;"⟩ : MethodName)) (z := (⟨"com/example/hawtip/hawtip/dispatch/Policy", "route", "(Lcom/example/hawtip/hawtip/dispatch/Event;)Lcom/example/hawtip/hawtip/dispatch/Policy$Route;"⟩ : MethodName)) hown (mvT hZ (hw _ (List.mem_of_getElem? (i := 17) rfl))) (mvT hZ (hw _ (List.mem_of_getElem? (i := 18) rfl))) (notFace_of_selects (args := #[]) (mvT hZ (hw _ (List.mem_of_getElem? (i := 20) rfl)))) (mvT hZ (hw _ (List.mem_of_getElem? (i := 20) rfl))) (mvT hZ (hw _ (List.mem_of_getElem? (i := 19) rfl))) (by decide) (backOf (W := 0) (rm4 l Z a0 hw [] (polF ((p1 &&& (2147483647 : Int32)) % (5 : Int32)) u0 u1 u2 u3 u4) v2 ra t2 2 cl h0 n0 Z0 Fr_ Fo2 Ev2 Ar El2) hZ (hw _ (List.mem_of_getElem? (i := 21) rfl)) (hw _ (List.mem_of_getElem? (i := 6) rfl)) (by decide) (by decide)) q22a q22c (g := (mkF m 99 #[.val (.int p1), .val (.int p2), .val (.int ((p1 &&& (2147483647 : Int32)) % (5 : Int32))), .val (.int ((p2 &&& (2147483647 : Int32)) % (3 : Int32))), .val (.ref (polF ((p1 &&& (2147483647 : Int32)) % (5 : Int32)) u0 u1 u2 u3 u4)), .val (.ref (routeF ((p2 &&& (2147483647 : Int32)) % (3 : Int32)) r0 r1 r2)), .val (.int (expF ((p1 &&& (2147483647 : Int32)) % (5 : Int32)) ((p2 &&& (2147483647 : Int32)) % (3 : Int32)))), .unset, .unset] [(.ref v2), (.ref (polF ((p1 &&& (2147483647 : Int32)) % (5 : Int32)) u0 u1 u2 u3 u4))])) rfl (by rw [hml]; rfl) (Steps.refl _) (argsL := [(.ref v2)]) (rest := []) (lenOf pd0_2 rfl) rfl (by show 2 * 0 + _ ≤ _; exact Nat.le_of_eq rfl) (hb hby at_99) (fun _ _ => ⟨rfl, e21, (by decide : 0 + 0 ≤ _), (by decide : 0 + 0 ≤ _)⟩)
      dsimp only [Pt.U, Pt.locs, Pt.cells, Pt.slots] at X22 l22 y22 z22 st22 hQ22
      subst l22 y22 z22
      obtain ⟨rfl, N22q, e22⟩ := hQ22
      have N22 := Fr.app N16 N22q
      have pre23 : ∀ tg_, Steps p.tables e below (T22.setTop (mkF m 104 #[.val (.int p1), .val (.int p2), .val (.int ((p1 &&& (2147483647 : Int32)) % (5 : Int32))), .val (.int ((p2 &&& (2147483647 : Int32)) % (3 : Int32))), .val (.ref (polF ((p1 &&& (2147483647 : Int32)) % (5 : Int32)) u0 u1 u2 u3 u4)), .val (.ref (routeF ((p2 &&& (2147483647 : Int32)) % (3 : Int32)) r0 r1 r2)), .val (.int (expF ((p1 &&& (2147483647 : Int32)) % (5 : Int32)) ((p2 &&& (2147483647 : Int32)) % (3 : Int32)))), .unset, .unset] [(.ref (routeF ((p2 &&& (2147483647 : Int32)) % (3 : Int32)) r0 r1 r2)), (.ref t2)])) tg_ → Steps p.tables e below (s₁.setTop (entryFrame m #[(.int p1), (.int p2)] maxLocals)) tg_ := by
        intro tg_ kt
        refine pre17 _ ?_
        show Steps p.tables e below (T16.setTop (mkF m 91 #[.val (.int p1), .val (.int p2), .val (.int ((p1 &&& (2147483647 : Int32)) % (5 : Int32))), .val (.int ((p2 &&& (2147483647 : Int32)) % (3 : Int32))), .val (.ref (polF ((p1 &&& (2147483647 : Int32)) % (5 : Int32)) u0 u1 u2 u3 u4)), .val (.ref (routeF ((p2 &&& (2147483647 : Int32)) % (3 : Int32)) r0 r1 r2)), .val (.int (expF ((p1 &&& (2147483647 : Int32)) % (5 : Int32)) ((p2 &&& (2147483647 : Int32)) % (3 : Int32)))), .unset, .unset] [(.ref (routeF ((p2 &&& (2147483647 : Int32)) % (3 : Int32)) r0 r1 r2)), (.ref t1)])) _
        refine XT.acmpNo X16.here hx rfl (hb hby at_91) rfl rfl rfl (XT.aa_eq_f (fun q => hc91_18 (Value.ref.inj q))) ?_
        show Steps p.tables e below (T16.setTop (mkF m 94 #[.val (.int p1), .val (.int p2), .val (.int ((p1 &&& (2147483647 : Int32)) % (5 : Int32))), .val (.int ((p2 &&& (2147483647 : Int32)) % (3 : Int32))), .val (.ref (polF ((p1 &&& (2147483647 : Int32)) % (5 : Int32)) u0 u1 u2 u3 u4)), .val (.ref (routeF ((p2 &&& (2147483647 : Int32)) % (3 : Int32)) r0 r1 r2)), .val (.int (expF ((p1 &&& (2147483647 : Int32)) % (5 : Int32)) ((p2 &&& (2147483647 : Int32)) % (3 : Int32)))), .unset, .unset] [])) _
        refine XS.aload X16.here hx rfl (hb hby at_94) rfl rfl ?_
        show Steps p.tables e below (T16.setTop (mkF m 96 #[.val (.int p1), .val (.int p2), .val (.int ((p1 &&& (2147483647 : Int32)) % (5 : Int32))), .val (.int ((p2 &&& (2147483647 : Int32)) % (3 : Int32))), .val (.ref (polF ((p1 &&& (2147483647 : Int32)) % (5 : Int32)) u0 u1 u2 u3 u4)), .val (.ref (routeF ((p2 &&& (2147483647 : Int32)) % (3 : Int32)) r0 r1 r2)), .val (.int (expF ((p1 &&& (2147483647 : Int32)) % (5 : Int32)) ((p2 &&& (2147483647 : Int32)) % (3 : Int32)))), .unset, .unset] [(.ref (polF ((p1 &&& (2147483647 : Int32)) % (5 : Int32)) u0 u1 u2 u3 u4))])) _
        refine st21 _ ?_
        show Steps p.tables e below (T21.setTop (mkF m 99 #[.val (.int p1), .val (.int p2), .val (.int ((p1 &&& (2147483647 : Int32)) % (5 : Int32))), .val (.int ((p2 &&& (2147483647 : Int32)) % (3 : Int32))), .val (.ref (polF ((p1 &&& (2147483647 : Int32)) % (5 : Int32)) u0 u1 u2 u3 u4)), .val (.ref (routeF ((p2 &&& (2147483647 : Int32)) % (3 : Int32)) r0 r1 r2)), .val (.int (expF ((p1 &&& (2147483647 : Int32)) % (5 : Int32)) ((p2 &&& (2147483647 : Int32)) % (3 : Int32)))), .unset, .unset] [(.ref v2), (.ref (polF ((p1 &&& (2147483647 : Int32)) % (5 : Int32)) u0 u1 u2 u3 u4))])) _
        refine st22.trans ?_
        show Steps p.tables e below (T22.setTop (mkF m 102 #[.val (.int p1), .val (.int p2), .val (.int ((p1 &&& (2147483647 : Int32)) % (5 : Int32))), .val (.int ((p2 &&& (2147483647 : Int32)) % (3 : Int32))), .val (.ref (polF ((p1 &&& (2147483647 : Int32)) % (5 : Int32)) u0 u1 u2 u3 u4)), .val (.ref (routeF ((p2 &&& (2147483647 : Int32)) % (3 : Int32)) r0 r1 r2)), .val (.int (expF ((p1 &&& (2147483647 : Int32)) % (5 : Int32)) ((p2 &&& (2147483647 : Int32)) % (3 : Int32)))), .unset, .unset] [(.ref t2)])) _
        refine XS.aload X22.here hx rfl (hb hby at_102) rfl rfl ?_
        exact kt
      by_cases hc104_24 : t2 = (routeF ((p2 &&& (2147483647 : Int32)) % (3 : Int32)) r0 r1 r2)
      · obtain ⟨cq25, kq25, q25a, q25b, q25c⟩ := isOf hZ e22 Ep
        obtain ⟨_, _, ⟨T25, L25, k25, n25⟩, -, X25, ⟨Lc25, hQ25, l25, y25, z25⟩, st25⟩ := X22.virtualBack hx (y := (⟨"com/example/hawtip/hawtip/dispatch/Policy", "uses", "(Lcom/example/hawtip/hawtip/dispatch/Policy$Route;)Z"⟩ : MethodName)) (z := (⟨"com/example/hawtip/hawtip/dispatch/Policy", "uses", "(Lcom/example/hawtip/hawtip/dispatch/Policy$Route;)Z"⟩ : MethodName)) hown (mvT hZ (hw _ (List.mem_of_getElem? (i := 38) rfl))) (mvT hZ (hw _ (List.mem_of_getElem? (i := 39) rfl))) (notFace_of_selects (args := #[]) (mvT hZ (hw _ (List.mem_of_getElem? (i := 41) rfl)))) (mvT hZ (hw _ (List.mem_of_getElem? (i := 41) rfl))) (mvT hZ (hw _ (List.mem_of_getElem? (i := 40) rfl))) (by decide) (backOf (W := 0) (rm5 l Z a0 hw [] (polF ((p1 &&& (2147483647 : Int32)) % (5 : Int32)) u0 u1 u2 u3 u4) (routeF ((p2 &&& (2147483647 : Int32)) % (3 : Int32)) r0 r1 r2) ra t0 t1 t2 t3 t4 t5 cl h0 n0 Z0 Fr_ Ar hlen El0 El1 El2 El3 El4 El5) hZ (hw _ (List.mem_of_getElem? (i := 42) rfl)) (hw _ (List.mem_of_getElem? (i := 6) rfl)) (by decide) (by decide)) q25a q25c (g := (mkF m 157 #[.val (.int p1), .val (.int p2), .val (.int ((p1 &&& (2147483647 : Int32)) % (5 : Int32))), .val (.int ((p2 &&& (2147483647 : Int32)) % (3 : Int32))), .val (.ref (polF ((p1 &&& (2147483647 : Int32)) % (5 : Int32)) u0 u1 u2 u3 u4)), .val (.ref (routeF ((p2 &&& (2147483647 : Int32)) % (3 : Int32)) r0 r1 r2)), .val (.int (expF ((p1 &&& (2147483647 : Int32)) % (5 : Int32)) ((p2 &&& (2147483647 : Int32)) % (3 : Int32)))), .val (.int (1 : Int32)), .unset] [(.ref (routeF ((p2 &&& (2147483647 : Int32)) % (3 : Int32)) r0 r1 r2)), (.ref (polF ((p1 &&& (2147483647 : Int32)) % (5 : Int32)) u0 u1 u2 u3 u4))])) rfl (by rw [hml]; rfl) (Steps.refl _) (argsL := [(.ref (routeF ((p2 &&& (2147483647 : Int32)) % (3 : Int32)) r0 r1 r2))]) (rest := []) (lenOf pd0_3 rfl) rfl (by show 2 * 0 + _ ≤ _; exact Nat.le_of_eq rfl) (hb hby at_157) (fun _ _ => ⟨rfl, e22, (by decide : 0 + 0 ≤ _), (by decide : 0 + 0 ≤ _)⟩)
        dsimp only [Pt.U, Pt.locs, Pt.cells, Pt.slots] at X25 l25 y25 z25 st25 hQ25
        subst l25 y25 z25
        obtain ⟨rfl, N25q, e25⟩ := hQ25
        have N25 := Fr.app N22 N25q
        have pre26 : ∀ tg_, Steps p.tables e below (T25.setTop (mkF m 181 #[.val (.int p1), .val (.int p2), .val (.int ((p1 &&& (2147483647 : Int32)) % (5 : Int32))), .val (.int ((p2 &&& (2147483647 : Int32)) % (3 : Int32))), .val (.ref (polF ((p1 &&& (2147483647 : Int32)) % (5 : Int32)) u0 u1 u2 u3 u4)), .val (.ref (routeF ((p2 &&& (2147483647 : Int32)) % (3 : Int32)) r0 r1 r2)), .val (.int (expF ((p1 &&& (2147483647 : Int32)) % (5 : Int32)) ((p2 &&& (2147483647 : Int32)) % (3 : Int32)))), .val (.int (1 : Int32)), .val (.int (usesF t0 t1 t2 t3 t4 t5 (routeF ((p2 &&& (2147483647 : Int32)) % (3 : Int32)) r0 r1 r2)))] [(.int (1 : Int32))])) tg_ → Steps p.tables e below (s₁.setTop (entryFrame m #[(.int p1), (.int p2)] maxLocals)) tg_ := by
          intro tg_ kt
          refine pre23 _ ?_
          show Steps p.tables e below (T22.setTop (mkF m 104 #[.val (.int p1), .val (.int p2), .val (.int ((p1 &&& (2147483647 : Int32)) % (5 : Int32))), .val (.int ((p2 &&& (2147483647 : Int32)) % (3 : Int32))), .val (.ref (polF ((p1 &&& (2147483647 : Int32)) % (5 : Int32)) u0 u1 u2 u3 u4)), .val (.ref (routeF ((p2 &&& (2147483647 : Int32)) % (3 : Int32)) r0 r1 r2)), .val (.int (expF ((p1 &&& (2147483647 : Int32)) % (5 : Int32)) ((p2 &&& (2147483647 : Int32)) % (3 : Int32)))), .unset, .unset] [(.ref (routeF ((p2 &&& (2147483647 : Int32)) % (3 : Int32)) r0 r1 r2)), (.ref t2)])) _
          refine XT.acmpYes X22.here hx rfl (pc0 := 104) (pc' := 146) rfl (hb hby at_104) rfl rfl rfl (XT.aa_eq_t (congrArg Value.ref hc104_24)) (by decide) (by decide) ?_
          show Steps p.tables e below (T22.setTop (mkF m 146 #[.val (.int p1), .val (.int p2), .val (.int ((p1 &&& (2147483647 : Int32)) % (5 : Int32))), .val (.int ((p2 &&& (2147483647 : Int32)) % (3 : Int32))), .val (.ref (polF ((p1 &&& (2147483647 : Int32)) % (5 : Int32)) u0 u1 u2 u3 u4)), .val (.ref (routeF ((p2 &&& (2147483647 : Int32)) % (3 : Int32)) r0 r1 r2)), .val (.int (expF ((p1 &&& (2147483647 : Int32)) % (5 : Int32)) ((p2 &&& (2147483647 : Int32)) % (3 : Int32)))), .unset, .unset] [])) _
          refine XS.iconst X22.here hx rfl (hb hby at_146) ?_
          show Steps p.tables e below (T22.setTop (mkF m 147 #[.val (.int p1), .val (.int p2), .val (.int ((p1 &&& (2147483647 : Int32)) % (5 : Int32))), .val (.int ((p2 &&& (2147483647 : Int32)) % (3 : Int32))), .val (.ref (polF ((p1 &&& (2147483647 : Int32)) % (5 : Int32)) u0 u1 u2 u3 u4)), .val (.ref (routeF ((p2 &&& (2147483647 : Int32)) % (3 : Int32)) r0 r1 r2)), .val (.int (expF ((p1 &&& (2147483647 : Int32)) % (5 : Int32)) ((p2 &&& (2147483647 : Int32)) % (3 : Int32)))), .unset, .unset] [(.int (1 : Int32))])) _
          refine XS.goto X22.here hx rfl (pc0 := 147) (pc' := 151) rfl (hb hby at_147) (by decide) (by decide) ?_
          show Steps p.tables e below (T22.setTop (mkF m 151 #[.val (.int p1), .val (.int p2), .val (.int ((p1 &&& (2147483647 : Int32)) % (5 : Int32))), .val (.int ((p2 &&& (2147483647 : Int32)) % (3 : Int32))), .val (.ref (polF ((p1 &&& (2147483647 : Int32)) % (5 : Int32)) u0 u1 u2 u3 u4)), .val (.ref (routeF ((p2 &&& (2147483647 : Int32)) % (3 : Int32)) r0 r1 r2)), .val (.int (expF ((p1 &&& (2147483647 : Int32)) % (5 : Int32)) ((p2 &&& (2147483647 : Int32)) % (3 : Int32)))), .unset, .unset] [(.int (1 : Int32))])) _
          refine XS.istore X22.here hx rfl (hb hby at_151) rfl (l' := #[.val (.int p1), .val (.int p2), .val (.int ((p1 &&& (2147483647 : Int32)) % (5 : Int32))), .val (.int ((p2 &&& (2147483647 : Int32)) % (3 : Int32))), .val (.ref (polF ((p1 &&& (2147483647 : Int32)) % (5 : Int32)) u0 u1 u2 u3 u4)), .val (.ref (routeF ((p2 &&& (2147483647 : Int32)) % (3 : Int32)) r0 r1 r2)), .val (.int (expF ((p1 &&& (2147483647 : Int32)) % (5 : Int32)) ((p2 &&& (2147483647 : Int32)) % (3 : Int32)))), .val (.int (1 : Int32)), .unset]) rfl ?_
          show Steps p.tables e below (T22.setTop (mkF m 153 #[.val (.int p1), .val (.int p2), .val (.int ((p1 &&& (2147483647 : Int32)) % (5 : Int32))), .val (.int ((p2 &&& (2147483647 : Int32)) % (3 : Int32))), .val (.ref (polF ((p1 &&& (2147483647 : Int32)) % (5 : Int32)) u0 u1 u2 u3 u4)), .val (.ref (routeF ((p2 &&& (2147483647 : Int32)) % (3 : Int32)) r0 r1 r2)), .val (.int (expF ((p1 &&& (2147483647 : Int32)) % (5 : Int32)) ((p2 &&& (2147483647 : Int32)) % (3 : Int32)))), .val (.int (1 : Int32)), .unset] [])) _
          refine XS.aload X22.here hx rfl (hb hby at_153) rfl rfl ?_
          show Steps p.tables e below (T22.setTop (mkF m 155 #[.val (.int p1), .val (.int p2), .val (.int ((p1 &&& (2147483647 : Int32)) % (5 : Int32))), .val (.int ((p2 &&& (2147483647 : Int32)) % (3 : Int32))), .val (.ref (polF ((p1 &&& (2147483647 : Int32)) % (5 : Int32)) u0 u1 u2 u3 u4)), .val (.ref (routeF ((p2 &&& (2147483647 : Int32)) % (3 : Int32)) r0 r1 r2)), .val (.int (expF ((p1 &&& (2147483647 : Int32)) % (5 : Int32)) ((p2 &&& (2147483647 : Int32)) % (3 : Int32)))), .val (.int (1 : Int32)), .unset] [(.ref (polF ((p1 &&& (2147483647 : Int32)) % (5 : Int32)) u0 u1 u2 u3 u4))])) _
          refine XS.aload X22.here hx rfl (hb hby at_155) rfl rfl ?_
          show Steps p.tables e below (T22.setTop (mkF m 157 #[.val (.int p1), .val (.int p2), .val (.int ((p1 &&& (2147483647 : Int32)) % (5 : Int32))), .val (.int ((p2 &&& (2147483647 : Int32)) % (3 : Int32))), .val (.ref (polF ((p1 &&& (2147483647 : Int32)) % (5 : Int32)) u0 u1 u2 u3 u4)), .val (.ref (routeF ((p2 &&& (2147483647 : Int32)) % (3 : Int32)) r0 r1 r2)), .val (.int (expF ((p1 &&& (2147483647 : Int32)) % (5 : Int32)) ((p2 &&& (2147483647 : Int32)) % (3 : Int32)))), .val (.int (1 : Int32)), .unset] [(.ref (routeF ((p2 &&& (2147483647 : Int32)) % (3 : Int32)) r0 r1 r2)), (.ref (polF ((p1 &&& (2147483647 : Int32)) % (5 : Int32)) u0 u1 u2 u3 u4))])) _
          refine st25.trans ?_
          show Steps p.tables e below (T25.setTop (mkF m 160 #[.val (.int p1), .val (.int p2), .val (.int ((p1 &&& (2147483647 : Int32)) % (5 : Int32))), .val (.int ((p2 &&& (2147483647 : Int32)) % (3 : Int32))), .val (.ref (polF ((p1 &&& (2147483647 : Int32)) % (5 : Int32)) u0 u1 u2 u3 u4)), .val (.ref (routeF ((p2 &&& (2147483647 : Int32)) % (3 : Int32)) r0 r1 r2)), .val (.int (expF ((p1 &&& (2147483647 : Int32)) % (5 : Int32)) ((p2 &&& (2147483647 : Int32)) % (3 : Int32)))), .val (.int (1 : Int32)), .unset] [(.int (usesF t0 t1 t2 t3 t4 t5 (routeF ((p2 &&& (2147483647 : Int32)) % (3 : Int32)) r0 r1 r2)))])) _
          refine XS.istore X25.here hx rfl (hb hby at_160) rfl (l' := #[.val (.int p1), .val (.int p2), .val (.int ((p1 &&& (2147483647 : Int32)) % (5 : Int32))), .val (.int ((p2 &&& (2147483647 : Int32)) % (3 : Int32))), .val (.ref (polF ((p1 &&& (2147483647 : Int32)) % (5 : Int32)) u0 u1 u2 u3 u4)), .val (.ref (routeF ((p2 &&& (2147483647 : Int32)) % (3 : Int32)) r0 r1 r2)), .val (.int (expF ((p1 &&& (2147483647 : Int32)) % (5 : Int32)) ((p2 &&& (2147483647 : Int32)) % (3 : Int32)))), .val (.int (1 : Int32)), .val (.int (usesF t0 t1 t2 t3 t4 t5 (routeF ((p2 &&& (2147483647 : Int32)) % (3 : Int32)) r0 r1 r2)))]) rfl ?_
          show Steps p.tables e below (T25.setTop (mkF m 162 #[.val (.int p1), .val (.int p2), .val (.int ((p1 &&& (2147483647 : Int32)) % (5 : Int32))), .val (.int ((p2 &&& (2147483647 : Int32)) % (3 : Int32))), .val (.ref (polF ((p1 &&& (2147483647 : Int32)) % (5 : Int32)) u0 u1 u2 u3 u4)), .val (.ref (routeF ((p2 &&& (2147483647 : Int32)) % (3 : Int32)) r0 r1 r2)), .val (.int (expF ((p1 &&& (2147483647 : Int32)) % (5 : Int32)) ((p2 &&& (2147483647 : Int32)) % (3 : Int32)))), .val (.int (1 : Int32)), .val (.int (usesF t0 t1 t2 t3 t4 t5 (routeF ((p2 &&& (2147483647 : Int32)) % (3 : Int32)) r0 r1 r2)))] [])) _
          refine XS.iload X25.here hx rfl (hb hby at_162) rfl ?_
          show Steps p.tables e below (T25.setTop (mkF m 164 #[.val (.int p1), .val (.int p2), .val (.int ((p1 &&& (2147483647 : Int32)) % (5 : Int32))), .val (.int ((p2 &&& (2147483647 : Int32)) % (3 : Int32))), .val (.ref (polF ((p1 &&& (2147483647 : Int32)) % (5 : Int32)) u0 u1 u2 u3 u4)), .val (.ref (routeF ((p2 &&& (2147483647 : Int32)) % (3 : Int32)) r0 r1 r2)), .val (.int (expF ((p1 &&& (2147483647 : Int32)) % (5 : Int32)) ((p2 &&& (2147483647 : Int32)) % (3 : Int32)))), .val (.int (1 : Int32)), .val (.int (usesF t0 t1 t2 t3 t4 t5 (routeF ((p2 &&& (2147483647 : Int32)) % (3 : Int32)) r0 r1 r2)))] [(.int (usesF t0 t1 t2 t3 t4 t5 (routeF ((p2 &&& (2147483647 : Int32)) % (3 : Int32)) r0 r1 r2)))])) _
          refine XS.iload X25.here hx rfl (hb hby at_164) rfl ?_
          show Steps p.tables e below (T25.setTop (mkF m 166 #[.val (.int p1), .val (.int p2), .val (.int ((p1 &&& (2147483647 : Int32)) % (5 : Int32))), .val (.int ((p2 &&& (2147483647 : Int32)) % (3 : Int32))), .val (.ref (polF ((p1 &&& (2147483647 : Int32)) % (5 : Int32)) u0 u1 u2 u3 u4)), .val (.ref (routeF ((p2 &&& (2147483647 : Int32)) % (3 : Int32)) r0 r1 r2)), .val (.int (expF ((p1 &&& (2147483647 : Int32)) % (5 : Int32)) ((p2 &&& (2147483647 : Int32)) % (3 : Int32)))), .val (.int (1 : Int32)), .val (.int (usesF t0 t1 t2 t3 t4 t5 (routeF ((p2 &&& (2147483647 : Int32)) % (3 : Int32)) r0 r1 r2)))] [(.int (expF ((p1 &&& (2147483647 : Int32)) % (5 : Int32)) ((p2 &&& (2147483647 : Int32)) % (3 : Int32)))), (.int (usesF t0 t1 t2 t3 t4 t5 (routeF ((p2 &&& (2147483647 : Int32)) % (3 : Int32)) r0 r1 r2)))])) _
          refine XS.icmpNo X25.here hx rfl (hb hby at_166) rfl (XT.ii_ne_f hEq) ?_
          show Steps p.tables e below (T25.setTop (mkF m 169 #[.val (.int p1), .val (.int p2), .val (.int ((p1 &&& (2147483647 : Int32)) % (5 : Int32))), .val (.int ((p2 &&& (2147483647 : Int32)) % (3 : Int32))), .val (.ref (polF ((p1 &&& (2147483647 : Int32)) % (5 : Int32)) u0 u1 u2 u3 u4)), .val (.ref (routeF ((p2 &&& (2147483647 : Int32)) % (3 : Int32)) r0 r1 r2)), .val (.int (expF ((p1 &&& (2147483647 : Int32)) % (5 : Int32)) ((p2 &&& (2147483647 : Int32)) % (3 : Int32)))), .val (.int (1 : Int32)), .val (.int (usesF t0 t1 t2 t3 t4 t5 (routeF ((p2 &&& (2147483647 : Int32)) % (3 : Int32)) r0 r1 r2)))] [])) _
          refine XS.iload X25.here hx rfl (hb hby at_169) rfl ?_
          show Steps p.tables e below (T25.setTop (mkF m 171 #[.val (.int p1), .val (.int p2), .val (.int ((p1 &&& (2147483647 : Int32)) % (5 : Int32))), .val (.int ((p2 &&& (2147483647 : Int32)) % (3 : Int32))), .val (.ref (polF ((p1 &&& (2147483647 : Int32)) % (5 : Int32)) u0 u1 u2 u3 u4)), .val (.ref (routeF ((p2 &&& (2147483647 : Int32)) % (3 : Int32)) r0 r1 r2)), .val (.int (expF ((p1 &&& (2147483647 : Int32)) % (5 : Int32)) ((p2 &&& (2147483647 : Int32)) % (3 : Int32)))), .val (.int (1 : Int32)), .val (.int (usesF t0 t1 t2 t3 t4 t5 (routeF ((p2 &&& (2147483647 : Int32)) % (3 : Int32)) r0 r1 r2)))] [(.int (usesF t0 t1 t2 t3 t4 t5 (routeF ((p2 &&& (2147483647 : Int32)) % (3 : Int32)) r0 r1 r2)))])) _
          refine XS.iload X25.here hx rfl (hb hby at_171) rfl ?_
          show Steps p.tables e below (T25.setTop (mkF m 173 #[.val (.int p1), .val (.int p2), .val (.int ((p1 &&& (2147483647 : Int32)) % (5 : Int32))), .val (.int ((p2 &&& (2147483647 : Int32)) % (3 : Int32))), .val (.ref (polF ((p1 &&& (2147483647 : Int32)) % (5 : Int32)) u0 u1 u2 u3 u4)), .val (.ref (routeF ((p2 &&& (2147483647 : Int32)) % (3 : Int32)) r0 r1 r2)), .val (.int (expF ((p1 &&& (2147483647 : Int32)) % (5 : Int32)) ((p2 &&& (2147483647 : Int32)) % (3 : Int32)))), .val (.int (1 : Int32)), .val (.int (usesF t0 t1 t2 t3 t4 t5 (routeF ((p2 &&& (2147483647 : Int32)) % (3 : Int32)) r0 r1 r2)))] [(.int (1 : Int32)), (.int (usesF t0 t1 t2 t3 t4 t5 (routeF ((p2 &&& (2147483647 : Int32)) % (3 : Int32)) r0 r1 r2)))])) _
          refine XS.icmpNo X25.here hx rfl (hb hby at_173) rfl (XT.ii_ne_f (by simp [usesF, hc78_12, hc91_18, hc104_24])) ?_
          show Steps p.tables e below (T25.setTop (mkF m 176 #[.val (.int p1), .val (.int p2), .val (.int ((p1 &&& (2147483647 : Int32)) % (5 : Int32))), .val (.int ((p2 &&& (2147483647 : Int32)) % (3 : Int32))), .val (.ref (polF ((p1 &&& (2147483647 : Int32)) % (5 : Int32)) u0 u1 u2 u3 u4)), .val (.ref (routeF ((p2 &&& (2147483647 : Int32)) % (3 : Int32)) r0 r1 r2)), .val (.int (expF ((p1 &&& (2147483647 : Int32)) % (5 : Int32)) ((p2 &&& (2147483647 : Int32)) % (3 : Int32)))), .val (.int (1 : Int32)), .val (.int (usesF t0 t1 t2 t3 t4 t5 (routeF ((p2 &&& (2147483647 : Int32)) % (3 : Int32)) r0 r1 r2)))] [])) _
          refine XS.iconst X25.here hx rfl (hb hby at_176) ?_
          show Steps p.tables e below (T25.setTop (mkF m 177 #[.val (.int p1), .val (.int p2), .val (.int ((p1 &&& (2147483647 : Int32)) % (5 : Int32))), .val (.int ((p2 &&& (2147483647 : Int32)) % (3 : Int32))), .val (.ref (polF ((p1 &&& (2147483647 : Int32)) % (5 : Int32)) u0 u1 u2 u3 u4)), .val (.ref (routeF ((p2 &&& (2147483647 : Int32)) % (3 : Int32)) r0 r1 r2)), .val (.int (expF ((p1 &&& (2147483647 : Int32)) % (5 : Int32)) ((p2 &&& (2147483647 : Int32)) % (3 : Int32)))), .val (.int (1 : Int32)), .val (.int (usesF t0 t1 t2 t3 t4 t5 (routeF ((p2 &&& (2147483647 : Int32)) % (3 : Int32)) r0 r1 r2)))] [(.int (1 : Int32))])) _
          refine XS.goto X25.here hx rfl (pc0 := 177) (pc' := 181) rfl (hb hby at_177) (by decide) (by decide) ?_
          exact kt
        obtain ⟨fs, hr, hrun, hended, hW, hsame⟩ := X25.leave (v := some (.int (1 : Int32))) (fun h => by rw [Bd.returns] at h; cases h)
        refine ⟨_, _, pre26 _ ?_, hrun, hended, _, _, rfl, ?_, ⟨_, rfl⟩, hW, hsame.mono (by decide) (by decide)⟩
        · show Steps p.tables e below (T25.setTop (mkF m 181 #[.val (.int p1), .val (.int p2), .val (.int ((p1 &&& (2147483647 : Int32)) % (5 : Int32))), .val (.int ((p2 &&& (2147483647 : Int32)) % (3 : Int32))), .val (.ref (polF ((p1 &&& (2147483647 : Int32)) % (5 : Int32)) u0 u1 u2 u3 u4)), .val (.ref (routeF ((p2 &&& (2147483647 : Int32)) % (3 : Int32)) r0 r1 r2)), .val (.int (expF ((p1 &&& (2147483647 : Int32)) % (5 : Int32)) ((p2 &&& (2147483647 : Int32)) % (3 : Int32)))), .val (.int (1 : Int32)), .val (.int (usesF t0 t1 t2 t3 t4 t5 (routeF ((p2 &&& (2147483647 : Int32)) % (3 : Int32)) r0 r1 r2)))] [(.int (1 : Int32))])) _
          exact retN X25 hx (t := .boolean) Bd.returns (by simp) (hb hby at_181) hr
        · show Q1 Z (.int 1) h0 n0 _ T25.heap _
          rw [e25]
          exact ⟨rfl, N25, rfl⟩
      · obtain ⟨T27, X27, e27, st27⟩ := getS2 X22 hx hZ hown (host := "") (Or.inl (hw _ (List.mem_of_getElem? (i := 47) rfl))) Via.refl e22 S_REQUEST (g := (mkF m 109 #[.val (.int p1), .val (.int p2), .val (.int ((p1 &&& (2147483647 : Int32)) % (5 : Int32))), .val (.int ((p2 &&& (2147483647 : Int32)) % (3 : Int32))), .val (.ref (polF ((p1 &&& (2147483647 : Int32)) % (5 : Int32)) u0 u1 u2 u3 u4)), .val (.ref (routeF ((p2 &&& (2147483647 : Int32)) % (3 : Int32)) r0 r1 r2)), .val (.int (expF ((p1 &&& (2147483647 : Int32)) % (5 : Int32)) ((p2 &&& (2147483647 : Int32)) % (3 : Int32)))), .unset, .unset] [(.ref (polF ((p1 &&& (2147483647 : Int32)) % (5 : Int32)) u0 u1 u2 u3 u4))])) rfl (hb hby at_109)
        obtain ⟨cq28, kq28, q28a, q28b, q28c⟩ := isOf hZ e27 Ep
        obtain ⟨_, _, ⟨T28, L28, k28, n28⟩, -, X28, ⟨Lc28, hQ28, l28, y28, z28⟩, st28⟩ := X27.virtualBack hx (y := (⟨"com/example/hawtip/hawtip/dispatch/Policy", "route", "(Lcom/example/hawtip/hawtip/dispatch/Event;)Lcom/example/hawtip/hawtip/dispatch/Policy$Route;"⟩ : MethodName)) (z := (⟨"com/example/hawtip/hawtip/dispatch/Policy", "route", "(Lcom/example/hawtip/hawtip/dispatch/Event;)Lcom/example/hawtip/hawtip/dispatch/Policy$Route;"⟩ : MethodName)) hown (mvT hZ (hw _ (List.mem_of_getElem? (i := 17) rfl))) (mvT hZ (hw _ (List.mem_of_getElem? (i := 18) rfl))) (notFace_of_selects (args := #[]) (mvT hZ (hw _ (List.mem_of_getElem? (i := 20) rfl)))) (mvT hZ (hw _ (List.mem_of_getElem? (i := 20) rfl))) (mvT hZ (hw _ (List.mem_of_getElem? (i := 19) rfl))) (by decide) (backOf (W := 0) (rm4 l Z a0 hw [] (polF ((p1 &&& (2147483647 : Int32)) % (5 : Int32)) u0 u1 u2 u3 u4) v3 ra t3 3 cl h0 n0 Z0 Fr_ Fo3 Ev3 Ar El3) hZ (hw _ (List.mem_of_getElem? (i := 21) rfl)) (hw _ (List.mem_of_getElem? (i := 6) rfl)) (by decide) (by decide)) q28a q28c (g := (mkF m 112 #[.val (.int p1), .val (.int p2), .val (.int ((p1 &&& (2147483647 : Int32)) % (5 : Int32))), .val (.int ((p2 &&& (2147483647 : Int32)) % (3 : Int32))), .val (.ref (polF ((p1 &&& (2147483647 : Int32)) % (5 : Int32)) u0 u1 u2 u3 u4)), .val (.ref (routeF ((p2 &&& (2147483647 : Int32)) % (3 : Int32)) r0 r1 r2)), .val (.int (expF ((p1 &&& (2147483647 : Int32)) % (5 : Int32)) ((p2 &&& (2147483647 : Int32)) % (3 : Int32)))), .unset, .unset] [(.ref v3), (.ref (polF ((p1 &&& (2147483647 : Int32)) % (5 : Int32)) u0 u1 u2 u3 u4))])) rfl (by rw [hml]; rfl) (Steps.refl _) (argsL := [(.ref v3)]) (rest := []) (lenOf pd0_2 rfl) rfl (by show 2 * 0 + _ ≤ _; exact Nat.le_of_eq rfl) (hb hby at_112) (fun _ _ => ⟨rfl, e27, (by decide : 0 + 0 ≤ _), (by decide : 0 + 0 ≤ _)⟩)
        dsimp only [Pt.U, Pt.locs, Pt.cells, Pt.slots] at X28 l28 y28 z28 st28 hQ28
        subst l28 y28 z28
        obtain ⟨rfl, N28q, e28⟩ := hQ28
        have N28 := Fr.app N22 N28q
        have pre29 : ∀ tg_, Steps p.tables e below (T28.setTop (mkF m 117 #[.val (.int p1), .val (.int p2), .val (.int ((p1 &&& (2147483647 : Int32)) % (5 : Int32))), .val (.int ((p2 &&& (2147483647 : Int32)) % (3 : Int32))), .val (.ref (polF ((p1 &&& (2147483647 : Int32)) % (5 : Int32)) u0 u1 u2 u3 u4)), .val (.ref (routeF ((p2 &&& (2147483647 : Int32)) % (3 : Int32)) r0 r1 r2)), .val (.int (expF ((p1 &&& (2147483647 : Int32)) % (5 : Int32)) ((p2 &&& (2147483647 : Int32)) % (3 : Int32)))), .unset, .unset] [(.ref (routeF ((p2 &&& (2147483647 : Int32)) % (3 : Int32)) r0 r1 r2)), (.ref t3)])) tg_ → Steps p.tables e below (s₁.setTop (entryFrame m #[(.int p1), (.int p2)] maxLocals)) tg_ := by
          intro tg_ kt
          refine pre23 _ ?_
          show Steps p.tables e below (T22.setTop (mkF m 104 #[.val (.int p1), .val (.int p2), .val (.int ((p1 &&& (2147483647 : Int32)) % (5 : Int32))), .val (.int ((p2 &&& (2147483647 : Int32)) % (3 : Int32))), .val (.ref (polF ((p1 &&& (2147483647 : Int32)) % (5 : Int32)) u0 u1 u2 u3 u4)), .val (.ref (routeF ((p2 &&& (2147483647 : Int32)) % (3 : Int32)) r0 r1 r2)), .val (.int (expF ((p1 &&& (2147483647 : Int32)) % (5 : Int32)) ((p2 &&& (2147483647 : Int32)) % (3 : Int32)))), .unset, .unset] [(.ref (routeF ((p2 &&& (2147483647 : Int32)) % (3 : Int32)) r0 r1 r2)), (.ref t2)])) _
          refine XT.acmpNo X22.here hx rfl (hb hby at_104) rfl rfl rfl (XT.aa_eq_f (fun q => hc104_24 (Value.ref.inj q))) ?_
          show Steps p.tables e below (T22.setTop (mkF m 107 #[.val (.int p1), .val (.int p2), .val (.int ((p1 &&& (2147483647 : Int32)) % (5 : Int32))), .val (.int ((p2 &&& (2147483647 : Int32)) % (3 : Int32))), .val (.ref (polF ((p1 &&& (2147483647 : Int32)) % (5 : Int32)) u0 u1 u2 u3 u4)), .val (.ref (routeF ((p2 &&& (2147483647 : Int32)) % (3 : Int32)) r0 r1 r2)), .val (.int (expF ((p1 &&& (2147483647 : Int32)) % (5 : Int32)) ((p2 &&& (2147483647 : Int32)) % (3 : Int32)))), .unset, .unset] [])) _
          refine XS.aload X22.here hx rfl (hb hby at_107) rfl rfl ?_
          show Steps p.tables e below (T22.setTop (mkF m 109 #[.val (.int p1), .val (.int p2), .val (.int ((p1 &&& (2147483647 : Int32)) % (5 : Int32))), .val (.int ((p2 &&& (2147483647 : Int32)) % (3 : Int32))), .val (.ref (polF ((p1 &&& (2147483647 : Int32)) % (5 : Int32)) u0 u1 u2 u3 u4)), .val (.ref (routeF ((p2 &&& (2147483647 : Int32)) % (3 : Int32)) r0 r1 r2)), .val (.int (expF ((p1 &&& (2147483647 : Int32)) % (5 : Int32)) ((p2 &&& (2147483647 : Int32)) % (3 : Int32)))), .unset, .unset] [(.ref (polF ((p1 &&& (2147483647 : Int32)) % (5 : Int32)) u0 u1 u2 u3 u4))])) _
          refine st27 _ ?_
          show Steps p.tables e below (T27.setTop (mkF m 112 #[.val (.int p1), .val (.int p2), .val (.int ((p1 &&& (2147483647 : Int32)) % (5 : Int32))), .val (.int ((p2 &&& (2147483647 : Int32)) % (3 : Int32))), .val (.ref (polF ((p1 &&& (2147483647 : Int32)) % (5 : Int32)) u0 u1 u2 u3 u4)), .val (.ref (routeF ((p2 &&& (2147483647 : Int32)) % (3 : Int32)) r0 r1 r2)), .val (.int (expF ((p1 &&& (2147483647 : Int32)) % (5 : Int32)) ((p2 &&& (2147483647 : Int32)) % (3 : Int32)))), .unset, .unset] [(.ref v3), (.ref (polF ((p1 &&& (2147483647 : Int32)) % (5 : Int32)) u0 u1 u2 u3 u4))])) _
          refine st28.trans ?_
          show Steps p.tables e below (T28.setTop (mkF m 115 #[.val (.int p1), .val (.int p2), .val (.int ((p1 &&& (2147483647 : Int32)) % (5 : Int32))), .val (.int ((p2 &&& (2147483647 : Int32)) % (3 : Int32))), .val (.ref (polF ((p1 &&& (2147483647 : Int32)) % (5 : Int32)) u0 u1 u2 u3 u4)), .val (.ref (routeF ((p2 &&& (2147483647 : Int32)) % (3 : Int32)) r0 r1 r2)), .val (.int (expF ((p1 &&& (2147483647 : Int32)) % (5 : Int32)) ((p2 &&& (2147483647 : Int32)) % (3 : Int32)))), .unset, .unset] [(.ref t3)])) _
          refine XS.aload X28.here hx rfl (hb hby at_115) rfl rfl ?_
          exact kt
        by_cases hc117_30 : t3 = (routeF ((p2 &&& (2147483647 : Int32)) % (3 : Int32)) r0 r1 r2)
        · obtain ⟨cq31, kq31, q31a, q31b, q31c⟩ := isOf hZ e28 Ep
          obtain ⟨_, _, ⟨T31, L31, k31, n31⟩, -, X31, ⟨Lc31, hQ31, l31, y31, z31⟩, st31⟩ := X28.virtualBack hx (y := (⟨"com/example/hawtip/hawtip/dispatch/Policy", "uses", "(Lcom/example/hawtip/hawtip/dispatch/Policy$Route;)Z"⟩ : MethodName)) (z := (⟨"com/example/hawtip/hawtip/dispatch/Policy", "uses", "(Lcom/example/hawtip/hawtip/dispatch/Policy$Route;)Z"⟩ : MethodName)) hown (mvT hZ (hw _ (List.mem_of_getElem? (i := 38) rfl))) (mvT hZ (hw _ (List.mem_of_getElem? (i := 39) rfl))) (notFace_of_selects (args := #[]) (mvT hZ (hw _ (List.mem_of_getElem? (i := 41) rfl)))) (mvT hZ (hw _ (List.mem_of_getElem? (i := 41) rfl))) (mvT hZ (hw _ (List.mem_of_getElem? (i := 40) rfl))) (by decide) (backOf (W := 0) (rm5 l Z a0 hw [] (polF ((p1 &&& (2147483647 : Int32)) % (5 : Int32)) u0 u1 u2 u3 u4) (routeF ((p2 &&& (2147483647 : Int32)) % (3 : Int32)) r0 r1 r2) ra t0 t1 t2 t3 t4 t5 cl h0 n0 Z0 Fr_ Ar hlen El0 El1 El2 El3 El4 El5) hZ (hw _ (List.mem_of_getElem? (i := 42) rfl)) (hw _ (List.mem_of_getElem? (i := 6) rfl)) (by decide) (by decide)) q31a q31c (g := (mkF m 157 #[.val (.int p1), .val (.int p2), .val (.int ((p1 &&& (2147483647 : Int32)) % (5 : Int32))), .val (.int ((p2 &&& (2147483647 : Int32)) % (3 : Int32))), .val (.ref (polF ((p1 &&& (2147483647 : Int32)) % (5 : Int32)) u0 u1 u2 u3 u4)), .val (.ref (routeF ((p2 &&& (2147483647 : Int32)) % (3 : Int32)) r0 r1 r2)), .val (.int (expF ((p1 &&& (2147483647 : Int32)) % (5 : Int32)) ((p2 &&& (2147483647 : Int32)) % (3 : Int32)))), .val (.int (1 : Int32)), .unset] [(.ref (routeF ((p2 &&& (2147483647 : Int32)) % (3 : Int32)) r0 r1 r2)), (.ref (polF ((p1 &&& (2147483647 : Int32)) % (5 : Int32)) u0 u1 u2 u3 u4))])) rfl (by rw [hml]; rfl) (Steps.refl _) (argsL := [(.ref (routeF ((p2 &&& (2147483647 : Int32)) % (3 : Int32)) r0 r1 r2))]) (rest := []) (lenOf pd0_3 rfl) rfl (by show 2 * 0 + _ ≤ _; exact Nat.le_of_eq rfl) (hb hby at_157) (fun _ _ => ⟨rfl, e28, (by decide : 0 + 0 ≤ _), (by decide : 0 + 0 ≤ _)⟩)
          dsimp only [Pt.U, Pt.locs, Pt.cells, Pt.slots] at X31 l31 y31 z31 st31 hQ31
          subst l31 y31 z31
          obtain ⟨rfl, N31q, e31⟩ := hQ31
          have N31 := Fr.app N28 N31q
          have pre32 : ∀ tg_, Steps p.tables e below (T31.setTop (mkF m 181 #[.val (.int p1), .val (.int p2), .val (.int ((p1 &&& (2147483647 : Int32)) % (5 : Int32))), .val (.int ((p2 &&& (2147483647 : Int32)) % (3 : Int32))), .val (.ref (polF ((p1 &&& (2147483647 : Int32)) % (5 : Int32)) u0 u1 u2 u3 u4)), .val (.ref (routeF ((p2 &&& (2147483647 : Int32)) % (3 : Int32)) r0 r1 r2)), .val (.int (expF ((p1 &&& (2147483647 : Int32)) % (5 : Int32)) ((p2 &&& (2147483647 : Int32)) % (3 : Int32)))), .val (.int (1 : Int32)), .val (.int (usesF t0 t1 t2 t3 t4 t5 (routeF ((p2 &&& (2147483647 : Int32)) % (3 : Int32)) r0 r1 r2)))] [(.int (1 : Int32))])) tg_ → Steps p.tables e below (s₁.setTop (entryFrame m #[(.int p1), (.int p2)] maxLocals)) tg_ := by
            intro tg_ kt
            refine pre29 _ ?_
            show Steps p.tables e below (T28.setTop (mkF m 117 #[.val (.int p1), .val (.int p2), .val (.int ((p1 &&& (2147483647 : Int32)) % (5 : Int32))), .val (.int ((p2 &&& (2147483647 : Int32)) % (3 : Int32))), .val (.ref (polF ((p1 &&& (2147483647 : Int32)) % (5 : Int32)) u0 u1 u2 u3 u4)), .val (.ref (routeF ((p2 &&& (2147483647 : Int32)) % (3 : Int32)) r0 r1 r2)), .val (.int (expF ((p1 &&& (2147483647 : Int32)) % (5 : Int32)) ((p2 &&& (2147483647 : Int32)) % (3 : Int32)))), .unset, .unset] [(.ref (routeF ((p2 &&& (2147483647 : Int32)) % (3 : Int32)) r0 r1 r2)), (.ref t3)])) _
            refine XT.acmpYes X28.here hx rfl (pc0 := 117) (pc' := 146) rfl (hb hby at_117) rfl rfl rfl (XT.aa_eq_t (congrArg Value.ref hc117_30)) (by decide) (by decide) ?_
            show Steps p.tables e below (T28.setTop (mkF m 146 #[.val (.int p1), .val (.int p2), .val (.int ((p1 &&& (2147483647 : Int32)) % (5 : Int32))), .val (.int ((p2 &&& (2147483647 : Int32)) % (3 : Int32))), .val (.ref (polF ((p1 &&& (2147483647 : Int32)) % (5 : Int32)) u0 u1 u2 u3 u4)), .val (.ref (routeF ((p2 &&& (2147483647 : Int32)) % (3 : Int32)) r0 r1 r2)), .val (.int (expF ((p1 &&& (2147483647 : Int32)) % (5 : Int32)) ((p2 &&& (2147483647 : Int32)) % (3 : Int32)))), .unset, .unset] [])) _
            refine XS.iconst X28.here hx rfl (hb hby at_146) ?_
            show Steps p.tables e below (T28.setTop (mkF m 147 #[.val (.int p1), .val (.int p2), .val (.int ((p1 &&& (2147483647 : Int32)) % (5 : Int32))), .val (.int ((p2 &&& (2147483647 : Int32)) % (3 : Int32))), .val (.ref (polF ((p1 &&& (2147483647 : Int32)) % (5 : Int32)) u0 u1 u2 u3 u4)), .val (.ref (routeF ((p2 &&& (2147483647 : Int32)) % (3 : Int32)) r0 r1 r2)), .val (.int (expF ((p1 &&& (2147483647 : Int32)) % (5 : Int32)) ((p2 &&& (2147483647 : Int32)) % (3 : Int32)))), .unset, .unset] [(.int (1 : Int32))])) _
            refine XS.goto X28.here hx rfl (pc0 := 147) (pc' := 151) rfl (hb hby at_147) (by decide) (by decide) ?_
            show Steps p.tables e below (T28.setTop (mkF m 151 #[.val (.int p1), .val (.int p2), .val (.int ((p1 &&& (2147483647 : Int32)) % (5 : Int32))), .val (.int ((p2 &&& (2147483647 : Int32)) % (3 : Int32))), .val (.ref (polF ((p1 &&& (2147483647 : Int32)) % (5 : Int32)) u0 u1 u2 u3 u4)), .val (.ref (routeF ((p2 &&& (2147483647 : Int32)) % (3 : Int32)) r0 r1 r2)), .val (.int (expF ((p1 &&& (2147483647 : Int32)) % (5 : Int32)) ((p2 &&& (2147483647 : Int32)) % (3 : Int32)))), .unset, .unset] [(.int (1 : Int32))])) _
            refine XS.istore X28.here hx rfl (hb hby at_151) rfl (l' := #[.val (.int p1), .val (.int p2), .val (.int ((p1 &&& (2147483647 : Int32)) % (5 : Int32))), .val (.int ((p2 &&& (2147483647 : Int32)) % (3 : Int32))), .val (.ref (polF ((p1 &&& (2147483647 : Int32)) % (5 : Int32)) u0 u1 u2 u3 u4)), .val (.ref (routeF ((p2 &&& (2147483647 : Int32)) % (3 : Int32)) r0 r1 r2)), .val (.int (expF ((p1 &&& (2147483647 : Int32)) % (5 : Int32)) ((p2 &&& (2147483647 : Int32)) % (3 : Int32)))), .val (.int (1 : Int32)), .unset]) rfl ?_
            show Steps p.tables e below (T28.setTop (mkF m 153 #[.val (.int p1), .val (.int p2), .val (.int ((p1 &&& (2147483647 : Int32)) % (5 : Int32))), .val (.int ((p2 &&& (2147483647 : Int32)) % (3 : Int32))), .val (.ref (polF ((p1 &&& (2147483647 : Int32)) % (5 : Int32)) u0 u1 u2 u3 u4)), .val (.ref (routeF ((p2 &&& (2147483647 : Int32)) % (3 : Int32)) r0 r1 r2)), .val (.int (expF ((p1 &&& (2147483647 : Int32)) % (5 : Int32)) ((p2 &&& (2147483647 : Int32)) % (3 : Int32)))), .val (.int (1 : Int32)), .unset] [])) _
            refine XS.aload X28.here hx rfl (hb hby at_153) rfl rfl ?_
            show Steps p.tables e below (T28.setTop (mkF m 155 #[.val (.int p1), .val (.int p2), .val (.int ((p1 &&& (2147483647 : Int32)) % (5 : Int32))), .val (.int ((p2 &&& (2147483647 : Int32)) % (3 : Int32))), .val (.ref (polF ((p1 &&& (2147483647 : Int32)) % (5 : Int32)) u0 u1 u2 u3 u4)), .val (.ref (routeF ((p2 &&& (2147483647 : Int32)) % (3 : Int32)) r0 r1 r2)), .val (.int (expF ((p1 &&& (2147483647 : Int32)) % (5 : Int32)) ((p2 &&& (2147483647 : Int32)) % (3 : Int32)))), .val (.int (1 : Int32)), .unset] [(.ref (polF ((p1 &&& (2147483647 : Int32)) % (5 : Int32)) u0 u1 u2 u3 u4))])) _
            refine XS.aload X28.here hx rfl (hb hby at_155) rfl rfl ?_
            show Steps p.tables e below (T28.setTop (mkF m 157 #[.val (.int p1), .val (.int p2), .val (.int ((p1 &&& (2147483647 : Int32)) % (5 : Int32))), .val (.int ((p2 &&& (2147483647 : Int32)) % (3 : Int32))), .val (.ref (polF ((p1 &&& (2147483647 : Int32)) % (5 : Int32)) u0 u1 u2 u3 u4)), .val (.ref (routeF ((p2 &&& (2147483647 : Int32)) % (3 : Int32)) r0 r1 r2)), .val (.int (expF ((p1 &&& (2147483647 : Int32)) % (5 : Int32)) ((p2 &&& (2147483647 : Int32)) % (3 : Int32)))), .val (.int (1 : Int32)), .unset] [(.ref (routeF ((p2 &&& (2147483647 : Int32)) % (3 : Int32)) r0 r1 r2)), (.ref (polF ((p1 &&& (2147483647 : Int32)) % (5 : Int32)) u0 u1 u2 u3 u4))])) _
            refine st31.trans ?_
            show Steps p.tables e below (T31.setTop (mkF m 160 #[.val (.int p1), .val (.int p2), .val (.int ((p1 &&& (2147483647 : Int32)) % (5 : Int32))), .val (.int ((p2 &&& (2147483647 : Int32)) % (3 : Int32))), .val (.ref (polF ((p1 &&& (2147483647 : Int32)) % (5 : Int32)) u0 u1 u2 u3 u4)), .val (.ref (routeF ((p2 &&& (2147483647 : Int32)) % (3 : Int32)) r0 r1 r2)), .val (.int (expF ((p1 &&& (2147483647 : Int32)) % (5 : Int32)) ((p2 &&& (2147483647 : Int32)) % (3 : Int32)))), .val (.int (1 : Int32)), .unset] [(.int (usesF t0 t1 t2 t3 t4 t5 (routeF ((p2 &&& (2147483647 : Int32)) % (3 : Int32)) r0 r1 r2)))])) _
            refine XS.istore X31.here hx rfl (hb hby at_160) rfl (l' := #[.val (.int p1), .val (.int p2), .val (.int ((p1 &&& (2147483647 : Int32)) % (5 : Int32))), .val (.int ((p2 &&& (2147483647 : Int32)) % (3 : Int32))), .val (.ref (polF ((p1 &&& (2147483647 : Int32)) % (5 : Int32)) u0 u1 u2 u3 u4)), .val (.ref (routeF ((p2 &&& (2147483647 : Int32)) % (3 : Int32)) r0 r1 r2)), .val (.int (expF ((p1 &&& (2147483647 : Int32)) % (5 : Int32)) ((p2 &&& (2147483647 : Int32)) % (3 : Int32)))), .val (.int (1 : Int32)), .val (.int (usesF t0 t1 t2 t3 t4 t5 (routeF ((p2 &&& (2147483647 : Int32)) % (3 : Int32)) r0 r1 r2)))]) rfl ?_
            show Steps p.tables e below (T31.setTop (mkF m 162 #[.val (.int p1), .val (.int p2), .val (.int ((p1 &&& (2147483647 : Int32)) % (5 : Int32))), .val (.int ((p2 &&& (2147483647 : Int32)) % (3 : Int32))), .val (.ref (polF ((p1 &&& (2147483647 : Int32)) % (5 : Int32)) u0 u1 u2 u3 u4)), .val (.ref (routeF ((p2 &&& (2147483647 : Int32)) % (3 : Int32)) r0 r1 r2)), .val (.int (expF ((p1 &&& (2147483647 : Int32)) % (5 : Int32)) ((p2 &&& (2147483647 : Int32)) % (3 : Int32)))), .val (.int (1 : Int32)), .val (.int (usesF t0 t1 t2 t3 t4 t5 (routeF ((p2 &&& (2147483647 : Int32)) % (3 : Int32)) r0 r1 r2)))] [])) _
            refine XS.iload X31.here hx rfl (hb hby at_162) rfl ?_
            show Steps p.tables e below (T31.setTop (mkF m 164 #[.val (.int p1), .val (.int p2), .val (.int ((p1 &&& (2147483647 : Int32)) % (5 : Int32))), .val (.int ((p2 &&& (2147483647 : Int32)) % (3 : Int32))), .val (.ref (polF ((p1 &&& (2147483647 : Int32)) % (5 : Int32)) u0 u1 u2 u3 u4)), .val (.ref (routeF ((p2 &&& (2147483647 : Int32)) % (3 : Int32)) r0 r1 r2)), .val (.int (expF ((p1 &&& (2147483647 : Int32)) % (5 : Int32)) ((p2 &&& (2147483647 : Int32)) % (3 : Int32)))), .val (.int (1 : Int32)), .val (.int (usesF t0 t1 t2 t3 t4 t5 (routeF ((p2 &&& (2147483647 : Int32)) % (3 : Int32)) r0 r1 r2)))] [(.int (usesF t0 t1 t2 t3 t4 t5 (routeF ((p2 &&& (2147483647 : Int32)) % (3 : Int32)) r0 r1 r2)))])) _
            refine XS.iload X31.here hx rfl (hb hby at_164) rfl ?_
            show Steps p.tables e below (T31.setTop (mkF m 166 #[.val (.int p1), .val (.int p2), .val (.int ((p1 &&& (2147483647 : Int32)) % (5 : Int32))), .val (.int ((p2 &&& (2147483647 : Int32)) % (3 : Int32))), .val (.ref (polF ((p1 &&& (2147483647 : Int32)) % (5 : Int32)) u0 u1 u2 u3 u4)), .val (.ref (routeF ((p2 &&& (2147483647 : Int32)) % (3 : Int32)) r0 r1 r2)), .val (.int (expF ((p1 &&& (2147483647 : Int32)) % (5 : Int32)) ((p2 &&& (2147483647 : Int32)) % (3 : Int32)))), .val (.int (1 : Int32)), .val (.int (usesF t0 t1 t2 t3 t4 t5 (routeF ((p2 &&& (2147483647 : Int32)) % (3 : Int32)) r0 r1 r2)))] [(.int (expF ((p1 &&& (2147483647 : Int32)) % (5 : Int32)) ((p2 &&& (2147483647 : Int32)) % (3 : Int32)))), (.int (usesF t0 t1 t2 t3 t4 t5 (routeF ((p2 &&& (2147483647 : Int32)) % (3 : Int32)) r0 r1 r2)))])) _
            refine XS.icmpNo X31.here hx rfl (hb hby at_166) rfl (XT.ii_ne_f hEq) ?_
            show Steps p.tables e below (T31.setTop (mkF m 169 #[.val (.int p1), .val (.int p2), .val (.int ((p1 &&& (2147483647 : Int32)) % (5 : Int32))), .val (.int ((p2 &&& (2147483647 : Int32)) % (3 : Int32))), .val (.ref (polF ((p1 &&& (2147483647 : Int32)) % (5 : Int32)) u0 u1 u2 u3 u4)), .val (.ref (routeF ((p2 &&& (2147483647 : Int32)) % (3 : Int32)) r0 r1 r2)), .val (.int (expF ((p1 &&& (2147483647 : Int32)) % (5 : Int32)) ((p2 &&& (2147483647 : Int32)) % (3 : Int32)))), .val (.int (1 : Int32)), .val (.int (usesF t0 t1 t2 t3 t4 t5 (routeF ((p2 &&& (2147483647 : Int32)) % (3 : Int32)) r0 r1 r2)))] [])) _
            refine XS.iload X31.here hx rfl (hb hby at_169) rfl ?_
            show Steps p.tables e below (T31.setTop (mkF m 171 #[.val (.int p1), .val (.int p2), .val (.int ((p1 &&& (2147483647 : Int32)) % (5 : Int32))), .val (.int ((p2 &&& (2147483647 : Int32)) % (3 : Int32))), .val (.ref (polF ((p1 &&& (2147483647 : Int32)) % (5 : Int32)) u0 u1 u2 u3 u4)), .val (.ref (routeF ((p2 &&& (2147483647 : Int32)) % (3 : Int32)) r0 r1 r2)), .val (.int (expF ((p1 &&& (2147483647 : Int32)) % (5 : Int32)) ((p2 &&& (2147483647 : Int32)) % (3 : Int32)))), .val (.int (1 : Int32)), .val (.int (usesF t0 t1 t2 t3 t4 t5 (routeF ((p2 &&& (2147483647 : Int32)) % (3 : Int32)) r0 r1 r2)))] [(.int (usesF t0 t1 t2 t3 t4 t5 (routeF ((p2 &&& (2147483647 : Int32)) % (3 : Int32)) r0 r1 r2)))])) _
            refine XS.iload X31.here hx rfl (hb hby at_171) rfl ?_
            show Steps p.tables e below (T31.setTop (mkF m 173 #[.val (.int p1), .val (.int p2), .val (.int ((p1 &&& (2147483647 : Int32)) % (5 : Int32))), .val (.int ((p2 &&& (2147483647 : Int32)) % (3 : Int32))), .val (.ref (polF ((p1 &&& (2147483647 : Int32)) % (5 : Int32)) u0 u1 u2 u3 u4)), .val (.ref (routeF ((p2 &&& (2147483647 : Int32)) % (3 : Int32)) r0 r1 r2)), .val (.int (expF ((p1 &&& (2147483647 : Int32)) % (5 : Int32)) ((p2 &&& (2147483647 : Int32)) % (3 : Int32)))), .val (.int (1 : Int32)), .val (.int (usesF t0 t1 t2 t3 t4 t5 (routeF ((p2 &&& (2147483647 : Int32)) % (3 : Int32)) r0 r1 r2)))] [(.int (1 : Int32)), (.int (usesF t0 t1 t2 t3 t4 t5 (routeF ((p2 &&& (2147483647 : Int32)) % (3 : Int32)) r0 r1 r2)))])) _
            refine XS.icmpNo X31.here hx rfl (hb hby at_173) rfl (XT.ii_ne_f (by simp [usesF, hc78_12, hc91_18, hc104_24, hc117_30])) ?_
            show Steps p.tables e below (T31.setTop (mkF m 176 #[.val (.int p1), .val (.int p2), .val (.int ((p1 &&& (2147483647 : Int32)) % (5 : Int32))), .val (.int ((p2 &&& (2147483647 : Int32)) % (3 : Int32))), .val (.ref (polF ((p1 &&& (2147483647 : Int32)) % (5 : Int32)) u0 u1 u2 u3 u4)), .val (.ref (routeF ((p2 &&& (2147483647 : Int32)) % (3 : Int32)) r0 r1 r2)), .val (.int (expF ((p1 &&& (2147483647 : Int32)) % (5 : Int32)) ((p2 &&& (2147483647 : Int32)) % (3 : Int32)))), .val (.int (1 : Int32)), .val (.int (usesF t0 t1 t2 t3 t4 t5 (routeF ((p2 &&& (2147483647 : Int32)) % (3 : Int32)) r0 r1 r2)))] [])) _
            refine XS.iconst X31.here hx rfl (hb hby at_176) ?_
            show Steps p.tables e below (T31.setTop (mkF m 177 #[.val (.int p1), .val (.int p2), .val (.int ((p1 &&& (2147483647 : Int32)) % (5 : Int32))), .val (.int ((p2 &&& (2147483647 : Int32)) % (3 : Int32))), .val (.ref (polF ((p1 &&& (2147483647 : Int32)) % (5 : Int32)) u0 u1 u2 u3 u4)), .val (.ref (routeF ((p2 &&& (2147483647 : Int32)) % (3 : Int32)) r0 r1 r2)), .val (.int (expF ((p1 &&& (2147483647 : Int32)) % (5 : Int32)) ((p2 &&& (2147483647 : Int32)) % (3 : Int32)))), .val (.int (1 : Int32)), .val (.int (usesF t0 t1 t2 t3 t4 t5 (routeF ((p2 &&& (2147483647 : Int32)) % (3 : Int32)) r0 r1 r2)))] [(.int (1 : Int32))])) _
            refine XS.goto X31.here hx rfl (pc0 := 177) (pc' := 181) rfl (hb hby at_177) (by decide) (by decide) ?_
            exact kt
          obtain ⟨fs, hr, hrun, hended, hW, hsame⟩ := X31.leave (v := some (.int (1 : Int32))) (fun h => by rw [Bd.returns] at h; cases h)
          refine ⟨_, _, pre32 _ ?_, hrun, hended, _, _, rfl, ?_, ⟨_, rfl⟩, hW, hsame.mono (by decide) (by decide)⟩
          · show Steps p.tables e below (T31.setTop (mkF m 181 #[.val (.int p1), .val (.int p2), .val (.int ((p1 &&& (2147483647 : Int32)) % (5 : Int32))), .val (.int ((p2 &&& (2147483647 : Int32)) % (3 : Int32))), .val (.ref (polF ((p1 &&& (2147483647 : Int32)) % (5 : Int32)) u0 u1 u2 u3 u4)), .val (.ref (routeF ((p2 &&& (2147483647 : Int32)) % (3 : Int32)) r0 r1 r2)), .val (.int (expF ((p1 &&& (2147483647 : Int32)) % (5 : Int32)) ((p2 &&& (2147483647 : Int32)) % (3 : Int32)))), .val (.int (1 : Int32)), .val (.int (usesF t0 t1 t2 t3 t4 t5 (routeF ((p2 &&& (2147483647 : Int32)) % (3 : Int32)) r0 r1 r2)))] [(.int (1 : Int32))])) _
            exact retN X31 hx (t := .boolean) Bd.returns (by simp) (hb hby at_181) hr
          · show Q1 Z (.int 1) h0 n0 _ T31.heap _
            rw [e31]
            exact ⟨rfl, N31, rfl⟩
        · obtain ⟨T33, X33, e33, st33⟩ := getS2 X28 hx hZ hown (host := "") (Or.inl (hw _ (List.mem_of_getElem? (i := 52) rfl))) Via.refl e28 S_RESPONSE (g := (mkF m 122 #[.val (.int p1), .val (.int p2), .val (.int ((p1 &&& (2147483647 : Int32)) % (5 : Int32))), .val (.int ((p2 &&& (2147483647 : Int32)) % (3 : Int32))), .val (.ref (polF ((p1 &&& (2147483647 : Int32)) % (5 : Int32)) u0 u1 u2 u3 u4)), .val (.ref (routeF ((p2 &&& (2147483647 : Int32)) % (3 : Int32)) r0 r1 r2)), .val (.int (expF ((p1 &&& (2147483647 : Int32)) % (5 : Int32)) ((p2 &&& (2147483647 : Int32)) % (3 : Int32)))), .unset, .unset] [(.ref (polF ((p1 &&& (2147483647 : Int32)) % (5 : Int32)) u0 u1 u2 u3 u4))])) rfl (hb hby at_122)
          obtain ⟨cq34, kq34, q34a, q34b, q34c⟩ := isOf hZ e33 Ep
          obtain ⟨_, _, ⟨T34, L34, k34, n34⟩, -, X34, ⟨Lc34, hQ34, l34, y34, z34⟩, st34⟩ := X33.virtualBack hx (y := (⟨"com/example/hawtip/hawtip/dispatch/Policy", "route", "(Lcom/example/hawtip/hawtip/dispatch/Event;)Lcom/example/hawtip/hawtip/dispatch/Policy$Route;"⟩ : MethodName)) (z := (⟨"com/example/hawtip/hawtip/dispatch/Policy", "route", "(Lcom/example/hawtip/hawtip/dispatch/Event;)Lcom/example/hawtip/hawtip/dispatch/Policy$Route;"⟩ : MethodName)) hown (mvT hZ (hw _ (List.mem_of_getElem? (i := 17) rfl))) (mvT hZ (hw _ (List.mem_of_getElem? (i := 18) rfl))) (notFace_of_selects (args := #[]) (mvT hZ (hw _ (List.mem_of_getElem? (i := 20) rfl)))) (mvT hZ (hw _ (List.mem_of_getElem? (i := 20) rfl))) (mvT hZ (hw _ (List.mem_of_getElem? (i := 19) rfl))) (by decide) (backOf (W := 0) (rm4 l Z a0 hw [] (polF ((p1 &&& (2147483647 : Int32)) % (5 : Int32)) u0 u1 u2 u3 u4) v4 ra t4 4 cl h0 n0 Z0 Fr_ Fo4 Ev4 Ar El4) hZ (hw _ (List.mem_of_getElem? (i := 21) rfl)) (hw _ (List.mem_of_getElem? (i := 6) rfl)) (by decide) (by decide)) q34a q34c (g := (mkF m 125 #[.val (.int p1), .val (.int p2), .val (.int ((p1 &&& (2147483647 : Int32)) % (5 : Int32))), .val (.int ((p2 &&& (2147483647 : Int32)) % (3 : Int32))), .val (.ref (polF ((p1 &&& (2147483647 : Int32)) % (5 : Int32)) u0 u1 u2 u3 u4)), .val (.ref (routeF ((p2 &&& (2147483647 : Int32)) % (3 : Int32)) r0 r1 r2)), .val (.int (expF ((p1 &&& (2147483647 : Int32)) % (5 : Int32)) ((p2 &&& (2147483647 : Int32)) % (3 : Int32)))), .unset, .unset] [(.ref v4), (.ref (polF ((p1 &&& (2147483647 : Int32)) % (5 : Int32)) u0 u1 u2 u3 u4))])) rfl (by rw [hml]; rfl) (Steps.refl _) (argsL := [(.ref v4)]) (rest := []) (lenOf pd0_2 rfl) rfl (by show 2 * 0 + _ ≤ _; exact Nat.le_of_eq rfl) (hb hby at_125) (fun _ _ => ⟨rfl, e33, (by decide : 0 + 0 ≤ _), (by decide : 0 + 0 ≤ _)⟩)
          dsimp only [Pt.U, Pt.locs, Pt.cells, Pt.slots] at X34 l34 y34 z34 st34 hQ34
          subst l34 y34 z34
          obtain ⟨rfl, N34q, e34⟩ := hQ34
          have N34 := Fr.app N28 N34q
          have pre35 : ∀ tg_, Steps p.tables e below (T34.setTop (mkF m 130 #[.val (.int p1), .val (.int p2), .val (.int ((p1 &&& (2147483647 : Int32)) % (5 : Int32))), .val (.int ((p2 &&& (2147483647 : Int32)) % (3 : Int32))), .val (.ref (polF ((p1 &&& (2147483647 : Int32)) % (5 : Int32)) u0 u1 u2 u3 u4)), .val (.ref (routeF ((p2 &&& (2147483647 : Int32)) % (3 : Int32)) r0 r1 r2)), .val (.int (expF ((p1 &&& (2147483647 : Int32)) % (5 : Int32)) ((p2 &&& (2147483647 : Int32)) % (3 : Int32)))), .unset, .unset] [(.ref (routeF ((p2 &&& (2147483647 : Int32)) % (3 : Int32)) r0 r1 r2)), (.ref t4)])) tg_ → Steps p.tables e below (s₁.setTop (entryFrame m #[(.int p1), (.int p2)] maxLocals)) tg_ := by
            intro tg_ kt
            refine pre29 _ ?_
            show Steps p.tables e below (T28.setTop (mkF m 117 #[.val (.int p1), .val (.int p2), .val (.int ((p1 &&& (2147483647 : Int32)) % (5 : Int32))), .val (.int ((p2 &&& (2147483647 : Int32)) % (3 : Int32))), .val (.ref (polF ((p1 &&& (2147483647 : Int32)) % (5 : Int32)) u0 u1 u2 u3 u4)), .val (.ref (routeF ((p2 &&& (2147483647 : Int32)) % (3 : Int32)) r0 r1 r2)), .val (.int (expF ((p1 &&& (2147483647 : Int32)) % (5 : Int32)) ((p2 &&& (2147483647 : Int32)) % (3 : Int32)))), .unset, .unset] [(.ref (routeF ((p2 &&& (2147483647 : Int32)) % (3 : Int32)) r0 r1 r2)), (.ref t3)])) _
            refine XT.acmpNo X28.here hx rfl (hb hby at_117) rfl rfl rfl (XT.aa_eq_f (fun q => hc117_30 (Value.ref.inj q))) ?_
            show Steps p.tables e below (T28.setTop (mkF m 120 #[.val (.int p1), .val (.int p2), .val (.int ((p1 &&& (2147483647 : Int32)) % (5 : Int32))), .val (.int ((p2 &&& (2147483647 : Int32)) % (3 : Int32))), .val (.ref (polF ((p1 &&& (2147483647 : Int32)) % (5 : Int32)) u0 u1 u2 u3 u4)), .val (.ref (routeF ((p2 &&& (2147483647 : Int32)) % (3 : Int32)) r0 r1 r2)), .val (.int (expF ((p1 &&& (2147483647 : Int32)) % (5 : Int32)) ((p2 &&& (2147483647 : Int32)) % (3 : Int32)))), .unset, .unset] [])) _
            refine XS.aload X28.here hx rfl (hb hby at_120) rfl rfl ?_
            show Steps p.tables e below (T28.setTop (mkF m 122 #[.val (.int p1), .val (.int p2), .val (.int ((p1 &&& (2147483647 : Int32)) % (5 : Int32))), .val (.int ((p2 &&& (2147483647 : Int32)) % (3 : Int32))), .val (.ref (polF ((p1 &&& (2147483647 : Int32)) % (5 : Int32)) u0 u1 u2 u3 u4)), .val (.ref (routeF ((p2 &&& (2147483647 : Int32)) % (3 : Int32)) r0 r1 r2)), .val (.int (expF ((p1 &&& (2147483647 : Int32)) % (5 : Int32)) ((p2 &&& (2147483647 : Int32)) % (3 : Int32)))), .unset, .unset] [(.ref (polF ((p1 &&& (2147483647 : Int32)) % (5 : Int32)) u0 u1 u2 u3 u4))])) _
            refine st33 _ ?_
            show Steps p.tables e below (T33.setTop (mkF m 125 #[.val (.int p1), .val (.int p2), .val (.int ((p1 &&& (2147483647 : Int32)) % (5 : Int32))), .val (.int ((p2 &&& (2147483647 : Int32)) % (3 : Int32))), .val (.ref (polF ((p1 &&& (2147483647 : Int32)) % (5 : Int32)) u0 u1 u2 u3 u4)), .val (.ref (routeF ((p2 &&& (2147483647 : Int32)) % (3 : Int32)) r0 r1 r2)), .val (.int (expF ((p1 &&& (2147483647 : Int32)) % (5 : Int32)) ((p2 &&& (2147483647 : Int32)) % (3 : Int32)))), .unset, .unset] [(.ref v4), (.ref (polF ((p1 &&& (2147483647 : Int32)) % (5 : Int32)) u0 u1 u2 u3 u4))])) _
            refine st34.trans ?_
            show Steps p.tables e below (T34.setTop (mkF m 128 #[.val (.int p1), .val (.int p2), .val (.int ((p1 &&& (2147483647 : Int32)) % (5 : Int32))), .val (.int ((p2 &&& (2147483647 : Int32)) % (3 : Int32))), .val (.ref (polF ((p1 &&& (2147483647 : Int32)) % (5 : Int32)) u0 u1 u2 u3 u4)), .val (.ref (routeF ((p2 &&& (2147483647 : Int32)) % (3 : Int32)) r0 r1 r2)), .val (.int (expF ((p1 &&& (2147483647 : Int32)) % (5 : Int32)) ((p2 &&& (2147483647 : Int32)) % (3 : Int32)))), .unset, .unset] [(.ref t4)])) _
            refine XS.aload X34.here hx rfl (hb hby at_128) rfl rfl ?_
            exact kt
          by_cases hc130_36 : t4 = (routeF ((p2 &&& (2147483647 : Int32)) % (3 : Int32)) r0 r1 r2)
          · obtain ⟨cq37, kq37, q37a, q37b, q37c⟩ := isOf hZ e34 Ep
            obtain ⟨_, _, ⟨T37, L37, k37, n37⟩, -, X37, ⟨Lc37, hQ37, l37, y37, z37⟩, st37⟩ := X34.virtualBack hx (y := (⟨"com/example/hawtip/hawtip/dispatch/Policy", "uses", "(Lcom/example/hawtip/hawtip/dispatch/Policy$Route;)Z"⟩ : MethodName)) (z := (⟨"com/example/hawtip/hawtip/dispatch/Policy", "uses", "(Lcom/example/hawtip/hawtip/dispatch/Policy$Route;)Z"⟩ : MethodName)) hown (mvT hZ (hw _ (List.mem_of_getElem? (i := 38) rfl))) (mvT hZ (hw _ (List.mem_of_getElem? (i := 39) rfl))) (notFace_of_selects (args := #[]) (mvT hZ (hw _ (List.mem_of_getElem? (i := 41) rfl)))) (mvT hZ (hw _ (List.mem_of_getElem? (i := 41) rfl))) (mvT hZ (hw _ (List.mem_of_getElem? (i := 40) rfl))) (by decide) (backOf (W := 0) (rm5 l Z a0 hw [] (polF ((p1 &&& (2147483647 : Int32)) % (5 : Int32)) u0 u1 u2 u3 u4) (routeF ((p2 &&& (2147483647 : Int32)) % (3 : Int32)) r0 r1 r2) ra t0 t1 t2 t3 t4 t5 cl h0 n0 Z0 Fr_ Ar hlen El0 El1 El2 El3 El4 El5) hZ (hw _ (List.mem_of_getElem? (i := 42) rfl)) (hw _ (List.mem_of_getElem? (i := 6) rfl)) (by decide) (by decide)) q37a q37c (g := (mkF m 157 #[.val (.int p1), .val (.int p2), .val (.int ((p1 &&& (2147483647 : Int32)) % (5 : Int32))), .val (.int ((p2 &&& (2147483647 : Int32)) % (3 : Int32))), .val (.ref (polF ((p1 &&& (2147483647 : Int32)) % (5 : Int32)) u0 u1 u2 u3 u4)), .val (.ref (routeF ((p2 &&& (2147483647 : Int32)) % (3 : Int32)) r0 r1 r2)), .val (.int (expF ((p1 &&& (2147483647 : Int32)) % (5 : Int32)) ((p2 &&& (2147483647 : Int32)) % (3 : Int32)))), .val (.int (1 : Int32)), .unset] [(.ref (routeF ((p2 &&& (2147483647 : Int32)) % (3 : Int32)) r0 r1 r2)), (.ref (polF ((p1 &&& (2147483647 : Int32)) % (5 : Int32)) u0 u1 u2 u3 u4))])) rfl (by rw [hml]; rfl) (Steps.refl _) (argsL := [(.ref (routeF ((p2 &&& (2147483647 : Int32)) % (3 : Int32)) r0 r1 r2))]) (rest := []) (lenOf pd0_3 rfl) rfl (by show 2 * 0 + _ ≤ _; exact Nat.le_of_eq rfl) (hb hby at_157) (fun _ _ => ⟨rfl, e34, (by decide : 0 + 0 ≤ _), (by decide : 0 + 0 ≤ _)⟩)
            dsimp only [Pt.U, Pt.locs, Pt.cells, Pt.slots] at X37 l37 y37 z37 st37 hQ37
            subst l37 y37 z37
            obtain ⟨rfl, N37q, e37⟩ := hQ37
            have N37 := Fr.app N34 N37q
            have pre38 : ∀ tg_, Steps p.tables e below (T37.setTop (mkF m 181 #[.val (.int p1), .val (.int p2), .val (.int ((p1 &&& (2147483647 : Int32)) % (5 : Int32))), .val (.int ((p2 &&& (2147483647 : Int32)) % (3 : Int32))), .val (.ref (polF ((p1 &&& (2147483647 : Int32)) % (5 : Int32)) u0 u1 u2 u3 u4)), .val (.ref (routeF ((p2 &&& (2147483647 : Int32)) % (3 : Int32)) r0 r1 r2)), .val (.int (expF ((p1 &&& (2147483647 : Int32)) % (5 : Int32)) ((p2 &&& (2147483647 : Int32)) % (3 : Int32)))), .val (.int (1 : Int32)), .val (.int (usesF t0 t1 t2 t3 t4 t5 (routeF ((p2 &&& (2147483647 : Int32)) % (3 : Int32)) r0 r1 r2)))] [(.int (1 : Int32))])) tg_ → Steps p.tables e below (s₁.setTop (entryFrame m #[(.int p1), (.int p2)] maxLocals)) tg_ := by
              intro tg_ kt
              refine pre35 _ ?_
              show Steps p.tables e below (T34.setTop (mkF m 130 #[.val (.int p1), .val (.int p2), .val (.int ((p1 &&& (2147483647 : Int32)) % (5 : Int32))), .val (.int ((p2 &&& (2147483647 : Int32)) % (3 : Int32))), .val (.ref (polF ((p1 &&& (2147483647 : Int32)) % (5 : Int32)) u0 u1 u2 u3 u4)), .val (.ref (routeF ((p2 &&& (2147483647 : Int32)) % (3 : Int32)) r0 r1 r2)), .val (.int (expF ((p1 &&& (2147483647 : Int32)) % (5 : Int32)) ((p2 &&& (2147483647 : Int32)) % (3 : Int32)))), .unset, .unset] [(.ref (routeF ((p2 &&& (2147483647 : Int32)) % (3 : Int32)) r0 r1 r2)), (.ref t4)])) _
              refine XT.acmpYes X34.here hx rfl (pc0 := 130) (pc' := 146) rfl (hb hby at_130) rfl rfl rfl (XT.aa_eq_t (congrArg Value.ref hc130_36)) (by decide) (by decide) ?_
              show Steps p.tables e below (T34.setTop (mkF m 146 #[.val (.int p1), .val (.int p2), .val (.int ((p1 &&& (2147483647 : Int32)) % (5 : Int32))), .val (.int ((p2 &&& (2147483647 : Int32)) % (3 : Int32))), .val (.ref (polF ((p1 &&& (2147483647 : Int32)) % (5 : Int32)) u0 u1 u2 u3 u4)), .val (.ref (routeF ((p2 &&& (2147483647 : Int32)) % (3 : Int32)) r0 r1 r2)), .val (.int (expF ((p1 &&& (2147483647 : Int32)) % (5 : Int32)) ((p2 &&& (2147483647 : Int32)) % (3 : Int32)))), .unset, .unset] [])) _
              refine XS.iconst X34.here hx rfl (hb hby at_146) ?_
              show Steps p.tables e below (T34.setTop (mkF m 147 #[.val (.int p1), .val (.int p2), .val (.int ((p1 &&& (2147483647 : Int32)) % (5 : Int32))), .val (.int ((p2 &&& (2147483647 : Int32)) % (3 : Int32))), .val (.ref (polF ((p1 &&& (2147483647 : Int32)) % (5 : Int32)) u0 u1 u2 u3 u4)), .val (.ref (routeF ((p2 &&& (2147483647 : Int32)) % (3 : Int32)) r0 r1 r2)), .val (.int (expF ((p1 &&& (2147483647 : Int32)) % (5 : Int32)) ((p2 &&& (2147483647 : Int32)) % (3 : Int32)))), .unset, .unset] [(.int (1 : Int32))])) _
              refine XS.goto X34.here hx rfl (pc0 := 147) (pc' := 151) rfl (hb hby at_147) (by decide) (by decide) ?_
              show Steps p.tables e below (T34.setTop (mkF m 151 #[.val (.int p1), .val (.int p2), .val (.int ((p1 &&& (2147483647 : Int32)) % (5 : Int32))), .val (.int ((p2 &&& (2147483647 : Int32)) % (3 : Int32))), .val (.ref (polF ((p1 &&& (2147483647 : Int32)) % (5 : Int32)) u0 u1 u2 u3 u4)), .val (.ref (routeF ((p2 &&& (2147483647 : Int32)) % (3 : Int32)) r0 r1 r2)), .val (.int (expF ((p1 &&& (2147483647 : Int32)) % (5 : Int32)) ((p2 &&& (2147483647 : Int32)) % (3 : Int32)))), .unset, .unset] [(.int (1 : Int32))])) _
              refine XS.istore X34.here hx rfl (hb hby at_151) rfl (l' := #[.val (.int p1), .val (.int p2), .val (.int ((p1 &&& (2147483647 : Int32)) % (5 : Int32))), .val (.int ((p2 &&& (2147483647 : Int32)) % (3 : Int32))), .val (.ref (polF ((p1 &&& (2147483647 : Int32)) % (5 : Int32)) u0 u1 u2 u3 u4)), .val (.ref (routeF ((p2 &&& (2147483647 : Int32)) % (3 : Int32)) r0 r1 r2)), .val (.int (expF ((p1 &&& (2147483647 : Int32)) % (5 : Int32)) ((p2 &&& (2147483647 : Int32)) % (3 : Int32)))), .val (.int (1 : Int32)), .unset]) rfl ?_
              show Steps p.tables e below (T34.setTop (mkF m 153 #[.val (.int p1), .val (.int p2), .val (.int ((p1 &&& (2147483647 : Int32)) % (5 : Int32))), .val (.int ((p2 &&& (2147483647 : Int32)) % (3 : Int32))), .val (.ref (polF ((p1 &&& (2147483647 : Int32)) % (5 : Int32)) u0 u1 u2 u3 u4)), .val (.ref (routeF ((p2 &&& (2147483647 : Int32)) % (3 : Int32)) r0 r1 r2)), .val (.int (expF ((p1 &&& (2147483647 : Int32)) % (5 : Int32)) ((p2 &&& (2147483647 : Int32)) % (3 : Int32)))), .val (.int (1 : Int32)), .unset] [])) _
              refine XS.aload X34.here hx rfl (hb hby at_153) rfl rfl ?_
              show Steps p.tables e below (T34.setTop (mkF m 155 #[.val (.int p1), .val (.int p2), .val (.int ((p1 &&& (2147483647 : Int32)) % (5 : Int32))), .val (.int ((p2 &&& (2147483647 : Int32)) % (3 : Int32))), .val (.ref (polF ((p1 &&& (2147483647 : Int32)) % (5 : Int32)) u0 u1 u2 u3 u4)), .val (.ref (routeF ((p2 &&& (2147483647 : Int32)) % (3 : Int32)) r0 r1 r2)), .val (.int (expF ((p1 &&& (2147483647 : Int32)) % (5 : Int32)) ((p2 &&& (2147483647 : Int32)) % (3 : Int32)))), .val (.int (1 : Int32)), .unset] [(.ref (polF ((p1 &&& (2147483647 : Int32)) % (5 : Int32)) u0 u1 u2 u3 u4))])) _
              refine XS.aload X34.here hx rfl (hb hby at_155) rfl rfl ?_
              show Steps p.tables e below (T34.setTop (mkF m 157 #[.val (.int p1), .val (.int p2), .val (.int ((p1 &&& (2147483647 : Int32)) % (5 : Int32))), .val (.int ((p2 &&& (2147483647 : Int32)) % (3 : Int32))), .val (.ref (polF ((p1 &&& (2147483647 : Int32)) % (5 : Int32)) u0 u1 u2 u3 u4)), .val (.ref (routeF ((p2 &&& (2147483647 : Int32)) % (3 : Int32)) r0 r1 r2)), .val (.int (expF ((p1 &&& (2147483647 : Int32)) % (5 : Int32)) ((p2 &&& (2147483647 : Int32)) % (3 : Int32)))), .val (.int (1 : Int32)), .unset] [(.ref (routeF ((p2 &&& (2147483647 : Int32)) % (3 : Int32)) r0 r1 r2)), (.ref (polF ((p1 &&& (2147483647 : Int32)) % (5 : Int32)) u0 u1 u2 u3 u4))])) _
              refine st37.trans ?_
              show Steps p.tables e below (T37.setTop (mkF m 160 #[.val (.int p1), .val (.int p2), .val (.int ((p1 &&& (2147483647 : Int32)) % (5 : Int32))), .val (.int ((p2 &&& (2147483647 : Int32)) % (3 : Int32))), .val (.ref (polF ((p1 &&& (2147483647 : Int32)) % (5 : Int32)) u0 u1 u2 u3 u4)), .val (.ref (routeF ((p2 &&& (2147483647 : Int32)) % (3 : Int32)) r0 r1 r2)), .val (.int (expF ((p1 &&& (2147483647 : Int32)) % (5 : Int32)) ((p2 &&& (2147483647 : Int32)) % (3 : Int32)))), .val (.int (1 : Int32)), .unset] [(.int (usesF t0 t1 t2 t3 t4 t5 (routeF ((p2 &&& (2147483647 : Int32)) % (3 : Int32)) r0 r1 r2)))])) _
              refine XS.istore X37.here hx rfl (hb hby at_160) rfl (l' := #[.val (.int p1), .val (.int p2), .val (.int ((p1 &&& (2147483647 : Int32)) % (5 : Int32))), .val (.int ((p2 &&& (2147483647 : Int32)) % (3 : Int32))), .val (.ref (polF ((p1 &&& (2147483647 : Int32)) % (5 : Int32)) u0 u1 u2 u3 u4)), .val (.ref (routeF ((p2 &&& (2147483647 : Int32)) % (3 : Int32)) r0 r1 r2)), .val (.int (expF ((p1 &&& (2147483647 : Int32)) % (5 : Int32)) ((p2 &&& (2147483647 : Int32)) % (3 : Int32)))), .val (.int (1 : Int32)), .val (.int (usesF t0 t1 t2 t3 t4 t5 (routeF ((p2 &&& (2147483647 : Int32)) % (3 : Int32)) r0 r1 r2)))]) rfl ?_
              show Steps p.tables e below (T37.setTop (mkF m 162 #[.val (.int p1), .val (.int p2), .val (.int ((p1 &&& (2147483647 : Int32)) % (5 : Int32))), .val (.int ((p2 &&& (2147483647 : Int32)) % (3 : Int32))), .val (.ref (polF ((p1 &&& (2147483647 : Int32)) % (5 : Int32)) u0 u1 u2 u3 u4)), .val (.ref (routeF ((p2 &&& (2147483647 : Int32)) % (3 : Int32)) r0 r1 r2)), .val (.int (expF ((p1 &&& (2147483647 : Int32)) % (5 : Int32)) ((p2 &&& (2147483647 : Int32)) % (3 : Int32)))), .val (.int (1 : Int32)), .val (.int (usesF t0 t1 t2 t3 t4 t5 (routeF ((p2 &&& (2147483647 : Int32)) % (3 : Int32)) r0 r1 r2)))] [])) _
              refine XS.iload X37.here hx rfl (hb hby at_162) rfl ?_
              show Steps p.tables e below (T37.setTop (mkF m 164 #[.val (.int p1), .val (.int p2), .val (.int ((p1 &&& (2147483647 : Int32)) % (5 : Int32))), .val (.int ((p2 &&& (2147483647 : Int32)) % (3 : Int32))), .val (.ref (polF ((p1 &&& (2147483647 : Int32)) % (5 : Int32)) u0 u1 u2 u3 u4)), .val (.ref (routeF ((p2 &&& (2147483647 : Int32)) % (3 : Int32)) r0 r1 r2)), .val (.int (expF ((p1 &&& (2147483647 : Int32)) % (5 : Int32)) ((p2 &&& (2147483647 : Int32)) % (3 : Int32)))), .val (.int (1 : Int32)), .val (.int (usesF t0 t1 t2 t3 t4 t5 (routeF ((p2 &&& (2147483647 : Int32)) % (3 : Int32)) r0 r1 r2)))] [(.int (usesF t0 t1 t2 t3 t4 t5 (routeF ((p2 &&& (2147483647 : Int32)) % (3 : Int32)) r0 r1 r2)))])) _
              refine XS.iload X37.here hx rfl (hb hby at_164) rfl ?_
              show Steps p.tables e below (T37.setTop (mkF m 166 #[.val (.int p1), .val (.int p2), .val (.int ((p1 &&& (2147483647 : Int32)) % (5 : Int32))), .val (.int ((p2 &&& (2147483647 : Int32)) % (3 : Int32))), .val (.ref (polF ((p1 &&& (2147483647 : Int32)) % (5 : Int32)) u0 u1 u2 u3 u4)), .val (.ref (routeF ((p2 &&& (2147483647 : Int32)) % (3 : Int32)) r0 r1 r2)), .val (.int (expF ((p1 &&& (2147483647 : Int32)) % (5 : Int32)) ((p2 &&& (2147483647 : Int32)) % (3 : Int32)))), .val (.int (1 : Int32)), .val (.int (usesF t0 t1 t2 t3 t4 t5 (routeF ((p2 &&& (2147483647 : Int32)) % (3 : Int32)) r0 r1 r2)))] [(.int (expF ((p1 &&& (2147483647 : Int32)) % (5 : Int32)) ((p2 &&& (2147483647 : Int32)) % (3 : Int32)))), (.int (usesF t0 t1 t2 t3 t4 t5 (routeF ((p2 &&& (2147483647 : Int32)) % (3 : Int32)) r0 r1 r2)))])) _
              refine XS.icmpNo X37.here hx rfl (hb hby at_166) rfl (XT.ii_ne_f hEq) ?_
              show Steps p.tables e below (T37.setTop (mkF m 169 #[.val (.int p1), .val (.int p2), .val (.int ((p1 &&& (2147483647 : Int32)) % (5 : Int32))), .val (.int ((p2 &&& (2147483647 : Int32)) % (3 : Int32))), .val (.ref (polF ((p1 &&& (2147483647 : Int32)) % (5 : Int32)) u0 u1 u2 u3 u4)), .val (.ref (routeF ((p2 &&& (2147483647 : Int32)) % (3 : Int32)) r0 r1 r2)), .val (.int (expF ((p1 &&& (2147483647 : Int32)) % (5 : Int32)) ((p2 &&& (2147483647 : Int32)) % (3 : Int32)))), .val (.int (1 : Int32)), .val (.int (usesF t0 t1 t2 t3 t4 t5 (routeF ((p2 &&& (2147483647 : Int32)) % (3 : Int32)) r0 r1 r2)))] [])) _
              refine XS.iload X37.here hx rfl (hb hby at_169) rfl ?_
              show Steps p.tables e below (T37.setTop (mkF m 171 #[.val (.int p1), .val (.int p2), .val (.int ((p1 &&& (2147483647 : Int32)) % (5 : Int32))), .val (.int ((p2 &&& (2147483647 : Int32)) % (3 : Int32))), .val (.ref (polF ((p1 &&& (2147483647 : Int32)) % (5 : Int32)) u0 u1 u2 u3 u4)), .val (.ref (routeF ((p2 &&& (2147483647 : Int32)) % (3 : Int32)) r0 r1 r2)), .val (.int (expF ((p1 &&& (2147483647 : Int32)) % (5 : Int32)) ((p2 &&& (2147483647 : Int32)) % (3 : Int32)))), .val (.int (1 : Int32)), .val (.int (usesF t0 t1 t2 t3 t4 t5 (routeF ((p2 &&& (2147483647 : Int32)) % (3 : Int32)) r0 r1 r2)))] [(.int (usesF t0 t1 t2 t3 t4 t5 (routeF ((p2 &&& (2147483647 : Int32)) % (3 : Int32)) r0 r1 r2)))])) _
              refine XS.iload X37.here hx rfl (hb hby at_171) rfl ?_
              show Steps p.tables e below (T37.setTop (mkF m 173 #[.val (.int p1), .val (.int p2), .val (.int ((p1 &&& (2147483647 : Int32)) % (5 : Int32))), .val (.int ((p2 &&& (2147483647 : Int32)) % (3 : Int32))), .val (.ref (polF ((p1 &&& (2147483647 : Int32)) % (5 : Int32)) u0 u1 u2 u3 u4)), .val (.ref (routeF ((p2 &&& (2147483647 : Int32)) % (3 : Int32)) r0 r1 r2)), .val (.int (expF ((p1 &&& (2147483647 : Int32)) % (5 : Int32)) ((p2 &&& (2147483647 : Int32)) % (3 : Int32)))), .val (.int (1 : Int32)), .val (.int (usesF t0 t1 t2 t3 t4 t5 (routeF ((p2 &&& (2147483647 : Int32)) % (3 : Int32)) r0 r1 r2)))] [(.int (1 : Int32)), (.int (usesF t0 t1 t2 t3 t4 t5 (routeF ((p2 &&& (2147483647 : Int32)) % (3 : Int32)) r0 r1 r2)))])) _
              refine XS.icmpNo X37.here hx rfl (hb hby at_173) rfl (XT.ii_ne_f (by simp [usesF, hc78_12, hc91_18, hc104_24, hc117_30, hc130_36])) ?_
              show Steps p.tables e below (T37.setTop (mkF m 176 #[.val (.int p1), .val (.int p2), .val (.int ((p1 &&& (2147483647 : Int32)) % (5 : Int32))), .val (.int ((p2 &&& (2147483647 : Int32)) % (3 : Int32))), .val (.ref (polF ((p1 &&& (2147483647 : Int32)) % (5 : Int32)) u0 u1 u2 u3 u4)), .val (.ref (routeF ((p2 &&& (2147483647 : Int32)) % (3 : Int32)) r0 r1 r2)), .val (.int (expF ((p1 &&& (2147483647 : Int32)) % (5 : Int32)) ((p2 &&& (2147483647 : Int32)) % (3 : Int32)))), .val (.int (1 : Int32)), .val (.int (usesF t0 t1 t2 t3 t4 t5 (routeF ((p2 &&& (2147483647 : Int32)) % (3 : Int32)) r0 r1 r2)))] [])) _
              refine XS.iconst X37.here hx rfl (hb hby at_176) ?_
              show Steps p.tables e below (T37.setTop (mkF m 177 #[.val (.int p1), .val (.int p2), .val (.int ((p1 &&& (2147483647 : Int32)) % (5 : Int32))), .val (.int ((p2 &&& (2147483647 : Int32)) % (3 : Int32))), .val (.ref (polF ((p1 &&& (2147483647 : Int32)) % (5 : Int32)) u0 u1 u2 u3 u4)), .val (.ref (routeF ((p2 &&& (2147483647 : Int32)) % (3 : Int32)) r0 r1 r2)), .val (.int (expF ((p1 &&& (2147483647 : Int32)) % (5 : Int32)) ((p2 &&& (2147483647 : Int32)) % (3 : Int32)))), .val (.int (1 : Int32)), .val (.int (usesF t0 t1 t2 t3 t4 t5 (routeF ((p2 &&& (2147483647 : Int32)) % (3 : Int32)) r0 r1 r2)))] [(.int (1 : Int32))])) _
              refine XS.goto X37.here hx rfl (pc0 := 177) (pc' := 181) rfl (hb hby at_177) (by decide) (by decide) ?_
              exact kt
            obtain ⟨fs, hr, hrun, hended, hW, hsame⟩ := X37.leave (v := some (.int (1 : Int32))) (fun h => by rw [Bd.returns] at h; cases h)
            refine ⟨_, _, pre38 _ ?_, hrun, hended, _, _, rfl, ?_, ⟨_, rfl⟩, hW, hsame.mono (by decide) (by decide)⟩
            · show Steps p.tables e below (T37.setTop (mkF m 181 #[.val (.int p1), .val (.int p2), .val (.int ((p1 &&& (2147483647 : Int32)) % (5 : Int32))), .val (.int ((p2 &&& (2147483647 : Int32)) % (3 : Int32))), .val (.ref (polF ((p1 &&& (2147483647 : Int32)) % (5 : Int32)) u0 u1 u2 u3 u4)), .val (.ref (routeF ((p2 &&& (2147483647 : Int32)) % (3 : Int32)) r0 r1 r2)), .val (.int (expF ((p1 &&& (2147483647 : Int32)) % (5 : Int32)) ((p2 &&& (2147483647 : Int32)) % (3 : Int32)))), .val (.int (1 : Int32)), .val (.int (usesF t0 t1 t2 t3 t4 t5 (routeF ((p2 &&& (2147483647 : Int32)) % (3 : Int32)) r0 r1 r2)))] [(.int (1 : Int32))])) _
              exact retN X37 hx (t := .boolean) Bd.returns (by simp) (hb hby at_181) hr
            · show Q1 Z (.int 1) h0 n0 _ T37.heap _
              rw [e37]
              exact ⟨rfl, N37, rfl⟩
          · obtain ⟨T39, X39, e39, st39⟩ := getS2 X34 hx hZ hown (host := "") (Or.inl (hw _ (List.mem_of_getElem? (i := 54) rfl))) Via.refl e34 S_CAUGHT (g := (mkF m 135 #[.val (.int p1), .val (.int p2), .val (.int ((p1 &&& (2147483647 : Int32)) % (5 : Int32))), .val (.int ((p2 &&& (2147483647 : Int32)) % (3 : Int32))), .val (.ref (polF ((p1 &&& (2147483647 : Int32)) % (5 : Int32)) u0 u1 u2 u3 u4)), .val (.ref (routeF ((p2 &&& (2147483647 : Int32)) % (3 : Int32)) r0 r1 r2)), .val (.int (expF ((p1 &&& (2147483647 : Int32)) % (5 : Int32)) ((p2 &&& (2147483647 : Int32)) % (3 : Int32)))), .unset, .unset] [(.ref (polF ((p1 &&& (2147483647 : Int32)) % (5 : Int32)) u0 u1 u2 u3 u4))])) rfl (hb hby at_135)
            obtain ⟨cq40, kq40, q40a, q40b, q40c⟩ := isOf hZ e39 Ep
            obtain ⟨_, _, ⟨T40, L40, k40, n40⟩, -, X40, ⟨Lc40, hQ40, l40, y40, z40⟩, st40⟩ := X39.virtualBack hx (y := (⟨"com/example/hawtip/hawtip/dispatch/Policy", "route", "(Lcom/example/hawtip/hawtip/dispatch/Event;)Lcom/example/hawtip/hawtip/dispatch/Policy$Route;"⟩ : MethodName)) (z := (⟨"com/example/hawtip/hawtip/dispatch/Policy", "route", "(Lcom/example/hawtip/hawtip/dispatch/Event;)Lcom/example/hawtip/hawtip/dispatch/Policy$Route;"⟩ : MethodName)) hown (mvT hZ (hw _ (List.mem_of_getElem? (i := 17) rfl))) (mvT hZ (hw _ (List.mem_of_getElem? (i := 18) rfl))) (notFace_of_selects (args := #[]) (mvT hZ (hw _ (List.mem_of_getElem? (i := 20) rfl)))) (mvT hZ (hw _ (List.mem_of_getElem? (i := 20) rfl))) (mvT hZ (hw _ (List.mem_of_getElem? (i := 19) rfl))) (by decide) (backOf (W := 0) (rm4 l Z a0 hw [] (polF ((p1 &&& (2147483647 : Int32)) % (5 : Int32)) u0 u1 u2 u3 u4) v5 ra t5 5 cl h0 n0 Z0 Fr_ Fo5 Ev5 Ar El5) hZ (hw _ (List.mem_of_getElem? (i := 21) rfl)) (hw _ (List.mem_of_getElem? (i := 6) rfl)) (by decide) (by decide)) q40a q40c (g := (mkF m 138 #[.val (.int p1), .val (.int p2), .val (.int ((p1 &&& (2147483647 : Int32)) % (5 : Int32))), .val (.int ((p2 &&& (2147483647 : Int32)) % (3 : Int32))), .val (.ref (polF ((p1 &&& (2147483647 : Int32)) % (5 : Int32)) u0 u1 u2 u3 u4)), .val (.ref (routeF ((p2 &&& (2147483647 : Int32)) % (3 : Int32)) r0 r1 r2)), .val (.int (expF ((p1 &&& (2147483647 : Int32)) % (5 : Int32)) ((p2 &&& (2147483647 : Int32)) % (3 : Int32)))), .unset, .unset] [(.ref v5), (.ref (polF ((p1 &&& (2147483647 : Int32)) % (5 : Int32)) u0 u1 u2 u3 u4))])) rfl (by rw [hml]; rfl) (Steps.refl _) (argsL := [(.ref v5)]) (rest := []) (lenOf pd0_2 rfl) rfl (by show 2 * 0 + _ ≤ _; exact Nat.le_of_eq rfl) (hb hby at_138) (fun _ _ => ⟨rfl, e39, (by decide : 0 + 0 ≤ _), (by decide : 0 + 0 ≤ _)⟩)
            dsimp only [Pt.U, Pt.locs, Pt.cells, Pt.slots] at X40 l40 y40 z40 st40 hQ40
            subst l40 y40 z40
            obtain ⟨rfl, N40q, e40⟩ := hQ40
            have N40 := Fr.app N34 N40q
            have pre41 : ∀ tg_, Steps p.tables e below (T40.setTop (mkF m 143 #[.val (.int p1), .val (.int p2), .val (.int ((p1 &&& (2147483647 : Int32)) % (5 : Int32))), .val (.int ((p2 &&& (2147483647 : Int32)) % (3 : Int32))), .val (.ref (polF ((p1 &&& (2147483647 : Int32)) % (5 : Int32)) u0 u1 u2 u3 u4)), .val (.ref (routeF ((p2 &&& (2147483647 : Int32)) % (3 : Int32)) r0 r1 r2)), .val (.int (expF ((p1 &&& (2147483647 : Int32)) % (5 : Int32)) ((p2 &&& (2147483647 : Int32)) % (3 : Int32)))), .unset, .unset] [(.ref (routeF ((p2 &&& (2147483647 : Int32)) % (3 : Int32)) r0 r1 r2)), (.ref t5)])) tg_ → Steps p.tables e below (s₁.setTop (entryFrame m #[(.int p1), (.int p2)] maxLocals)) tg_ := by
              intro tg_ kt
              refine pre35 _ ?_
              show Steps p.tables e below (T34.setTop (mkF m 130 #[.val (.int p1), .val (.int p2), .val (.int ((p1 &&& (2147483647 : Int32)) % (5 : Int32))), .val (.int ((p2 &&& (2147483647 : Int32)) % (3 : Int32))), .val (.ref (polF ((p1 &&& (2147483647 : Int32)) % (5 : Int32)) u0 u1 u2 u3 u4)), .val (.ref (routeF ((p2 &&& (2147483647 : Int32)) % (3 : Int32)) r0 r1 r2)), .val (.int (expF ((p1 &&& (2147483647 : Int32)) % (5 : Int32)) ((p2 &&& (2147483647 : Int32)) % (3 : Int32)))), .unset, .unset] [(.ref (routeF ((p2 &&& (2147483647 : Int32)) % (3 : Int32)) r0 r1 r2)), (.ref t4)])) _
              refine XT.acmpNo X34.here hx rfl (hb hby at_130) rfl rfl rfl (XT.aa_eq_f (fun q => hc130_36 (Value.ref.inj q))) ?_
              show Steps p.tables e below (T34.setTop (mkF m 133 #[.val (.int p1), .val (.int p2), .val (.int ((p1 &&& (2147483647 : Int32)) % (5 : Int32))), .val (.int ((p2 &&& (2147483647 : Int32)) % (3 : Int32))), .val (.ref (polF ((p1 &&& (2147483647 : Int32)) % (5 : Int32)) u0 u1 u2 u3 u4)), .val (.ref (routeF ((p2 &&& (2147483647 : Int32)) % (3 : Int32)) r0 r1 r2)), .val (.int (expF ((p1 &&& (2147483647 : Int32)) % (5 : Int32)) ((p2 &&& (2147483647 : Int32)) % (3 : Int32)))), .unset, .unset] [])) _
              refine XS.aload X34.here hx rfl (hb hby at_133) rfl rfl ?_
              show Steps p.tables e below (T34.setTop (mkF m 135 #[.val (.int p1), .val (.int p2), .val (.int ((p1 &&& (2147483647 : Int32)) % (5 : Int32))), .val (.int ((p2 &&& (2147483647 : Int32)) % (3 : Int32))), .val (.ref (polF ((p1 &&& (2147483647 : Int32)) % (5 : Int32)) u0 u1 u2 u3 u4)), .val (.ref (routeF ((p2 &&& (2147483647 : Int32)) % (3 : Int32)) r0 r1 r2)), .val (.int (expF ((p1 &&& (2147483647 : Int32)) % (5 : Int32)) ((p2 &&& (2147483647 : Int32)) % (3 : Int32)))), .unset, .unset] [(.ref (polF ((p1 &&& (2147483647 : Int32)) % (5 : Int32)) u0 u1 u2 u3 u4))])) _
              refine st39 _ ?_
              show Steps p.tables e below (T39.setTop (mkF m 138 #[.val (.int p1), .val (.int p2), .val (.int ((p1 &&& (2147483647 : Int32)) % (5 : Int32))), .val (.int ((p2 &&& (2147483647 : Int32)) % (3 : Int32))), .val (.ref (polF ((p1 &&& (2147483647 : Int32)) % (5 : Int32)) u0 u1 u2 u3 u4)), .val (.ref (routeF ((p2 &&& (2147483647 : Int32)) % (3 : Int32)) r0 r1 r2)), .val (.int (expF ((p1 &&& (2147483647 : Int32)) % (5 : Int32)) ((p2 &&& (2147483647 : Int32)) % (3 : Int32)))), .unset, .unset] [(.ref v5), (.ref (polF ((p1 &&& (2147483647 : Int32)) % (5 : Int32)) u0 u1 u2 u3 u4))])) _
              refine st40.trans ?_
              show Steps p.tables e below (T40.setTop (mkF m 141 #[.val (.int p1), .val (.int p2), .val (.int ((p1 &&& (2147483647 : Int32)) % (5 : Int32))), .val (.int ((p2 &&& (2147483647 : Int32)) % (3 : Int32))), .val (.ref (polF ((p1 &&& (2147483647 : Int32)) % (5 : Int32)) u0 u1 u2 u3 u4)), .val (.ref (routeF ((p2 &&& (2147483647 : Int32)) % (3 : Int32)) r0 r1 r2)), .val (.int (expF ((p1 &&& (2147483647 : Int32)) % (5 : Int32)) ((p2 &&& (2147483647 : Int32)) % (3 : Int32)))), .unset, .unset] [(.ref t5)])) _
              refine XS.aload X40.here hx rfl (hb hby at_141) rfl rfl ?_
              exact kt
            by_cases hc143_42 : t5 = (routeF ((p2 &&& (2147483647 : Int32)) % (3 : Int32)) r0 r1 r2)
            · obtain ⟨cq43, kq43, q43a, q43b, q43c⟩ := isOf hZ e40 Ep
              obtain ⟨_, _, ⟨T43, L43, k43, n43⟩, -, X43, ⟨Lc43, hQ43, l43, y43, z43⟩, st43⟩ := X40.virtualBack hx (y := (⟨"com/example/hawtip/hawtip/dispatch/Policy", "uses", "(Lcom/example/hawtip/hawtip/dispatch/Policy$Route;)Z"⟩ : MethodName)) (z := (⟨"com/example/hawtip/hawtip/dispatch/Policy", "uses", "(Lcom/example/hawtip/hawtip/dispatch/Policy$Route;)Z"⟩ : MethodName)) hown (mvT hZ (hw _ (List.mem_of_getElem? (i := 38) rfl))) (mvT hZ (hw _ (List.mem_of_getElem? (i := 39) rfl))) (notFace_of_selects (args := #[]) (mvT hZ (hw _ (List.mem_of_getElem? (i := 41) rfl)))) (mvT hZ (hw _ (List.mem_of_getElem? (i := 41) rfl))) (mvT hZ (hw _ (List.mem_of_getElem? (i := 40) rfl))) (by decide) (backOf (W := 0) (rm5 l Z a0 hw [] (polF ((p1 &&& (2147483647 : Int32)) % (5 : Int32)) u0 u1 u2 u3 u4) (routeF ((p2 &&& (2147483647 : Int32)) % (3 : Int32)) r0 r1 r2) ra t0 t1 t2 t3 t4 t5 cl h0 n0 Z0 Fr_ Ar hlen El0 El1 El2 El3 El4 El5) hZ (hw _ (List.mem_of_getElem? (i := 42) rfl)) (hw _ (List.mem_of_getElem? (i := 6) rfl)) (by decide) (by decide)) q43a q43c (g := (mkF m 157 #[.val (.int p1), .val (.int p2), .val (.int ((p1 &&& (2147483647 : Int32)) % (5 : Int32))), .val (.int ((p2 &&& (2147483647 : Int32)) % (3 : Int32))), .val (.ref (polF ((p1 &&& (2147483647 : Int32)) % (5 : Int32)) u0 u1 u2 u3 u4)), .val (.ref (routeF ((p2 &&& (2147483647 : Int32)) % (3 : Int32)) r0 r1 r2)), .val (.int (expF ((p1 &&& (2147483647 : Int32)) % (5 : Int32)) ((p2 &&& (2147483647 : Int32)) % (3 : Int32)))), .val (.int (1 : Int32)), .unset] [(.ref (routeF ((p2 &&& (2147483647 : Int32)) % (3 : Int32)) r0 r1 r2)), (.ref (polF ((p1 &&& (2147483647 : Int32)) % (5 : Int32)) u0 u1 u2 u3 u4))])) rfl (by rw [hml]; rfl) (Steps.refl _) (argsL := [(.ref (routeF ((p2 &&& (2147483647 : Int32)) % (3 : Int32)) r0 r1 r2))]) (rest := []) (lenOf pd0_3 rfl) rfl (by show 2 * 0 + _ ≤ _; exact Nat.le_of_eq rfl) (hb hby at_157) (fun _ _ => ⟨rfl, e40, (by decide : 0 + 0 ≤ _), (by decide : 0 + 0 ≤ _)⟩)
              dsimp only [Pt.U, Pt.locs, Pt.cells, Pt.slots] at X43 l43 y43 z43 st43 hQ43
              subst l43 y43 z43
              obtain ⟨rfl, N43q, e43⟩ := hQ43
              have N43 := Fr.app N40 N43q
              have pre44 : ∀ tg_, Steps p.tables e below (T43.setTop (mkF m 181 #[.val (.int p1), .val (.int p2), .val (.int ((p1 &&& (2147483647 : Int32)) % (5 : Int32))), .val (.int ((p2 &&& (2147483647 : Int32)) % (3 : Int32))), .val (.ref (polF ((p1 &&& (2147483647 : Int32)) % (5 : Int32)) u0 u1 u2 u3 u4)), .val (.ref (routeF ((p2 &&& (2147483647 : Int32)) % (3 : Int32)) r0 r1 r2)), .val (.int (expF ((p1 &&& (2147483647 : Int32)) % (5 : Int32)) ((p2 &&& (2147483647 : Int32)) % (3 : Int32)))), .val (.int (1 : Int32)), .val (.int (usesF t0 t1 t2 t3 t4 t5 (routeF ((p2 &&& (2147483647 : Int32)) % (3 : Int32)) r0 r1 r2)))] [(.int (1 : Int32))])) tg_ → Steps p.tables e below (s₁.setTop (entryFrame m #[(.int p1), (.int p2)] maxLocals)) tg_ := by
                intro tg_ kt
                refine pre41 _ ?_
                show Steps p.tables e below (T40.setTop (mkF m 143 #[.val (.int p1), .val (.int p2), .val (.int ((p1 &&& (2147483647 : Int32)) % (5 : Int32))), .val (.int ((p2 &&& (2147483647 : Int32)) % (3 : Int32))), .val (.ref (polF ((p1 &&& (2147483647 : Int32)) % (5 : Int32)) u0 u1 u2 u3 u4)), .val (.ref (routeF ((p2 &&& (2147483647 : Int32)) % (3 : Int32)) r0 r1 r2)), .val (.int (expF ((p1 &&& (2147483647 : Int32)) % (5 : Int32)) ((p2 &&& (2147483647 : Int32)) % (3 : Int32)))), .unset, .unset] [(.ref (routeF ((p2 &&& (2147483647 : Int32)) % (3 : Int32)) r0 r1 r2)), (.ref t5)])) _
                refine XT.acmpNo X40.here hx rfl (hb hby at_143) rfl rfl rfl (XT.aa_ne_f (congrArg Value.ref hc143_42)) ?_
                show Steps p.tables e below (T40.setTop (mkF m 146 #[.val (.int p1), .val (.int p2), .val (.int ((p1 &&& (2147483647 : Int32)) % (5 : Int32))), .val (.int ((p2 &&& (2147483647 : Int32)) % (3 : Int32))), .val (.ref (polF ((p1 &&& (2147483647 : Int32)) % (5 : Int32)) u0 u1 u2 u3 u4)), .val (.ref (routeF ((p2 &&& (2147483647 : Int32)) % (3 : Int32)) r0 r1 r2)), .val (.int (expF ((p1 &&& (2147483647 : Int32)) % (5 : Int32)) ((p2 &&& (2147483647 : Int32)) % (3 : Int32)))), .unset, .unset] [])) _
                refine XS.iconst X40.here hx rfl (hb hby at_146) ?_
                show Steps p.tables e below (T40.setTop (mkF m 147 #[.val (.int p1), .val (.int p2), .val (.int ((p1 &&& (2147483647 : Int32)) % (5 : Int32))), .val (.int ((p2 &&& (2147483647 : Int32)) % (3 : Int32))), .val (.ref (polF ((p1 &&& (2147483647 : Int32)) % (5 : Int32)) u0 u1 u2 u3 u4)), .val (.ref (routeF ((p2 &&& (2147483647 : Int32)) % (3 : Int32)) r0 r1 r2)), .val (.int (expF ((p1 &&& (2147483647 : Int32)) % (5 : Int32)) ((p2 &&& (2147483647 : Int32)) % (3 : Int32)))), .unset, .unset] [(.int (1 : Int32))])) _
                refine XS.goto X40.here hx rfl (pc0 := 147) (pc' := 151) rfl (hb hby at_147) (by decide) (by decide) ?_
                show Steps p.tables e below (T40.setTop (mkF m 151 #[.val (.int p1), .val (.int p2), .val (.int ((p1 &&& (2147483647 : Int32)) % (5 : Int32))), .val (.int ((p2 &&& (2147483647 : Int32)) % (3 : Int32))), .val (.ref (polF ((p1 &&& (2147483647 : Int32)) % (5 : Int32)) u0 u1 u2 u3 u4)), .val (.ref (routeF ((p2 &&& (2147483647 : Int32)) % (3 : Int32)) r0 r1 r2)), .val (.int (expF ((p1 &&& (2147483647 : Int32)) % (5 : Int32)) ((p2 &&& (2147483647 : Int32)) % (3 : Int32)))), .unset, .unset] [(.int (1 : Int32))])) _
                refine XS.istore X40.here hx rfl (hb hby at_151) rfl (l' := #[.val (.int p1), .val (.int p2), .val (.int ((p1 &&& (2147483647 : Int32)) % (5 : Int32))), .val (.int ((p2 &&& (2147483647 : Int32)) % (3 : Int32))), .val (.ref (polF ((p1 &&& (2147483647 : Int32)) % (5 : Int32)) u0 u1 u2 u3 u4)), .val (.ref (routeF ((p2 &&& (2147483647 : Int32)) % (3 : Int32)) r0 r1 r2)), .val (.int (expF ((p1 &&& (2147483647 : Int32)) % (5 : Int32)) ((p2 &&& (2147483647 : Int32)) % (3 : Int32)))), .val (.int (1 : Int32)), .unset]) rfl ?_
                show Steps p.tables e below (T40.setTop (mkF m 153 #[.val (.int p1), .val (.int p2), .val (.int ((p1 &&& (2147483647 : Int32)) % (5 : Int32))), .val (.int ((p2 &&& (2147483647 : Int32)) % (3 : Int32))), .val (.ref (polF ((p1 &&& (2147483647 : Int32)) % (5 : Int32)) u0 u1 u2 u3 u4)), .val (.ref (routeF ((p2 &&& (2147483647 : Int32)) % (3 : Int32)) r0 r1 r2)), .val (.int (expF ((p1 &&& (2147483647 : Int32)) % (5 : Int32)) ((p2 &&& (2147483647 : Int32)) % (3 : Int32)))), .val (.int (1 : Int32)), .unset] [])) _
                refine XS.aload X40.here hx rfl (hb hby at_153) rfl rfl ?_
                show Steps p.tables e below (T40.setTop (mkF m 155 #[.val (.int p1), .val (.int p2), .val (.int ((p1 &&& (2147483647 : Int32)) % (5 : Int32))), .val (.int ((p2 &&& (2147483647 : Int32)) % (3 : Int32))), .val (.ref (polF ((p1 &&& (2147483647 : Int32)) % (5 : Int32)) u0 u1 u2 u3 u4)), .val (.ref (routeF ((p2 &&& (2147483647 : Int32)) % (3 : Int32)) r0 r1 r2)), .val (.int (expF ((p1 &&& (2147483647 : Int32)) % (5 : Int32)) ((p2 &&& (2147483647 : Int32)) % (3 : Int32)))), .val (.int (1 : Int32)), .unset] [(.ref (polF ((p1 &&& (2147483647 : Int32)) % (5 : Int32)) u0 u1 u2 u3 u4))])) _
                refine XS.aload X40.here hx rfl (hb hby at_155) rfl rfl ?_
                show Steps p.tables e below (T40.setTop (mkF m 157 #[.val (.int p1), .val (.int p2), .val (.int ((p1 &&& (2147483647 : Int32)) % (5 : Int32))), .val (.int ((p2 &&& (2147483647 : Int32)) % (3 : Int32))), .val (.ref (polF ((p1 &&& (2147483647 : Int32)) % (5 : Int32)) u0 u1 u2 u3 u4)), .val (.ref (routeF ((p2 &&& (2147483647 : Int32)) % (3 : Int32)) r0 r1 r2)), .val (.int (expF ((p1 &&& (2147483647 : Int32)) % (5 : Int32)) ((p2 &&& (2147483647 : Int32)) % (3 : Int32)))), .val (.int (1 : Int32)), .unset] [(.ref (routeF ((p2 &&& (2147483647 : Int32)) % (3 : Int32)) r0 r1 r2)), (.ref (polF ((p1 &&& (2147483647 : Int32)) % (5 : Int32)) u0 u1 u2 u3 u4))])) _
                refine st43.trans ?_
                show Steps p.tables e below (T43.setTop (mkF m 160 #[.val (.int p1), .val (.int p2), .val (.int ((p1 &&& (2147483647 : Int32)) % (5 : Int32))), .val (.int ((p2 &&& (2147483647 : Int32)) % (3 : Int32))), .val (.ref (polF ((p1 &&& (2147483647 : Int32)) % (5 : Int32)) u0 u1 u2 u3 u4)), .val (.ref (routeF ((p2 &&& (2147483647 : Int32)) % (3 : Int32)) r0 r1 r2)), .val (.int (expF ((p1 &&& (2147483647 : Int32)) % (5 : Int32)) ((p2 &&& (2147483647 : Int32)) % (3 : Int32)))), .val (.int (1 : Int32)), .unset] [(.int (usesF t0 t1 t2 t3 t4 t5 (routeF ((p2 &&& (2147483647 : Int32)) % (3 : Int32)) r0 r1 r2)))])) _
                refine XS.istore X43.here hx rfl (hb hby at_160) rfl (l' := #[.val (.int p1), .val (.int p2), .val (.int ((p1 &&& (2147483647 : Int32)) % (5 : Int32))), .val (.int ((p2 &&& (2147483647 : Int32)) % (3 : Int32))), .val (.ref (polF ((p1 &&& (2147483647 : Int32)) % (5 : Int32)) u0 u1 u2 u3 u4)), .val (.ref (routeF ((p2 &&& (2147483647 : Int32)) % (3 : Int32)) r0 r1 r2)), .val (.int (expF ((p1 &&& (2147483647 : Int32)) % (5 : Int32)) ((p2 &&& (2147483647 : Int32)) % (3 : Int32)))), .val (.int (1 : Int32)), .val (.int (usesF t0 t1 t2 t3 t4 t5 (routeF ((p2 &&& (2147483647 : Int32)) % (3 : Int32)) r0 r1 r2)))]) rfl ?_
                show Steps p.tables e below (T43.setTop (mkF m 162 #[.val (.int p1), .val (.int p2), .val (.int ((p1 &&& (2147483647 : Int32)) % (5 : Int32))), .val (.int ((p2 &&& (2147483647 : Int32)) % (3 : Int32))), .val (.ref (polF ((p1 &&& (2147483647 : Int32)) % (5 : Int32)) u0 u1 u2 u3 u4)), .val (.ref (routeF ((p2 &&& (2147483647 : Int32)) % (3 : Int32)) r0 r1 r2)), .val (.int (expF ((p1 &&& (2147483647 : Int32)) % (5 : Int32)) ((p2 &&& (2147483647 : Int32)) % (3 : Int32)))), .val (.int (1 : Int32)), .val (.int (usesF t0 t1 t2 t3 t4 t5 (routeF ((p2 &&& (2147483647 : Int32)) % (3 : Int32)) r0 r1 r2)))] [])) _
                refine XS.iload X43.here hx rfl (hb hby at_162) rfl ?_
                show Steps p.tables e below (T43.setTop (mkF m 164 #[.val (.int p1), .val (.int p2), .val (.int ((p1 &&& (2147483647 : Int32)) % (5 : Int32))), .val (.int ((p2 &&& (2147483647 : Int32)) % (3 : Int32))), .val (.ref (polF ((p1 &&& (2147483647 : Int32)) % (5 : Int32)) u0 u1 u2 u3 u4)), .val (.ref (routeF ((p2 &&& (2147483647 : Int32)) % (3 : Int32)) r0 r1 r2)), .val (.int (expF ((p1 &&& (2147483647 : Int32)) % (5 : Int32)) ((p2 &&& (2147483647 : Int32)) % (3 : Int32)))), .val (.int (1 : Int32)), .val (.int (usesF t0 t1 t2 t3 t4 t5 (routeF ((p2 &&& (2147483647 : Int32)) % (3 : Int32)) r0 r1 r2)))] [(.int (usesF t0 t1 t2 t3 t4 t5 (routeF ((p2 &&& (2147483647 : Int32)) % (3 : Int32)) r0 r1 r2)))])) _
                refine XS.iload X43.here hx rfl (hb hby at_164) rfl ?_
                show Steps p.tables e below (T43.setTop (mkF m 166 #[.val (.int p1), .val (.int p2), .val (.int ((p1 &&& (2147483647 : Int32)) % (5 : Int32))), .val (.int ((p2 &&& (2147483647 : Int32)) % (3 : Int32))), .val (.ref (polF ((p1 &&& (2147483647 : Int32)) % (5 : Int32)) u0 u1 u2 u3 u4)), .val (.ref (routeF ((p2 &&& (2147483647 : Int32)) % (3 : Int32)) r0 r1 r2)), .val (.int (expF ((p1 &&& (2147483647 : Int32)) % (5 : Int32)) ((p2 &&& (2147483647 : Int32)) % (3 : Int32)))), .val (.int (1 : Int32)), .val (.int (usesF t0 t1 t2 t3 t4 t5 (routeF ((p2 &&& (2147483647 : Int32)) % (3 : Int32)) r0 r1 r2)))] [(.int (expF ((p1 &&& (2147483647 : Int32)) % (5 : Int32)) ((p2 &&& (2147483647 : Int32)) % (3 : Int32)))), (.int (usesF t0 t1 t2 t3 t4 t5 (routeF ((p2 &&& (2147483647 : Int32)) % (3 : Int32)) r0 r1 r2)))])) _
                refine XS.icmpNo X43.here hx rfl (hb hby at_166) rfl (XT.ii_ne_f hEq) ?_
                show Steps p.tables e below (T43.setTop (mkF m 169 #[.val (.int p1), .val (.int p2), .val (.int ((p1 &&& (2147483647 : Int32)) % (5 : Int32))), .val (.int ((p2 &&& (2147483647 : Int32)) % (3 : Int32))), .val (.ref (polF ((p1 &&& (2147483647 : Int32)) % (5 : Int32)) u0 u1 u2 u3 u4)), .val (.ref (routeF ((p2 &&& (2147483647 : Int32)) % (3 : Int32)) r0 r1 r2)), .val (.int (expF ((p1 &&& (2147483647 : Int32)) % (5 : Int32)) ((p2 &&& (2147483647 : Int32)) % (3 : Int32)))), .val (.int (1 : Int32)), .val (.int (usesF t0 t1 t2 t3 t4 t5 (routeF ((p2 &&& (2147483647 : Int32)) % (3 : Int32)) r0 r1 r2)))] [])) _
                refine XS.iload X43.here hx rfl (hb hby at_169) rfl ?_
                show Steps p.tables e below (T43.setTop (mkF m 171 #[.val (.int p1), .val (.int p2), .val (.int ((p1 &&& (2147483647 : Int32)) % (5 : Int32))), .val (.int ((p2 &&& (2147483647 : Int32)) % (3 : Int32))), .val (.ref (polF ((p1 &&& (2147483647 : Int32)) % (5 : Int32)) u0 u1 u2 u3 u4)), .val (.ref (routeF ((p2 &&& (2147483647 : Int32)) % (3 : Int32)) r0 r1 r2)), .val (.int (expF ((p1 &&& (2147483647 : Int32)) % (5 : Int32)) ((p2 &&& (2147483647 : Int32)) % (3 : Int32)))), .val (.int (1 : Int32)), .val (.int (usesF t0 t1 t2 t3 t4 t5 (routeF ((p2 &&& (2147483647 : Int32)) % (3 : Int32)) r0 r1 r2)))] [(.int (usesF t0 t1 t2 t3 t4 t5 (routeF ((p2 &&& (2147483647 : Int32)) % (3 : Int32)) r0 r1 r2)))])) _
                refine XS.iload X43.here hx rfl (hb hby at_171) rfl ?_
                show Steps p.tables e below (T43.setTop (mkF m 173 #[.val (.int p1), .val (.int p2), .val (.int ((p1 &&& (2147483647 : Int32)) % (5 : Int32))), .val (.int ((p2 &&& (2147483647 : Int32)) % (3 : Int32))), .val (.ref (polF ((p1 &&& (2147483647 : Int32)) % (5 : Int32)) u0 u1 u2 u3 u4)), .val (.ref (routeF ((p2 &&& (2147483647 : Int32)) % (3 : Int32)) r0 r1 r2)), .val (.int (expF ((p1 &&& (2147483647 : Int32)) % (5 : Int32)) ((p2 &&& (2147483647 : Int32)) % (3 : Int32)))), .val (.int (1 : Int32)), .val (.int (usesF t0 t1 t2 t3 t4 t5 (routeF ((p2 &&& (2147483647 : Int32)) % (3 : Int32)) r0 r1 r2)))] [(.int (1 : Int32)), (.int (usesF t0 t1 t2 t3 t4 t5 (routeF ((p2 &&& (2147483647 : Int32)) % (3 : Int32)) r0 r1 r2)))])) _
                refine XS.icmpNo X43.here hx rfl (hb hby at_173) rfl (XT.ii_ne_f (by simp [usesF, hc78_12, hc91_18, hc104_24, hc117_30, hc130_36, hc143_42])) ?_
                show Steps p.tables e below (T43.setTop (mkF m 176 #[.val (.int p1), .val (.int p2), .val (.int ((p1 &&& (2147483647 : Int32)) % (5 : Int32))), .val (.int ((p2 &&& (2147483647 : Int32)) % (3 : Int32))), .val (.ref (polF ((p1 &&& (2147483647 : Int32)) % (5 : Int32)) u0 u1 u2 u3 u4)), .val (.ref (routeF ((p2 &&& (2147483647 : Int32)) % (3 : Int32)) r0 r1 r2)), .val (.int (expF ((p1 &&& (2147483647 : Int32)) % (5 : Int32)) ((p2 &&& (2147483647 : Int32)) % (3 : Int32)))), .val (.int (1 : Int32)), .val (.int (usesF t0 t1 t2 t3 t4 t5 (routeF ((p2 &&& (2147483647 : Int32)) % (3 : Int32)) r0 r1 r2)))] [])) _
                refine XS.iconst X43.here hx rfl (hb hby at_176) ?_
                show Steps p.tables e below (T43.setTop (mkF m 177 #[.val (.int p1), .val (.int p2), .val (.int ((p1 &&& (2147483647 : Int32)) % (5 : Int32))), .val (.int ((p2 &&& (2147483647 : Int32)) % (3 : Int32))), .val (.ref (polF ((p1 &&& (2147483647 : Int32)) % (5 : Int32)) u0 u1 u2 u3 u4)), .val (.ref (routeF ((p2 &&& (2147483647 : Int32)) % (3 : Int32)) r0 r1 r2)), .val (.int (expF ((p1 &&& (2147483647 : Int32)) % (5 : Int32)) ((p2 &&& (2147483647 : Int32)) % (3 : Int32)))), .val (.int (1 : Int32)), .val (.int (usesF t0 t1 t2 t3 t4 t5 (routeF ((p2 &&& (2147483647 : Int32)) % (3 : Int32)) r0 r1 r2)))] [(.int (1 : Int32))])) _
                refine XS.goto X43.here hx rfl (pc0 := 177) (pc' := 181) rfl (hb hby at_177) (by decide) (by decide) ?_
                exact kt
              obtain ⟨fs, hr, hrun, hended, hW, hsame⟩ := X43.leave (v := some (.int (1 : Int32))) (fun h => by rw [Bd.returns] at h; cases h)
              refine ⟨_, _, pre44 _ ?_, hrun, hended, _, _, rfl, ?_, ⟨_, rfl⟩, hW, hsame.mono (by decide) (by decide)⟩
              · show Steps p.tables e below (T43.setTop (mkF m 181 #[.val (.int p1), .val (.int p2), .val (.int ((p1 &&& (2147483647 : Int32)) % (5 : Int32))), .val (.int ((p2 &&& (2147483647 : Int32)) % (3 : Int32))), .val (.ref (polF ((p1 &&& (2147483647 : Int32)) % (5 : Int32)) u0 u1 u2 u3 u4)), .val (.ref (routeF ((p2 &&& (2147483647 : Int32)) % (3 : Int32)) r0 r1 r2)), .val (.int (expF ((p1 &&& (2147483647 : Int32)) % (5 : Int32)) ((p2 &&& (2147483647 : Int32)) % (3 : Int32)))), .val (.int (1 : Int32)), .val (.int (usesF t0 t1 t2 t3 t4 t5 (routeF ((p2 &&& (2147483647 : Int32)) % (3 : Int32)) r0 r1 r2)))] [(.int (1 : Int32))])) _
                exact retN X43 hx (t := .boolean) Bd.returns (by simp) (hb hby at_181) hr
              · show Q1 Z (.int 1) h0 n0 _ T43.heap _
                rw [e43]
                exact ⟨rfl, N43, rfl⟩
            · obtain ⟨cq45, kq45, q45a, q45b, q45c⟩ := isOf hZ e40 Ep
              obtain ⟨_, _, ⟨T45, L45, k45, n45⟩, -, X45, ⟨Lc45, hQ45, l45, y45, z45⟩, st45⟩ := X40.virtualBack hx (y := (⟨"com/example/hawtip/hawtip/dispatch/Policy", "uses", "(Lcom/example/hawtip/hawtip/dispatch/Policy$Route;)Z"⟩ : MethodName)) (z := (⟨"com/example/hawtip/hawtip/dispatch/Policy", "uses", "(Lcom/example/hawtip/hawtip/dispatch/Policy$Route;)Z"⟩ : MethodName)) hown (mvT hZ (hw _ (List.mem_of_getElem? (i := 38) rfl))) (mvT hZ (hw _ (List.mem_of_getElem? (i := 39) rfl))) (notFace_of_selects (args := #[]) (mvT hZ (hw _ (List.mem_of_getElem? (i := 41) rfl)))) (mvT hZ (hw _ (List.mem_of_getElem? (i := 41) rfl))) (mvT hZ (hw _ (List.mem_of_getElem? (i := 40) rfl))) (by decide) (backOf (W := 0) (rm5 l Z a0 hw [] (polF ((p1 &&& (2147483647 : Int32)) % (5 : Int32)) u0 u1 u2 u3 u4) (routeF ((p2 &&& (2147483647 : Int32)) % (3 : Int32)) r0 r1 r2) ra t0 t1 t2 t3 t4 t5 cl h0 n0 Z0 Fr_ Ar hlen El0 El1 El2 El3 El4 El5) hZ (hw _ (List.mem_of_getElem? (i := 42) rfl)) (hw _ (List.mem_of_getElem? (i := 6) rfl)) (by decide) (by decide)) q45a q45c (g := (mkF m 157 #[.val (.int p1), .val (.int p2), .val (.int ((p1 &&& (2147483647 : Int32)) % (5 : Int32))), .val (.int ((p2 &&& (2147483647 : Int32)) % (3 : Int32))), .val (.ref (polF ((p1 &&& (2147483647 : Int32)) % (5 : Int32)) u0 u1 u2 u3 u4)), .val (.ref (routeF ((p2 &&& (2147483647 : Int32)) % (3 : Int32)) r0 r1 r2)), .val (.int (expF ((p1 &&& (2147483647 : Int32)) % (5 : Int32)) ((p2 &&& (2147483647 : Int32)) % (3 : Int32)))), .val (.int (0 : Int32)), .unset] [(.ref (routeF ((p2 &&& (2147483647 : Int32)) % (3 : Int32)) r0 r1 r2)), (.ref (polF ((p1 &&& (2147483647 : Int32)) % (5 : Int32)) u0 u1 u2 u3 u4))])) rfl (by rw [hml]; rfl) (Steps.refl _) (argsL := [(.ref (routeF ((p2 &&& (2147483647 : Int32)) % (3 : Int32)) r0 r1 r2))]) (rest := []) (lenOf pd0_3 rfl) rfl (by show 2 * 0 + _ ≤ _; exact Nat.le_of_eq rfl) (hb hby at_157) (fun _ _ => ⟨rfl, e40, (by decide : 0 + 0 ≤ _), (by decide : 0 + 0 ≤ _)⟩)
              dsimp only [Pt.U, Pt.locs, Pt.cells, Pt.slots] at X45 l45 y45 z45 st45 hQ45
              subst l45 y45 z45
              obtain ⟨rfl, N45q, e45⟩ := hQ45
              have N45 := Fr.app N40 N45q
              have pre46 : ∀ tg_, Steps p.tables e below (T45.setTop (mkF m 181 #[.val (.int p1), .val (.int p2), .val (.int ((p1 &&& (2147483647 : Int32)) % (5 : Int32))), .val (.int ((p2 &&& (2147483647 : Int32)) % (3 : Int32))), .val (.ref (polF ((p1 &&& (2147483647 : Int32)) % (5 : Int32)) u0 u1 u2 u3 u4)), .val (.ref (routeF ((p2 &&& (2147483647 : Int32)) % (3 : Int32)) r0 r1 r2)), .val (.int (expF ((p1 &&& (2147483647 : Int32)) % (5 : Int32)) ((p2 &&& (2147483647 : Int32)) % (3 : Int32)))), .val (.int (0 : Int32)), .val (.int (usesF t0 t1 t2 t3 t4 t5 (routeF ((p2 &&& (2147483647 : Int32)) % (3 : Int32)) r0 r1 r2)))] [(.int (1 : Int32))])) tg_ → Steps p.tables e below (s₁.setTop (entryFrame m #[(.int p1), (.int p2)] maxLocals)) tg_ := by
                intro tg_ kt
                refine pre41 _ ?_
                show Steps p.tables e below (T40.setTop (mkF m 143 #[.val (.int p1), .val (.int p2), .val (.int ((p1 &&& (2147483647 : Int32)) % (5 : Int32))), .val (.int ((p2 &&& (2147483647 : Int32)) % (3 : Int32))), .val (.ref (polF ((p1 &&& (2147483647 : Int32)) % (5 : Int32)) u0 u1 u2 u3 u4)), .val (.ref (routeF ((p2 &&& (2147483647 : Int32)) % (3 : Int32)) r0 r1 r2)), .val (.int (expF ((p1 &&& (2147483647 : Int32)) % (5 : Int32)) ((p2 &&& (2147483647 : Int32)) % (3 : Int32)))), .unset, .unset] [(.ref (routeF ((p2 &&& (2147483647 : Int32)) % (3 : Int32)) r0 r1 r2)), (.ref t5)])) _
                refine XT.acmpYes X40.here hx rfl (pc0 := 143) (pc' := 150) rfl (hb hby at_143) rfl rfl rfl (XT.aa_ne_t (fun q => hc143_42 (Value.ref.inj q))) (by decide) (by decide) ?_
                show Steps p.tables e below (T40.setTop (mkF m 150 #[.val (.int p1), .val (.int p2), .val (.int ((p1 &&& (2147483647 : Int32)) % (5 : Int32))), .val (.int ((p2 &&& (2147483647 : Int32)) % (3 : Int32))), .val (.ref (polF ((p1 &&& (2147483647 : Int32)) % (5 : Int32)) u0 u1 u2 u3 u4)), .val (.ref (routeF ((p2 &&& (2147483647 : Int32)) % (3 : Int32)) r0 r1 r2)), .val (.int (expF ((p1 &&& (2147483647 : Int32)) % (5 : Int32)) ((p2 &&& (2147483647 : Int32)) % (3 : Int32)))), .unset, .unset] [])) _
                refine XS.iconst X40.here hx rfl (hb hby at_150) ?_
                show Steps p.tables e below (T40.setTop (mkF m 151 #[.val (.int p1), .val (.int p2), .val (.int ((p1 &&& (2147483647 : Int32)) % (5 : Int32))), .val (.int ((p2 &&& (2147483647 : Int32)) % (3 : Int32))), .val (.ref (polF ((p1 &&& (2147483647 : Int32)) % (5 : Int32)) u0 u1 u2 u3 u4)), .val (.ref (routeF ((p2 &&& (2147483647 : Int32)) % (3 : Int32)) r0 r1 r2)), .val (.int (expF ((p1 &&& (2147483647 : Int32)) % (5 : Int32)) ((p2 &&& (2147483647 : Int32)) % (3 : Int32)))), .unset, .unset] [(.int (0 : Int32))])) _
                refine XS.istore X40.here hx rfl (hb hby at_151) rfl (l' := #[.val (.int p1), .val (.int p2), .val (.int ((p1 &&& (2147483647 : Int32)) % (5 : Int32))), .val (.int ((p2 &&& (2147483647 : Int32)) % (3 : Int32))), .val (.ref (polF ((p1 &&& (2147483647 : Int32)) % (5 : Int32)) u0 u1 u2 u3 u4)), .val (.ref (routeF ((p2 &&& (2147483647 : Int32)) % (3 : Int32)) r0 r1 r2)), .val (.int (expF ((p1 &&& (2147483647 : Int32)) % (5 : Int32)) ((p2 &&& (2147483647 : Int32)) % (3 : Int32)))), .val (.int (0 : Int32)), .unset]) rfl ?_
                show Steps p.tables e below (T40.setTop (mkF m 153 #[.val (.int p1), .val (.int p2), .val (.int ((p1 &&& (2147483647 : Int32)) % (5 : Int32))), .val (.int ((p2 &&& (2147483647 : Int32)) % (3 : Int32))), .val (.ref (polF ((p1 &&& (2147483647 : Int32)) % (5 : Int32)) u0 u1 u2 u3 u4)), .val (.ref (routeF ((p2 &&& (2147483647 : Int32)) % (3 : Int32)) r0 r1 r2)), .val (.int (expF ((p1 &&& (2147483647 : Int32)) % (5 : Int32)) ((p2 &&& (2147483647 : Int32)) % (3 : Int32)))), .val (.int (0 : Int32)), .unset] [])) _
                refine XS.aload X40.here hx rfl (hb hby at_153) rfl rfl ?_
                show Steps p.tables e below (T40.setTop (mkF m 155 #[.val (.int p1), .val (.int p2), .val (.int ((p1 &&& (2147483647 : Int32)) % (5 : Int32))), .val (.int ((p2 &&& (2147483647 : Int32)) % (3 : Int32))), .val (.ref (polF ((p1 &&& (2147483647 : Int32)) % (5 : Int32)) u0 u1 u2 u3 u4)), .val (.ref (routeF ((p2 &&& (2147483647 : Int32)) % (3 : Int32)) r0 r1 r2)), .val (.int (expF ((p1 &&& (2147483647 : Int32)) % (5 : Int32)) ((p2 &&& (2147483647 : Int32)) % (3 : Int32)))), .val (.int (0 : Int32)), .unset] [(.ref (polF ((p1 &&& (2147483647 : Int32)) % (5 : Int32)) u0 u1 u2 u3 u4))])) _
                refine XS.aload X40.here hx rfl (hb hby at_155) rfl rfl ?_
                show Steps p.tables e below (T40.setTop (mkF m 157 #[.val (.int p1), .val (.int p2), .val (.int ((p1 &&& (2147483647 : Int32)) % (5 : Int32))), .val (.int ((p2 &&& (2147483647 : Int32)) % (3 : Int32))), .val (.ref (polF ((p1 &&& (2147483647 : Int32)) % (5 : Int32)) u0 u1 u2 u3 u4)), .val (.ref (routeF ((p2 &&& (2147483647 : Int32)) % (3 : Int32)) r0 r1 r2)), .val (.int (expF ((p1 &&& (2147483647 : Int32)) % (5 : Int32)) ((p2 &&& (2147483647 : Int32)) % (3 : Int32)))), .val (.int (0 : Int32)), .unset] [(.ref (routeF ((p2 &&& (2147483647 : Int32)) % (3 : Int32)) r0 r1 r2)), (.ref (polF ((p1 &&& (2147483647 : Int32)) % (5 : Int32)) u0 u1 u2 u3 u4))])) _
                refine st45.trans ?_
                show Steps p.tables e below (T45.setTop (mkF m 160 #[.val (.int p1), .val (.int p2), .val (.int ((p1 &&& (2147483647 : Int32)) % (5 : Int32))), .val (.int ((p2 &&& (2147483647 : Int32)) % (3 : Int32))), .val (.ref (polF ((p1 &&& (2147483647 : Int32)) % (5 : Int32)) u0 u1 u2 u3 u4)), .val (.ref (routeF ((p2 &&& (2147483647 : Int32)) % (3 : Int32)) r0 r1 r2)), .val (.int (expF ((p1 &&& (2147483647 : Int32)) % (5 : Int32)) ((p2 &&& (2147483647 : Int32)) % (3 : Int32)))), .val (.int (0 : Int32)), .unset] [(.int (usesF t0 t1 t2 t3 t4 t5 (routeF ((p2 &&& (2147483647 : Int32)) % (3 : Int32)) r0 r1 r2)))])) _
                refine XS.istore X45.here hx rfl (hb hby at_160) rfl (l' := #[.val (.int p1), .val (.int p2), .val (.int ((p1 &&& (2147483647 : Int32)) % (5 : Int32))), .val (.int ((p2 &&& (2147483647 : Int32)) % (3 : Int32))), .val (.ref (polF ((p1 &&& (2147483647 : Int32)) % (5 : Int32)) u0 u1 u2 u3 u4)), .val (.ref (routeF ((p2 &&& (2147483647 : Int32)) % (3 : Int32)) r0 r1 r2)), .val (.int (expF ((p1 &&& (2147483647 : Int32)) % (5 : Int32)) ((p2 &&& (2147483647 : Int32)) % (3 : Int32)))), .val (.int (0 : Int32)), .val (.int (usesF t0 t1 t2 t3 t4 t5 (routeF ((p2 &&& (2147483647 : Int32)) % (3 : Int32)) r0 r1 r2)))]) rfl ?_
                show Steps p.tables e below (T45.setTop (mkF m 162 #[.val (.int p1), .val (.int p2), .val (.int ((p1 &&& (2147483647 : Int32)) % (5 : Int32))), .val (.int ((p2 &&& (2147483647 : Int32)) % (3 : Int32))), .val (.ref (polF ((p1 &&& (2147483647 : Int32)) % (5 : Int32)) u0 u1 u2 u3 u4)), .val (.ref (routeF ((p2 &&& (2147483647 : Int32)) % (3 : Int32)) r0 r1 r2)), .val (.int (expF ((p1 &&& (2147483647 : Int32)) % (5 : Int32)) ((p2 &&& (2147483647 : Int32)) % (3 : Int32)))), .val (.int (0 : Int32)), .val (.int (usesF t0 t1 t2 t3 t4 t5 (routeF ((p2 &&& (2147483647 : Int32)) % (3 : Int32)) r0 r1 r2)))] [])) _
                refine XS.iload X45.here hx rfl (hb hby at_162) rfl ?_
                show Steps p.tables e below (T45.setTop (mkF m 164 #[.val (.int p1), .val (.int p2), .val (.int ((p1 &&& (2147483647 : Int32)) % (5 : Int32))), .val (.int ((p2 &&& (2147483647 : Int32)) % (3 : Int32))), .val (.ref (polF ((p1 &&& (2147483647 : Int32)) % (5 : Int32)) u0 u1 u2 u3 u4)), .val (.ref (routeF ((p2 &&& (2147483647 : Int32)) % (3 : Int32)) r0 r1 r2)), .val (.int (expF ((p1 &&& (2147483647 : Int32)) % (5 : Int32)) ((p2 &&& (2147483647 : Int32)) % (3 : Int32)))), .val (.int (0 : Int32)), .val (.int (usesF t0 t1 t2 t3 t4 t5 (routeF ((p2 &&& (2147483647 : Int32)) % (3 : Int32)) r0 r1 r2)))] [(.int (usesF t0 t1 t2 t3 t4 t5 (routeF ((p2 &&& (2147483647 : Int32)) % (3 : Int32)) r0 r1 r2)))])) _
                refine XS.iload X45.here hx rfl (hb hby at_164) rfl ?_
                show Steps p.tables e below (T45.setTop (mkF m 166 #[.val (.int p1), .val (.int p2), .val (.int ((p1 &&& (2147483647 : Int32)) % (5 : Int32))), .val (.int ((p2 &&& (2147483647 : Int32)) % (3 : Int32))), .val (.ref (polF ((p1 &&& (2147483647 : Int32)) % (5 : Int32)) u0 u1 u2 u3 u4)), .val (.ref (routeF ((p2 &&& (2147483647 : Int32)) % (3 : Int32)) r0 r1 r2)), .val (.int (expF ((p1 &&& (2147483647 : Int32)) % (5 : Int32)) ((p2 &&& (2147483647 : Int32)) % (3 : Int32)))), .val (.int (0 : Int32)), .val (.int (usesF t0 t1 t2 t3 t4 t5 (routeF ((p2 &&& (2147483647 : Int32)) % (3 : Int32)) r0 r1 r2)))] [(.int (expF ((p1 &&& (2147483647 : Int32)) % (5 : Int32)) ((p2 &&& (2147483647 : Int32)) % (3 : Int32)))), (.int (usesF t0 t1 t2 t3 t4 t5 (routeF ((p2 &&& (2147483647 : Int32)) % (3 : Int32)) r0 r1 r2)))])) _
                refine XS.icmpNo X45.here hx rfl (hb hby at_166) rfl (XT.ii_ne_f hEq) ?_
                show Steps p.tables e below (T45.setTop (mkF m 169 #[.val (.int p1), .val (.int p2), .val (.int ((p1 &&& (2147483647 : Int32)) % (5 : Int32))), .val (.int ((p2 &&& (2147483647 : Int32)) % (3 : Int32))), .val (.ref (polF ((p1 &&& (2147483647 : Int32)) % (5 : Int32)) u0 u1 u2 u3 u4)), .val (.ref (routeF ((p2 &&& (2147483647 : Int32)) % (3 : Int32)) r0 r1 r2)), .val (.int (expF ((p1 &&& (2147483647 : Int32)) % (5 : Int32)) ((p2 &&& (2147483647 : Int32)) % (3 : Int32)))), .val (.int (0 : Int32)), .val (.int (usesF t0 t1 t2 t3 t4 t5 (routeF ((p2 &&& (2147483647 : Int32)) % (3 : Int32)) r0 r1 r2)))] [])) _
                refine XS.iload X45.here hx rfl (hb hby at_169) rfl ?_
                show Steps p.tables e below (T45.setTop (mkF m 171 #[.val (.int p1), .val (.int p2), .val (.int ((p1 &&& (2147483647 : Int32)) % (5 : Int32))), .val (.int ((p2 &&& (2147483647 : Int32)) % (3 : Int32))), .val (.ref (polF ((p1 &&& (2147483647 : Int32)) % (5 : Int32)) u0 u1 u2 u3 u4)), .val (.ref (routeF ((p2 &&& (2147483647 : Int32)) % (3 : Int32)) r0 r1 r2)), .val (.int (expF ((p1 &&& (2147483647 : Int32)) % (5 : Int32)) ((p2 &&& (2147483647 : Int32)) % (3 : Int32)))), .val (.int (0 : Int32)), .val (.int (usesF t0 t1 t2 t3 t4 t5 (routeF ((p2 &&& (2147483647 : Int32)) % (3 : Int32)) r0 r1 r2)))] [(.int (usesF t0 t1 t2 t3 t4 t5 (routeF ((p2 &&& (2147483647 : Int32)) % (3 : Int32)) r0 r1 r2)))])) _
                refine XS.iload X45.here hx rfl (hb hby at_171) rfl ?_
                show Steps p.tables e below (T45.setTop (mkF m 173 #[.val (.int p1), .val (.int p2), .val (.int ((p1 &&& (2147483647 : Int32)) % (5 : Int32))), .val (.int ((p2 &&& (2147483647 : Int32)) % (3 : Int32))), .val (.ref (polF ((p1 &&& (2147483647 : Int32)) % (5 : Int32)) u0 u1 u2 u3 u4)), .val (.ref (routeF ((p2 &&& (2147483647 : Int32)) % (3 : Int32)) r0 r1 r2)), .val (.int (expF ((p1 &&& (2147483647 : Int32)) % (5 : Int32)) ((p2 &&& (2147483647 : Int32)) % (3 : Int32)))), .val (.int (0 : Int32)), .val (.int (usesF t0 t1 t2 t3 t4 t5 (routeF ((p2 &&& (2147483647 : Int32)) % (3 : Int32)) r0 r1 r2)))] [(.int (0 : Int32)), (.int (usesF t0 t1 t2 t3 t4 t5 (routeF ((p2 &&& (2147483647 : Int32)) % (3 : Int32)) r0 r1 r2)))])) _
                refine XS.icmpNo X45.here hx rfl (hb hby at_173) rfl (XT.ii_ne_f (by simp [usesF, hc78_12, hc91_18, hc104_24, hc117_30, hc130_36, hc143_42])) ?_
                show Steps p.tables e below (T45.setTop (mkF m 176 #[.val (.int p1), .val (.int p2), .val (.int ((p1 &&& (2147483647 : Int32)) % (5 : Int32))), .val (.int ((p2 &&& (2147483647 : Int32)) % (3 : Int32))), .val (.ref (polF ((p1 &&& (2147483647 : Int32)) % (5 : Int32)) u0 u1 u2 u3 u4)), .val (.ref (routeF ((p2 &&& (2147483647 : Int32)) % (3 : Int32)) r0 r1 r2)), .val (.int (expF ((p1 &&& (2147483647 : Int32)) % (5 : Int32)) ((p2 &&& (2147483647 : Int32)) % (3 : Int32)))), .val (.int (0 : Int32)), .val (.int (usesF t0 t1 t2 t3 t4 t5 (routeF ((p2 &&& (2147483647 : Int32)) % (3 : Int32)) r0 r1 r2)))] [])) _
                refine XS.iconst X45.here hx rfl (hb hby at_176) ?_
                show Steps p.tables e below (T45.setTop (mkF m 177 #[.val (.int p1), .val (.int p2), .val (.int ((p1 &&& (2147483647 : Int32)) % (5 : Int32))), .val (.int ((p2 &&& (2147483647 : Int32)) % (3 : Int32))), .val (.ref (polF ((p1 &&& (2147483647 : Int32)) % (5 : Int32)) u0 u1 u2 u3 u4)), .val (.ref (routeF ((p2 &&& (2147483647 : Int32)) % (3 : Int32)) r0 r1 r2)), .val (.int (expF ((p1 &&& (2147483647 : Int32)) % (5 : Int32)) ((p2 &&& (2147483647 : Int32)) % (3 : Int32)))), .val (.int (0 : Int32)), .val (.int (usesF t0 t1 t2 t3 t4 t5 (routeF ((p2 &&& (2147483647 : Int32)) % (3 : Int32)) r0 r1 r2)))] [(.int (1 : Int32))])) _
                refine XS.goto X45.here hx rfl (pc0 := 177) (pc' := 181) rfl (hb hby at_177) (by decide) (by decide) ?_
                exact kt
              obtain ⟨fs, hr, hrun, hended, hW, hsame⟩ := X45.leave (v := some (.int (1 : Int32))) (fun h => by rw [Bd.returns] at h; cases h)
              refine ⟨_, _, pre46 _ ?_, hrun, hended, _, _, rfl, ?_, ⟨_, rfl⟩, hW, hsame.mono (by decide) (by decide)⟩
              · show Steps p.tables e below (T45.setTop (mkF m 181 #[.val (.int p1), .val (.int p2), .val (.int ((p1 &&& (2147483647 : Int32)) % (5 : Int32))), .val (.int ((p2 &&& (2147483647 : Int32)) % (3 : Int32))), .val (.ref (polF ((p1 &&& (2147483647 : Int32)) % (5 : Int32)) u0 u1 u2 u3 u4)), .val (.ref (routeF ((p2 &&& (2147483647 : Int32)) % (3 : Int32)) r0 r1 r2)), .val (.int (expF ((p1 &&& (2147483647 : Int32)) % (5 : Int32)) ((p2 &&& (2147483647 : Int32)) % (3 : Int32)))), .val (.int (0 : Int32)), .val (.int (usesF t0 t1 t2 t3 t4 t5 (routeF ((p2 &&& (2147483647 : Int32)) % (3 : Int32)) r0 r1 r2)))] [(.int (1 : Int32))])) _
                exact retN X45 hx (t := .boolean) Bd.returns (by simp) (hb hby at_181) hr
              · show Q1 Z (.int 1) h0 n0 _ T45.heap _
                rw [e45]
                exact ⟨rfl, N45, rfl⟩
theorem own_mod5 (x k : Int32) (hk : k = (x &&& (2147483647 : Int32)) % (5 : Int32)) : k = 0 ∨ k = 1 ∨ k = 2 ∨ k = 3 ∨ k = 4 := by
  have h0 := c_and x (2147483647 : Int32) (by decide)
  have h1 := (c_irem (x &&& (2147483647 : Int32)) 5 5 rfl).1 h0.1
  rw [← hk] at h1
  have e : ∀ n : Int32, k.toInt = n.toInt → k = n := fun n h => Int32.toInt_inj.mp h
  have b1 : 0 ≤ k.toInt := by omega
  have b2 : k.toInt < 5 := by omega
  rcases (by omega : k.toInt = 0 ∨ k.toInt = 1 ∨ k.toInt = 2 ∨ k.toInt = 3 ∨ k.toInt = 4) with h | h | h | h | h
  · exact Or.inl (e 0 h)
  · exact Or.inr (Or.inl (e 1 h))
  · exact Or.inr (Or.inr (Or.inl (e 2 h)))
  · exact Or.inr (Or.inr (Or.inr (Or.inl (e 3 h))))
  · exact Or.inr (Or.inr (Or.inr (Or.inr (e 4 h))))
theorem own_exp0 {r0 r1 r2 : Addr} (d01 : r0 ≠ r1) (d02 : r0 ≠ r2) (d12 : r1 ≠ r2) (q : Int32) : usesF r1 r1 r0 r1 r1 r1 (routeF q r0 r1 r2) = expF 0 q := by
  unfold usesF routeF expF
  by_cases h0 : q = 0
  · subst h0; simp [d01, d02, d12, d01.symm, d02.symm, d12.symm]
  by_cases h1 : q = 1
  · subst h1; simp [d01, d02, d12, d01.symm, d02.symm, d12.symm]
  simp [h0, h1, d01, d02, d12, d01.symm, d02.symm, d12.symm]
theorem own_exp1 {r0 r1 r2 : Addr} (d01 : r0 ≠ r1) (d02 : r0 ≠ r2) (d12 : r1 ≠ r2) (q : Int32) : usesF r0 r0 r0 r0 r0 r0 (routeF q r0 r1 r2) = expF 1 q := by
  unfold usesF routeF expF
  by_cases h0 : q = 0
  · subst h0; simp [d01, d02, d12, d01.symm, d02.symm, d12.symm]
  by_cases h1 : q = 1
  · subst h1; simp [d01, d02, d12, d01.symm, d02.symm, d12.symm]
  simp [h0, h1, d01, d02, d12, d01.symm, d02.symm, d12.symm]
theorem own_exp2 {r0 r1 r2 : Addr} (d01 : r0 ≠ r1) (d02 : r0 ≠ r2) (d12 : r1 ≠ r2) (q : Int32) : usesF r0 r0 r0 r1 r1 r0 (routeF q r0 r1 r2) = expF 2 q := by
  unfold usesF routeF expF
  by_cases h0 : q = 0
  · subst h0; simp [d01, d02, d12, d01.symm, d02.symm, d12.symm]
  by_cases h1 : q = 1
  · subst h1; simp [d01, d02, d12, d01.symm, d02.symm, d12.symm]
  simp [h0, h1, d01, d02, d12, d01.symm, d02.symm, d12.symm]
theorem own_exp3 {r0 r1 r2 : Addr} (d01 : r0 ≠ r1) (d02 : r0 ≠ r2) (d12 : r1 ≠ r2) (q : Int32) : usesF r0 r0 r0 r1 r0 r0 (routeF q r0 r1 r2) = expF 3 q := by
  unfold usesF routeF expF
  by_cases h0 : q = 0
  · subst h0; simp [d01, d02, d12, d01.symm, d02.symm, d12.symm]
  by_cases h1 : q = 1
  · subst h1; simp [d01, d02, d12, d01.symm, d02.symm, d12.symm]
  simp [h0, h1, d01, d02, d12, d01.symm, d02.symm, d12.symm]
theorem own_exp4 {r0 r1 r2 : Addr} (d01 : r0 ≠ r1) (d02 : r0 ≠ r2) (d12 : r1 ≠ r2) (q : Int32) : usesF r2 r2 r0 r1 r1 r1 (routeF q r0 r1 r2) = expF 4 q := by
  unfold usesF routeF expF
  by_cases h0 : q = 0
  · subst h0; simp [d01, d02, d12, d01.symm, d02.symm, d12.symm]
  by_cases h1 : q = 1
  · subst h1; simp [d01, d02, d12, d01.symm, d02.symm, d12.symm]
  simp [h0, h1, d01, d02, d12, d01.symm, d02.symm, d12.symm]
set_option maxRecDepth 65536 in
set_option maxHeartbeats 40000000 in
theorem comes_1 {Post : Tables → Env → Array Value → State → Outcome → State → Prop} (hpost : ∀ tb e args s v u, (limb_1_1.after args s (.returned v) u = true ∧ limb_1_2.after args s (.returned v) u = true ∧ True) → FrameEnd s (.returned v) u (Jvm.fieldLocs frame_1_writes args s ++ Jvm.arrayLocs frame_1_arrays args s ++ Jvm.staticLocs frame_1_statics s) 0 0 → Post tb e args s (.returned v) u) :
    ArmFor flags0 classFile x code maxLocals ret World_1 tables_1 room_1 Calls_1 rest_1 Pre_1 Post := by
  intro l hfl _ _ p e ha hc hk s m args below hf hA hF happ hP
  obtain ⟨hcalls, hrest, hpre⟩ := hP
  obtain ⟨-, -, -, hnamed, -, -, -, hat⟩ := (Spec.applies_iff hf).mp happ
  obtain ⟨hg, hn⟩ := and_e (Cond.before_iff.mp (show (Jvm.Cond.and given_1 narrow_1).before args s = true from hpre))
  obtain ⟨hg0, hg1⟩ := and_e hg
  obtain ⟨ga0, hgg0⟩ := and_e hg1
  have ga1 := hgg0
  obtain ⟨w0_, w1_, rfl⟩ : ∃ w0_ w1_ : Value, args = #[w0_, w1_] := by
    have hs : args.size = 2 := by simpa [Cond.value, given_1] using hg0
    obtain ⟨L⟩ := args
    match L, hs with
    | [w0_, w1_], _ => exact ⟨w0_, w1_, rfl⟩
  have hw := fun d (hd : d ∈ tables_1) => atoms_spec (ws := Jvm.Cond.code x code maxLocals ret :: tables_1) hat d (List.mem_cons_of_mem _ hd)
  have hfit : Fit s := fun {y c} hc i hi => by
    obtain ⟨ha, rfl⟩ := Array.getElem?_eq_some_iff.mp hc
    have q := List.all_eq_true.mp ((Array.all_eq_true_iff_forall_mem.mp hF) _ (Array.getElem_mem ha)) i (List.mem_range.mpr hi)
    simpa [Array.getElem?_eq_getElem hi] using q
  obtain ⟨i0, ei0⟩ := is_v ga0
  obtain rfl : w0_ = (.int i0) := Option.some.inj ei0
  obtain ⟨i1, ei1⟩ := is_v ga1
  obtain rfl : w1_ = (.int i1) := Option.some.inj ei1
  obtain ⟨x_ALL, hn0⟩ := and_e hn
  obtain ⟨x_IO, hn1⟩ := and_e hn0
  obtain ⟨x_CONNECTED, hn2⟩ := and_e hn1
  obtain ⟨a_ALL, hn3⟩ := and_e hn2
  obtain ⟨l_ALL, hn4⟩ := and_e hn3
  obtain ⟨o_CONNECTED, hn5⟩ := and_e hn4
  obtain ⟨x_POOL, hn6⟩ := and_e hn5
  obtain ⟨e_ALL_0, hn7⟩ := and_e hn6
  obtain ⟨o_POOL, hn8⟩ := and_e hn7
  obtain ⟨o_IO, hn9⟩ := and_e hn8
  obtain ⟨x_DISCONNECTED, hn10⟩ := and_e hn9
  obtain ⟨o_DISCONNECTED, hn11⟩ := and_e hn10
  obtain ⟨e_ALL_1, hn12⟩ := and_e hn11
  obtain ⟨x_SENT, hn13⟩ := and_e hn12
  obtain ⟨o_SENT, hn14⟩ := and_e hn13
  obtain ⟨e_ALL_2, hn15⟩ := and_e hn14
  obtain ⟨x_CONNECTION, hn16⟩ := and_e hn15
  obtain ⟨a_CONNECTION, hn17⟩ := and_e hn16
  obtain ⟨l_CONNECTION, hn18⟩ := and_e hn17
  obtain ⟨x_CONNECTION_THREAD, hn19⟩ := and_e hn18
  obtain ⟨e_CONNECTION_0, hn20⟩ := and_e hn19
  obtain ⟨o_CONNECTION_THREAD, hn21⟩ := and_e hn20
  obtain ⟨e_CONNECTION_1, hn22⟩ := and_e hn21
  obtain ⟨e_CONNECTION_2, hn23⟩ := and_e hn22
  obtain ⟨x_REQUEST, hn24⟩ := and_e hn23
  obtain ⟨o_REQUEST, hn25⟩ := and_e hn24
  obtain ⟨e_CONNECTION_3, hn26⟩ := and_e hn25
  obtain ⟨x_EXECUTION, hn27⟩ := and_e hn26
  obtain ⟨a_EXECUTION, hn28⟩ := and_e hn27
  obtain ⟨l_EXECUTION, hn29⟩ := and_e hn28
  obtain ⟨e_EXECUTION_0, hn30⟩ := and_e hn29
  obtain ⟨e_EXECUTION_1, hn31⟩ := and_e hn30
  obtain ⟨e_EXECUTION_2, hn32⟩ := and_e hn31
  obtain ⟨e_EXECUTION_3, hn33⟩ := and_e hn32
  obtain ⟨x_RESPONSE, hn34⟩ := and_e hn33
  obtain ⟨o_RESPONSE, hn35⟩ := and_e hn34
  obtain ⟨e_EXECUTION_4, hn36⟩ := and_e hn35
  obtain ⟨x_CAUGHT, hn37⟩ := and_e hn36
  obtain ⟨o_CAUGHT, hn38⟩ := and_e hn37
  obtain ⟨e_EXECUTION_5, hn39⟩ := and_e hn38
  obtain ⟨x_DIRECT, hn40⟩ := and_e hn39
  obtain ⟨a_DIRECT, hn41⟩ := and_e hn40
  obtain ⟨l_DIRECT, hn42⟩ := and_e hn41
  obtain ⟨e_DIRECT_0, hn43⟩ := and_e hn42
  obtain ⟨e_DIRECT_1, hn44⟩ := and_e hn43
  obtain ⟨e_DIRECT_2, hn45⟩ := and_e hn44
  obtain ⟨e_DIRECT_3, hn46⟩ := and_e hn45
  obtain ⟨e_DIRECT_4, hn47⟩ := and_e hn46
  obtain ⟨e_DIRECT_5, hn48⟩ := and_e hn47
  obtain ⟨x_MESSAGE, hn49⟩ := and_e hn48
  obtain ⟨a_MESSAGE, hn50⟩ := and_e hn49
  obtain ⟨l_MESSAGE, hn51⟩ := and_e hn50
  obtain ⟨e_MESSAGE_0, hn52⟩ := and_e hn51
  obtain ⟨e_MESSAGE_1, hn53⟩ := and_e hn52
  obtain ⟨e_MESSAGE_2, hn54⟩ := and_e hn53
  obtain ⟨e_MESSAGE_3, hn55⟩ := and_e hn54
  obtain ⟨e_MESSAGE_4, hn56⟩ := and_e hn55
  obtain ⟨e_MESSAGE_5, hn57⟩ := and_e hn56
  obtain ⟨e_ALL_3, hn58⟩ := and_e hn57
  obtain ⟨e_ALL_4, hn59⟩ := and_e hn58
  obtain ⟨e_ALL_5, hn60⟩ := and_e hn59
  obtain ⟨e_CONNECTION_4, e_CONNECTION_5⟩ := and_e hn60
  obtain ⟨r0, n_IO⟩ := exa_v x_IO
  have S_IO : Sta s s.heap "com/example/hawtip/hawtip/dispatch/Policy$Route" "IO" "Lcom/example/hawtip/hawtip/dispatch/Policy$Route;" (.ref r0) := Sta.start n_IO (Or.inr ⟨hw _ (List.mem_of_getElem? (i := 12) rfl), hw _ (List.mem_of_getElem? (i := 13) rfl)⟩)
  have E_IO : Exa s s.heap r0 "com/example/hawtip/hawtip/dispatch/Policy$Route" := Exa.start n_IO x_IO
  have F_IO : Fld s s.heap r0 "java/lang/Enum" "ordinal" "I" (.int 0) := Fld.start ((fld_at n_IO).symm.trans (own_eqI o_IO))
  obtain ⟨r1, n_POOL⟩ := exa_v x_POOL
  have S_POOL : Sta s s.heap "com/example/hawtip/hawtip/dispatch/Policy$Route" "POOL" "Lcom/example/hawtip/hawtip/dispatch/Policy$Route;" (.ref r1) := Sta.start n_POOL (Or.inr ⟨hw _ (List.mem_of_getElem? (i := 12) rfl), hw _ (List.mem_of_getElem? (i := 33) rfl)⟩)
  have E_POOL : Exa s s.heap r1 "com/example/hawtip/hawtip/dispatch/Policy$Route" := Exa.start n_POOL x_POOL
  have F_POOL : Fld s s.heap r1 "java/lang/Enum" "ordinal" "I" (.int 1) := Fld.start ((fld_at n_POOL).symm.trans (own_eqI o_POOL))
  obtain ⟨r2, n_CONNECTION_THREAD⟩ := exa_v x_CONNECTION_THREAD
  have S_CONNECTION_THREAD : Sta s s.heap "com/example/hawtip/hawtip/dispatch/Policy$Route" "CONNECTION_THREAD" "Lcom/example/hawtip/hawtip/dispatch/Policy$Route;" (.ref r2) := Sta.start n_CONNECTION_THREAD (Or.inr ⟨hw _ (List.mem_of_getElem? (i := 12) rfl), hw _ (List.mem_of_getElem? (i := 46) rfl)⟩)
  have E_CONNECTION_THREAD : Exa s s.heap r2 "com/example/hawtip/hawtip/dispatch/Policy$Route" := Exa.start n_CONNECTION_THREAD x_CONNECTION_THREAD
  have F_CONNECTION_THREAD : Fld s s.heap r2 "java/lang/Enum" "ordinal" "I" (.int 2) := Fld.start ((fld_at n_CONNECTION_THREAD).symm.trans (own_eqI o_CONNECTION_THREAD))
  obtain ⟨v0, n_CONNECTED⟩ := exa_v x_CONNECTED
  have S_CONNECTED : Sta s s.heap "com/example/hawtip/hawtip/dispatch/Event" "CONNECTED" "Lcom/example/hawtip/hawtip/dispatch/Event;" (.ref v0) := Sta.start n_CONNECTED (Or.inr ⟨hw _ (List.mem_of_getElem? (i := 15) rfl), hw _ (List.mem_of_getElem? (i := 16) rfl)⟩)
  have E_CONNECTED : Exa s s.heap v0 "com/example/hawtip/hawtip/dispatch/Event" := Exa.start n_CONNECTED x_CONNECTED
  have F_CONNECTED : Fld s s.heap v0 "java/lang/Enum" "ordinal" "I" (.int 0) := Fld.start ((fld_at n_CONNECTED).symm.trans (own_eqI o_CONNECTED))
  obtain ⟨v1, n_DISCONNECTED⟩ := exa_v x_DISCONNECTED
  have S_DISCONNECTED : Sta s s.heap "com/example/hawtip/hawtip/dispatch/Event" "DISCONNECTED" "Lcom/example/hawtip/hawtip/dispatch/Event;" (.ref v1) := Sta.start n_DISCONNECTED (Or.inr ⟨hw _ (List.mem_of_getElem? (i := 15) rfl), hw _ (List.mem_of_getElem? (i := 35) rfl)⟩)
  have E_DISCONNECTED : Exa s s.heap v1 "com/example/hawtip/hawtip/dispatch/Event" := Exa.start n_DISCONNECTED x_DISCONNECTED
  have F_DISCONNECTED : Fld s s.heap v1 "java/lang/Enum" "ordinal" "I" (.int 1) := Fld.start ((fld_at n_DISCONNECTED).symm.trans (own_eqI o_DISCONNECTED))
  obtain ⟨v2, n_SENT⟩ := exa_v x_SENT
  have S_SENT : Sta s s.heap "com/example/hawtip/hawtip/dispatch/Event" "SENT" "Lcom/example/hawtip/hawtip/dispatch/Event;" (.ref v2) := Sta.start n_SENT (Or.inr ⟨hw _ (List.mem_of_getElem? (i := 15) rfl), hw _ (List.mem_of_getElem? (i := 37) rfl)⟩)
  have E_SENT : Exa s s.heap v2 "com/example/hawtip/hawtip/dispatch/Event" := Exa.start n_SENT x_SENT
  have F_SENT : Fld s s.heap v2 "java/lang/Enum" "ordinal" "I" (.int 2) := Fld.start ((fld_at n_SENT).symm.trans (own_eqI o_SENT))
  obtain ⟨v3, n_REQUEST⟩ := exa_v x_REQUEST
  have S_REQUEST : Sta s s.heap "com/example/hawtip/hawtip/dispatch/Event" "REQUEST" "Lcom/example/hawtip/hawtip/dispatch/Event;" (.ref v3) := Sta.start n_REQUEST (Or.inr ⟨hw _ (List.mem_of_getElem? (i := 15) rfl), hw _ (List.mem_of_getElem? (i := 48) rfl)⟩)
  have E_REQUEST : Exa s s.heap v3 "com/example/hawtip/hawtip/dispatch/Event" := Exa.start n_REQUEST x_REQUEST
  have F_REQUEST : Fld s s.heap v3 "java/lang/Enum" "ordinal" "I" (.int 3) := Fld.start ((fld_at n_REQUEST).symm.trans (own_eqI o_REQUEST))
  obtain ⟨v4, n_RESPONSE⟩ := exa_v x_RESPONSE
  have S_RESPONSE : Sta s s.heap "com/example/hawtip/hawtip/dispatch/Event" "RESPONSE" "Lcom/example/hawtip/hawtip/dispatch/Event;" (.ref v4) := Sta.start n_RESPONSE (Or.inr ⟨hw _ (List.mem_of_getElem? (i := 15) rfl), hw _ (List.mem_of_getElem? (i := 53) rfl)⟩)
  have E_RESPONSE : Exa s s.heap v4 "com/example/hawtip/hawtip/dispatch/Event" := Exa.start n_RESPONSE x_RESPONSE
  have F_RESPONSE : Fld s s.heap v4 "java/lang/Enum" "ordinal" "I" (.int 4) := Fld.start ((fld_at n_RESPONSE).symm.trans (own_eqI o_RESPONSE))
  obtain ⟨v5, n_CAUGHT⟩ := exa_v x_CAUGHT
  have S_CAUGHT : Sta s s.heap "com/example/hawtip/hawtip/dispatch/Event" "CAUGHT" "Lcom/example/hawtip/hawtip/dispatch/Event;" (.ref v5) := Sta.start n_CAUGHT (Or.inr ⟨hw _ (List.mem_of_getElem? (i := 15) rfl), hw _ (List.mem_of_getElem? (i := 55) rfl)⟩)
  have E_CAUGHT : Exa s s.heap v5 "com/example/hawtip/hawtip/dispatch/Event" := Exa.start n_CAUGHT x_CAUGHT
  have F_CAUGHT : Fld s s.heap v5 "java/lang/Enum" "ordinal" "I" (.int 5) := Fld.start ((fld_at n_CAUGHT).symm.trans (own_eqI o_CAUGHT))
  obtain ⟨u0, n_ALL⟩ := exa_v x_ALL
  have S_ALL : Sta s s.heap "com/example/hawtip/hawtip/dispatch/Policy" "ALL" "Lcom/example/hawtip/hawtip/dispatch/Policy;" (.ref u0) := Sta.start n_ALL (Or.inr ⟨hw _ (List.mem_of_getElem? (i := 6) rfl), hw _ (List.mem_of_getElem? (i := 7) rfl)⟩)
  have E_ALL : Exa s s.heap u0 "com/example/hawtip/hawtip/dispatch/Policy" := Exa.start n_ALL x_ALL
  obtain ⟨ra_ALL, nr_ALL⟩ := arr_v a_ALL
  have Fr_ALL : Fld s s.heap u0 "com/example/hawtip/hawtip/dispatch/Policy" "routes" "[Lcom/example/hawtip/hawtip/dispatch/Policy$Route;" (.ref ra_ALL) := Fld.start ((fld_at n_ALL).symm.trans nr_ALL)
  obtain ⟨cl_ALL, Ar_ALL⟩ := Arr.start nr_ALL a_ALL
  have hl_ALL := own_len (own_eqI l_ALL) nr_ALL Ar_ALL.1
  have El_ALL_0 : Elem cl_ALL 0 r1 := elem_in (own_eqR e_ALL_0 n_POOL) nr_ALL rfl Ar_ALL.1
  have El_ALL_1 : Elem cl_ALL 1 r1 := elem_in (own_eqR e_ALL_1 n_POOL) nr_ALL rfl Ar_ALL.1
  have El_ALL_2 : Elem cl_ALL 2 r0 := elem_in (own_eqR e_ALL_2 n_IO) nr_ALL rfl Ar_ALL.1
  have El_ALL_3 : Elem cl_ALL 3 r1 := elem_in (own_eqR e_ALL_3 n_POOL) nr_ALL rfl Ar_ALL.1
  have El_ALL_4 : Elem cl_ALL 4 r1 := elem_in (own_eqR e_ALL_4 n_POOL) nr_ALL rfl Ar_ALL.1
  have El_ALL_5 : Elem cl_ALL 5 r1 := elem_in (own_eqR e_ALL_5 n_POOL) nr_ALL rfl Ar_ALL.1
  obtain ⟨u1, n_DIRECT⟩ := exa_v x_DIRECT
  have S_DIRECT : Sta s s.heap "com/example/hawtip/hawtip/dispatch/Policy" "DIRECT" "Lcom/example/hawtip/hawtip/dispatch/Policy;" (.ref u1) := Sta.start n_DIRECT (Or.inr ⟨hw _ (List.mem_of_getElem? (i := 6) rfl), hw _ (List.mem_of_getElem? (i := 57) rfl)⟩)
  have E_DIRECT : Exa s s.heap u1 "com/example/hawtip/hawtip/dispatch/Policy" := Exa.start n_DIRECT x_DIRECT
  obtain ⟨ra_DIRECT, nr_DIRECT⟩ := arr_v a_DIRECT
  have Fr_DIRECT : Fld s s.heap u1 "com/example/hawtip/hawtip/dispatch/Policy" "routes" "[Lcom/example/hawtip/hawtip/dispatch/Policy$Route;" (.ref ra_DIRECT) := Fld.start ((fld_at n_DIRECT).symm.trans nr_DIRECT)
  obtain ⟨cl_DIRECT, Ar_DIRECT⟩ := Arr.start nr_DIRECT a_DIRECT
  have hl_DIRECT := own_len (own_eqI l_DIRECT) nr_DIRECT Ar_DIRECT.1
  have El_DIRECT_0 : Elem cl_DIRECT 0 r0 := elem_in (own_eqR e_DIRECT_0 n_IO) nr_DIRECT rfl Ar_DIRECT.1
  have El_DIRECT_1 : Elem cl_DIRECT 1 r0 := elem_in (own_eqR e_DIRECT_1 n_IO) nr_DIRECT rfl Ar_DIRECT.1
  have El_DIRECT_2 : Elem cl_DIRECT 2 r0 := elem_in (own_eqR e_DIRECT_2 n_IO) nr_DIRECT rfl Ar_DIRECT.1
  have El_DIRECT_3 : Elem cl_DIRECT 3 r0 := elem_in (own_eqR e_DIRECT_3 n_IO) nr_DIRECT rfl Ar_DIRECT.1
  have El_DIRECT_4 : Elem cl_DIRECT 4 r0 := elem_in (own_eqR e_DIRECT_4 n_IO) nr_DIRECT rfl Ar_DIRECT.1
  have El_DIRECT_5 : Elem cl_DIRECT 5 r0 := elem_in (own_eqR e_DIRECT_5 n_IO) nr_DIRECT rfl Ar_DIRECT.1
  obtain ⟨u2, n_MESSAGE⟩ := exa_v x_MESSAGE
  have S_MESSAGE : Sta s s.heap "com/example/hawtip/hawtip/dispatch/Policy" "MESSAGE" "Lcom/example/hawtip/hawtip/dispatch/Policy;" (.ref u2) := Sta.start n_MESSAGE (Or.inr ⟨hw _ (List.mem_of_getElem? (i := 6) rfl), hw _ (List.mem_of_getElem? (i := 59) rfl)⟩)
  have E_MESSAGE : Exa s s.heap u2 "com/example/hawtip/hawtip/dispatch/Policy" := Exa.start n_MESSAGE x_MESSAGE
  obtain ⟨ra_MESSAGE, nr_MESSAGE⟩ := arr_v a_MESSAGE
  have Fr_MESSAGE : Fld s s.heap u2 "com/example/hawtip/hawtip/dispatch/Policy" "routes" "[Lcom/example/hawtip/hawtip/dispatch/Policy$Route;" (.ref ra_MESSAGE) := Fld.start ((fld_at n_MESSAGE).symm.trans nr_MESSAGE)
  obtain ⟨cl_MESSAGE, Ar_MESSAGE⟩ := Arr.start nr_MESSAGE a_MESSAGE
  have hl_MESSAGE := own_len (own_eqI l_MESSAGE) nr_MESSAGE Ar_MESSAGE.1
  have El_MESSAGE_0 : Elem cl_MESSAGE 0 r0 := elem_in (own_eqR e_MESSAGE_0 n_IO) nr_MESSAGE rfl Ar_MESSAGE.1
  have El_MESSAGE_1 : Elem cl_MESSAGE 1 r0 := elem_in (own_eqR e_MESSAGE_1 n_IO) nr_MESSAGE rfl Ar_MESSAGE.1
  have El_MESSAGE_2 : Elem cl_MESSAGE 2 r0 := elem_in (own_eqR e_MESSAGE_2 n_IO) nr_MESSAGE rfl Ar_MESSAGE.1
  have El_MESSAGE_3 : Elem cl_MESSAGE 3 r1 := elem_in (own_eqR e_MESSAGE_3 n_POOL) nr_MESSAGE rfl Ar_MESSAGE.1
  have El_MESSAGE_4 : Elem cl_MESSAGE 4 r1 := elem_in (own_eqR e_MESSAGE_4 n_POOL) nr_MESSAGE rfl Ar_MESSAGE.1
  have El_MESSAGE_5 : Elem cl_MESSAGE 5 r0 := elem_in (own_eqR e_MESSAGE_5 n_IO) nr_MESSAGE rfl Ar_MESSAGE.1
  obtain ⟨u3, n_EXECUTION⟩ := exa_v x_EXECUTION
  have S_EXECUTION : Sta s s.heap "com/example/hawtip/hawtip/dispatch/Policy" "EXECUTION" "Lcom/example/hawtip/hawtip/dispatch/Policy;" (.ref u3) := Sta.start n_EXECUTION (Or.inr ⟨hw _ (List.mem_of_getElem? (i := 6) rfl), hw _ (List.mem_of_getElem? (i := 50) rfl)⟩)
  have E_EXECUTION : Exa s s.heap u3 "com/example/hawtip/hawtip/dispatch/Policy" := Exa.start n_EXECUTION x_EXECUTION
  obtain ⟨ra_EXECUTION, nr_EXECUTION⟩ := arr_v a_EXECUTION
  have Fr_EXECUTION : Fld s s.heap u3 "com/example/hawtip/hawtip/dispatch/Policy" "routes" "[Lcom/example/hawtip/hawtip/dispatch/Policy$Route;" (.ref ra_EXECUTION) := Fld.start ((fld_at n_EXECUTION).symm.trans nr_EXECUTION)
  obtain ⟨cl_EXECUTION, Ar_EXECUTION⟩ := Arr.start nr_EXECUTION a_EXECUTION
  have hl_EXECUTION := own_len (own_eqI l_EXECUTION) nr_EXECUTION Ar_EXECUTION.1
  have El_EXECUTION_0 : Elem cl_EXECUTION 0 r0 := elem_in (own_eqR e_EXECUTION_0 n_IO) nr_EXECUTION rfl Ar_EXECUTION.1
  have El_EXECUTION_1 : Elem cl_EXECUTION 1 r0 := elem_in (own_eqR e_EXECUTION_1 n_IO) nr_EXECUTION rfl Ar_EXECUTION.1
  have El_EXECUTION_2 : Elem cl_EXECUTION 2 r0 := elem_in (own_eqR e_EXECUTION_2 n_IO) nr_EXECUTION rfl Ar_EXECUTION.1
  have El_EXECUTION_3 : Elem cl_EXECUTION 3 r1 := elem_in (own_eqR e_EXECUTION_3 n_POOL) nr_EXECUTION rfl Ar_EXECUTION.1
  have El_EXECUTION_4 : Elem cl_EXECUTION 4 r0 := elem_in (own_eqR e_EXECUTION_4 n_IO) nr_EXECUTION rfl Ar_EXECUTION.1
  have El_EXECUTION_5 : Elem cl_EXECUTION 5 r0 := elem_in (own_eqR e_EXECUTION_5 n_IO) nr_EXECUTION rfl Ar_EXECUTION.1
  obtain ⟨u4, n_CONNECTION⟩ := exa_v x_CONNECTION
  have S_CONNECTION : Sta s s.heap "com/example/hawtip/hawtip/dispatch/Policy" "CONNECTION" "Lcom/example/hawtip/hawtip/dispatch/Policy;" (.ref u4) := Sta.start n_CONNECTION (Or.inr ⟨hw _ (List.mem_of_getElem? (i := 6) rfl), hw _ (List.mem_of_getElem? (i := 44) rfl)⟩)
  have E_CONNECTION : Exa s s.heap u4 "com/example/hawtip/hawtip/dispatch/Policy" := Exa.start n_CONNECTION x_CONNECTION
  obtain ⟨ra_CONNECTION, nr_CONNECTION⟩ := arr_v a_CONNECTION
  have Fr_CONNECTION : Fld s s.heap u4 "com/example/hawtip/hawtip/dispatch/Policy" "routes" "[Lcom/example/hawtip/hawtip/dispatch/Policy$Route;" (.ref ra_CONNECTION) := Fld.start ((fld_at n_CONNECTION).symm.trans nr_CONNECTION)
  obtain ⟨cl_CONNECTION, Ar_CONNECTION⟩ := Arr.start nr_CONNECTION a_CONNECTION
  have hl_CONNECTION := own_len (own_eqI l_CONNECTION) nr_CONNECTION Ar_CONNECTION.1
  have El_CONNECTION_0 : Elem cl_CONNECTION 0 r2 := elem_in (own_eqR e_CONNECTION_0 n_CONNECTION_THREAD) nr_CONNECTION rfl Ar_CONNECTION.1
  have El_CONNECTION_1 : Elem cl_CONNECTION 1 r2 := elem_in (own_eqR e_CONNECTION_1 n_CONNECTION_THREAD) nr_CONNECTION rfl Ar_CONNECTION.1
  have El_CONNECTION_2 : Elem cl_CONNECTION 2 r0 := elem_in (own_eqR e_CONNECTION_2 n_IO) nr_CONNECTION rfl Ar_CONNECTION.1
  have El_CONNECTION_3 : Elem cl_CONNECTION 3 r1 := elem_in (own_eqR e_CONNECTION_3 n_POOL) nr_CONNECTION rfl Ar_CONNECTION.1
  have El_CONNECTION_4 : Elem cl_CONNECTION 4 r1 := elem_in (own_eqR e_CONNECTION_4 n_POOL) nr_CONNECTION rfl Ar_CONNECTION.1
  have El_CONNECTION_5 : Elem cl_CONNECTION 5 r1 := elem_in (own_eqR e_CONNECTION_5 n_POOL) nr_CONNECTION rfl Ar_CONNECTION.1
  have d01 : r0 ≠ r1 := Fld.ne F_IO F_POOL (by decide)
  have d02 : r0 ≠ r2 := Fld.ne F_IO F_CONNECTION_THREAD (by decide)
  have d12 : r1 ≠ r2 := Fld.ne F_POOL F_CONNECTION_THREAD (by decide)
  have hk5 : ∀ k : Int32, k = ((i0 &&& (2147483647 : Int32)) % (5 : Int32)) → k = 0 ∨ k = 1 ∨ k = 2 ∨ k = 3 ∨ k = 4 := fun k hk => own_mod5 _ k hk
  obtain ⟨kk, ek⟩ : ∃ kk, kk = ((i0 &&& (2147483647 : Int32)) % (5 : Int32)) := ⟨_, rfl⟩
  obtain ⟨qq, eq⟩ : ∃ qq, qq = ((i1 &&& (2147483647 : Int32)) % (3 : Int32)) := ⟨_, rfl⟩
  have hkk := hk5 kk ek
  obtain ⟨ra, t0, t1, t2, t3, t4, t5, cl, Ep, Fr_, Ar, hlen, El0, El1, El2, El3, El4, El5, hEq⟩ : ∃ (ra t0 t1 t2 t3 t4 t5 : Addr) (cl : Cell), Exa s s.heap (polF kk u0 u1 u2 u3 u4) "com/example/hawtip/hawtip/dispatch/Policy" ∧ Fld s s.heap (polF kk u0 u1 u2 u3 u4) "com/example/hawtip/hawtip/dispatch/Policy" "routes" "[Lcom/example/hawtip/hawtip/dispatch/Policy$Route;" (.ref ra) ∧ Arr s s.heap ra cl (.object "com/example/hawtip/hawtip/dispatch/Policy$Route") ∧ cl.slots.size.toInt32 = 6 ∧ Elem cl 0 t0 ∧ Elem cl 1 t1 ∧ Elem cl 2 t2 ∧ Elem cl 3 t3 ∧ Elem cl 4 t4 ∧ Elem cl 5 t5 ∧ usesF t0 t1 t2 t3 t4 t5 (routeF qq r0 r1 r2) = expF kk qq := by
    rcases hkk with rfl | rfl | rfl | rfl | rfl
    · exact ⟨ra_ALL, r1, r1, r0, r1, r1, r1, cl_ALL, E_ALL, Fr_ALL, Ar_ALL, hl_ALL, El_ALL_0, El_ALL_1, El_ALL_2, El_ALL_3, El_ALL_4, El_ALL_5, own_exp0 d01 d02 d12 qq⟩
    · exact ⟨ra_DIRECT, r0, r0, r0, r0, r0, r0, cl_DIRECT, E_DIRECT, Fr_DIRECT, Ar_DIRECT, hl_DIRECT, El_DIRECT_0, El_DIRECT_1, El_DIRECT_2, El_DIRECT_3, El_DIRECT_4, El_DIRECT_5, own_exp1 d01 d02 d12 qq⟩
    · exact ⟨ra_MESSAGE, r0, r0, r0, r1, r1, r0, cl_MESSAGE, E_MESSAGE, Fr_MESSAGE, Ar_MESSAGE, hl_MESSAGE, El_MESSAGE_0, El_MESSAGE_1, El_MESSAGE_2, El_MESSAGE_3, El_MESSAGE_4, El_MESSAGE_5, own_exp2 d01 d02 d12 qq⟩
    · exact ⟨ra_EXECUTION, r0, r0, r0, r1, r0, r0, cl_EXECUTION, E_EXECUTION, Fr_EXECUTION, Ar_EXECUTION, hl_EXECUTION, El_EXECUTION_0, El_EXECUTION_1, El_EXECUTION_2, El_EXECUTION_3, El_EXECUTION_4, El_EXECUTION_5, own_exp3 d01 d02 d12 qq⟩
    · exact ⟨ra_CONNECTION, r2, r2, r0, r1, r1, r1, cl_CONNECTION, E_CONNECTION, Fr_CONNECTION, Ar_CONNECTION, hl_CONNECTION, El_CONNECTION_0, El_CONNECTION_1, El_CONNECTION_2, El_CONNECTION_3, El_CONNECTION_4, El_CONNECTION_5, own_exp4 d01 d02 d12 qq⟩
  subst ek eq
  obtain ⟨n, o, h1, h2, h3, _, L, rfl, ⟨rfl, N, -⟩, hq⟩ := rm0 l s _ hw tables_1 i0 i1 u0 u1 u2 u3 u4 r0 r1 r2 v0 v1 v2 v3 v4 v5 ra t0 t1 t2 t3 t4 t5 cl s.heap s.heap.size (Nat.le_refl _) S_ALL S_DIRECT S_MESSAGE S_EXECUTION S_CONNECTION S_IO S_POOL S_CONNECTION_THREAD S_CONNECTED S_DISCONNECTED S_SENT S_REQUEST S_RESPONSE S_CAUGHT Ep Fr_ Ar hlen El0 El1 El2 El3 El4 El5 F_CONNECTED F_DISCONNECTED F_SENT F_REQUEST F_RESPONSE F_CAUGHT E_CONNECTED E_DISCONNECTED E_SENT E_REQUEST E_RESPONSE E_CAUGHT hEq p e ha hc hk s m _ below hf ((Spec.applies_iff_loose hf).mp happ).1 ⟨rfl, State.Warmed39.refl s, rfl⟩ trivial
  refine ⟨n, _, h1, h2, h3, hpost _ _ _ _ _ _ ⟨Cond.after_iff.mpr rfl, Cond.after_iff.mpr (eq_i res_at (Term.int_eval (1)) rfl), trivial⟩ ⟨hq.1, hq.2.1, (hq.2.2.sift fun y hy => Or.inr (N y hy)).mono (by decide) (by decide)⟩⟩
theorem main_1_1 : Claimed_1_1 := comes_1 fun _ _ _ _ _ _ h hF => ⟨h.1, hF⟩
theorem main_1_2 : Claimed_1_2 := comes_1 fun _ _ _ _ _ _ h hF => ⟨h.2.1, hF⟩
end Jvm.Pilot.@@N@@
namespace Jvm.Pilot.@@N@@
open Jvm Jvm.ClassFile Sem Op Lib Jvm.Free Jvm.Stand Jvm.Pilot.@@N@@.Jvm.D
/-! MADE BY PROGRAM (witnessworld.py) out of the Statement's table words and the real class files: 15 classes; the members and pool entries that the words name. The judged class is class 1, her method 3. -/
namespace start1
open Jvm.ClassFile
def u (s : String) : CpInfo := .utf8 (stringToUtf16 s)
/-- a pool by its gaps: so many unusable entries, then the entry; so many at the end -/
def gap : Nat → List CpInfo → List CpInfo
  | 0, r => r
  | n + 1, r => .unusable :: gap n r
def poolList (es : List (Nat × CpInfo)) (last : Nat) : List CpInfo := es.foldr (fun e r => gap e.1 (e.2 :: r)) (gap last [])
def pool (es : List (Nat × CpInfo)) (last : Nat) : Array CpInfo := ⟨poolList es last⟩
def fileOf (pool : Array CpInfo) (this : Nat) (attrs : Array Attribute := #[]) (ms : Array MethodInfo := #[]) (fl : Nat := 33) (sup : Nat := 0) (ifs : Array Nat := #[]) (fds : Array FieldInfo := #[]) : ClassFile where
  minorVersion := 0
  majorVersion := 65
  constantPool := pool
  accessFlags := fl
  thisClass := this
  superClass := sup
  interfaces := ifs
  fields := fds
  methods := ms
  attributes := attrs
def plain (name : String) (sup : Option ClassId) : Class where
  name := name
  kind := .ordinary
  loader := none
  accessFlags := 33
  super := sup
  interfaces := #[]
  cf := none
  fields := #[]
  methods := #[]
  instanceTypes := #[]
  staticTypes := #[]
  resolved := #[]
  callSites := []
  init := .initialized
  statics := none
  mirror := none

def pool0 : Array CpInfo := pool [(5, u "<init>"), (0, u "()V"), (1, .class_ 10), (1, u "java/lang/Object")] 113

def k0m0 : Method := { name := "<init>", desc := "()V", sig := { parameters := [], returnType := none }, accessFlags := 1, code := none }
/-- java/lang/Object -/
def k0 : Class := { plain "java/lang/Object" none with
  accessFlags := 33
  interfaces := #[]
  cf := some (fileOf pool0 8 #[] #[{ accessFlags := 1, nameIndex := 5, descriptorIndex := 6, attributes := #[] }] 33 0 #[] #[])
  fields := #[]
  methods := #[k0m0]
  instanceTypes := #[]
  staticTypes := #[]
  resolved := Array.replicate 124 none
  statics := none }

def pool1 : Array CpInfo := pool [(2, .class_ 4), (1, u "java/lang/Object"), (0, u "<init>"), (0, u "()V"), (0, .fieldref 8 9), (0, .class_ 10), (0, .nameAndType 11 12), (0, u "com/example/hawtip/hawtip/dispatch/Policy"), (0, u "ALL"), (0, u "Lcom/example/hawtip/hawtip/dispatch/Policy;"), (0, .fieldref 8 14), (0, .nameAndType 15 12), (0, u "DIRECT"), (0, .fieldref 8 17), (0, .nameAndType 18 12), (0, u "MESSAGE"), (0, .fieldref 8 20), (0, .nameAndType 21 12), (0, u "EXECUTION"), (0, .fieldref 8 23), (0, .nameAndType 24 12), (0, u "CONNECTION"), (0, .fieldref 26 27), (0, .class_ 28), (0, .nameAndType 29 30), (0, u "com/example/hawtip/hawtip/dispatch/Policy$Route"), (0, u "IO"), (0, u "Lcom/example/hawtip/hawtip/dispatch/Policy$Route;"), (0, .fieldref 26 32), (0, .nameAndType 33 30), (0, u "POOL"), (0, .fieldref 26 35), (0, .nameAndType 36 30), (0, u "CONNECTION_THREAD"), (0, .integer 2147483647), (0, .methodref 39 40), (0, .class_ 41), (0, .nameAndType 42 43), (0, u "com/example/hawtip/hawtip/dispatch/PolicyUsesPinLaw"), (0, u "policyOf"), (0, u "(I)Lcom/example/hawtip/hawtip/dispatch/Policy;"), (0, .methodref 39 45), (0, .nameAndType 46 47), (0, u "routeOf"), (0, u "(I)Lcom/example/hawtip/hawtip/dispatch/Policy$Route;"), (0, .fieldref 49 50), (0, .class_ 51), (0, .nameAndType 52 53), (0, u "com/example/hawtip/hawtip/dispatch/Event"), (0, u "CONNECTED"), (0, u "Lcom/example/hawtip/hawtip/dispatch/Event;"), (0, .methodref 8 55), (0, .nameAndType 56 57), (0, u "route"), (0, u "(Lcom/example/hawtip/hawtip/dispatch/Event;)Lcom/example/hawtip/hawtip/dispatch/Policy$Route;"), (0, .fieldref 49 59), (0, .nameAndType 60 53), (0, u "DISCONNECTED"), (0, .fieldref 49 62), (0, .nameAndType 63 53), (0, u "SENT"), (0, .fieldref 49 65), (0, .nameAndType 66 53), (0, u "REQUEST"), (0, .fieldref 49 68), (0, .nameAndType 69 53), (0, u "RESPONSE"), (0, .fieldref 49 71), (0, .nameAndType 72 53), (0, u "CAUGHT"), (0, .methodref 8 74), (0, .nameAndType 75 76), (0, u "uses"), (0, u "(Lcom/example/hawtip/hawtip/dispatch/Policy$Route;)Z"), (3, u "law"), (0, u "(II)Z")] 4

def k1m0 : Method := { name := "<init>", desc := "()V", sig := { parameters := [], returnType := none }, accessFlags := 1, code := none }
def k1c1 : Code := { maxStack := 2, maxLocals := 1, code := method_2_code, exceptionTable := #[], attributes := #[] }
def k1m1 : Method := { name := "policyOf", desc := "(I)Lcom/example/hawtip/hawtip/dispatch/Policy;", sig := { parameters := [.int], returnType := some (.object "com/example/hawtip/hawtip/dispatch/Policy") }, accessFlags := 10, code := some k1c1 }
def k1c2 : Code := { maxStack := 2, maxLocals := 1, code := method_3_code, exceptionTable := #[], attributes := #[] }
def k1m2 : Method := { name := "routeOf", desc := "(I)Lcom/example/hawtip/hawtip/dispatch/Policy$Route;", sig := { parameters := [.int], returnType := some (.object "com/example/hawtip/hawtip/dispatch/Policy$Route") }, accessFlags := 10, code := some k1c2 }
def k1c3 : Code := { maxStack := 2, maxLocals := 9, code := code, exceptionTable := #[], attributes := #[] }
def k1m3 : Method := { name := "law", desc := "(II)Z", sig := { parameters := [.int, .int], returnType := some .boolean }, accessFlags := 9, code := some k1c3 }
/-- com/example/hawtip/hawtip/dispatch/PolicyUsesPinLaw -/
def k1 : Class := { plain "com/example/hawtip/hawtip/dispatch/PolicyUsesPinLaw" (some 0) with
  accessFlags := 49
  interfaces := #[]
  cf := some (fileOf pool1 39 #[] #[{ accessFlags := 1, nameIndex := 5, descriptorIndex := 6, attributes := #[] }, { accessFlags := 10, nameIndex := 42, descriptorIndex := 43, attributes := #[] }, { accessFlags := 10, nameIndex := 46, descriptorIndex := 47, attributes := #[] }, { accessFlags := 9, nameIndex := 80, descriptorIndex := 81, attributes := #[] }] 49 2 #[] #[])
  fields := #[]
  methods := #[k1m0, k1m1, k1m2, k1m3]
  instanceTypes := #[]
  staticTypes := #[]
  resolved := Array.replicate 86 none
  statics := none }

def pool2 : Array CpInfo := pool [(1, .class_ 2), (0, u "java/lang/constant/Constable"), (0, .class_ 4), (0, u "java/lang/Object")] 6

/-- java/lang/constant/Constable -/
def k2 : Class := { plain "java/lang/constant/Constable" (some 0) with
  accessFlags := 1537
  interfaces := #[]
  cf := some (fileOf pool2 1 #[] #[] 1537 3 #[] #[])
  fields := #[]
  methods := #[]
  instanceTypes := #[]
  staticTypes := #[]
  resolved := Array.replicate 11 none
  statics := none }

def pool3 : Array CpInfo := pool [(1, .class_ 2), (0, u "java/lang/Comparable"), (0, .class_ 4), (0, u "java/lang/Object")] 7

/-- java/lang/Comparable -/
def k3 : Class := { plain "java/lang/Comparable" (some 0) with
  accessFlags := 1537
  interfaces := #[]
  cf := some (fileOf pool3 1 #[] #[] 1537 3 #[] #[])
  fields := #[]
  methods := #[]
  instanceTypes := #[]
  staticTypes := #[]
  resolved := Array.replicate 12 none
  statics := none }

def pool4 : Array CpInfo := pool [(1, .class_ 2), (0, u "java/io/Serializable"), (0, .class_ 4), (0, u "java/lang/Object")] 2

/-- java/io/Serializable -/
def k4 : Class := { plain "java/io/Serializable" (some 0) with
  accessFlags := 1537
  interfaces := #[]
  cf := some (fileOf pool4 1 #[] #[] 1537 3 #[] #[])
  fields := #[]
  methods := #[]
  instanceTypes := #[]
  staticTypes := #[]
  resolved := Array.replicate 7 none
  statics := none }

def pool5 : Array CpInfo := pool [(2, .class_ 4), (1, u "java/lang/Enum"), (0, u "name"), (0, u "Ljava/lang/String;"), (0, .fieldref 2 8), (0, .nameAndType 9 10), (0, u "ordinal"), (0, u "I"), (1, .class_ 14), (1, u "java/lang/Object"), (4, u "hash"), (86, .class_ 108), (1, u "java/lang/Enum$EnumDesc"), (2, .class_ 112), (0, u "java/lang/constant/Constable"), (0, .class_ 114), (0, u "java/lang/Comparable"), (0, .class_ 116), (0, u "java/io/Serializable"), (9, u "()I")] 77

def k5c0 : Code := { maxStack := 1, maxLocals := 1, code := jdk_37_method_2_code, exceptionTable := #[], attributes := #[] }
def k5m0 : Method := { name := "ordinal", desc := "()I", sig := { parameters := [], returnType := some .int }, accessFlags := 17, code := some k5c0 }
/-- java/lang/Enum -/
def k5 : Class := { plain "java/lang/Enum" (some 0) with
  accessFlags := 1057
  interfaces := #[2, 3, 4]
  cf := some (fileOf pool5 2 #[.nestMembers #[106]] #[{ accessFlags := 17, nameIndex := 9, descriptorIndex := 126, attributes := #[] }] 1057 12 #[111, 113, 115] #[{ accessFlags := 18, nameIndex := 5, descriptorIndex := 6, attributes := #[] }, { accessFlags := 18, nameIndex := 9, descriptorIndex := 10, attributes := #[] }, { accessFlags := 2, nameIndex := 19, descriptorIndex := 10, attributes := #[] }])
  fields := #[{ name := "name", type := (.object "java/lang/String"), accessFlags := 18, slot := 0, constantValue := 0 }, { name := "ordinal", type := .int, accessFlags := 18, slot := 1, constantValue := 0 }, { name := "hash", type := .int, accessFlags := 2, slot := 2, constantValue := 0 }]
  methods := #[k5m0]
  instanceTypes := #[(.object "java/lang/String"), .int, .int]
  staticTypes := #[]
  resolved := Array.replicate 204 none
  statics := none }

def pool6 : Array CpInfo := pool [(1, .class_ 2), (0, u "com/example/hawtip/hawtip/dispatch/Policy"), (2, u "ALL"), (0, u "Lcom/example/hawtip/hawtip/dispatch/Policy;"), (2, u "DIRECT"), (2, u "MESSAGE"), (2, u "EXECUTION"), (2, u "CONNECTION"), (2, u "$VALUES"), (0, u "[Lcom/example/hawtip/hawtip/dispatch/Policy;"), (6, .class_ 31), (1, u "java/lang/Enum"), (7, .class_ 41), (1, u "com/example/hawtip/hawtip/dispatch/Event"), (16, .fieldref 1 59), (0, .nameAndType 60 61), (0, u "routes"), (0, u "[Lcom/example/hawtip/hawtip/dispatch/Policy$Route;"), (19, u "()I"), (16, .methodref 39 99), (0, .nameAndType 100 81), (0, u "ordinal"), (14, .class_ 116), (0, u "com/example/hawtip/hawtip/dispatch/Policy$Route"), (30, u "route"), (0, u "(Lcom/example/hawtip/hawtip/dispatch/Event;)Lcom/example/hawtip/hawtip/dispatch/Policy$Route;"), (0, u "uses"), (0, u "(Lcom/example/hawtip/hawtip/dispatch/Policy$Route;)Z")] 23

def k6c0 : Code := { maxStack := 2, maxLocals := 2, code := prog_5_method_5_code, exceptionTable := #[], attributes := #[] }
def k6m0 : Method := { name := "route", desc := "(Lcom/example/hawtip/hawtip/dispatch/Event;)Lcom/example/hawtip/hawtip/dispatch/Policy$Route;", sig := { parameters := [(.object "com/example/hawtip/hawtip/dispatch/Event")], returnType := some (.object "com/example/hawtip/hawtip/dispatch/Policy$Route") }, accessFlags := 0, code := some k6c0 }
def k6c1 : Code := { maxStack := 2, maxLocals := 6, code := prog_5_method_6_code, exceptionTable := #[], attributes := #[] }
def k6m1 : Method := { name := "uses", desc := "(Lcom/example/hawtip/hawtip/dispatch/Policy$Route;)Z", sig := { parameters := [(.object "com/example/hawtip/hawtip/dispatch/Policy$Route")], returnType := some .boolean }, accessFlags := 0, code := some k6c1 }
/-- com/example/hawtip/hawtip/dispatch/Policy -/
def k6 : Class := { plain "com/example/hawtip/hawtip/dispatch/Policy" (some 5) with
  accessFlags := 16432
  interfaces := #[]
  cf := some (fileOf pool6 1 #[.nestMembers #[115]] #[{ accessFlags := 0, nameIndex := 147, descriptorIndex := 148, attributes := #[] }, { accessFlags := 0, nameIndex := 149, descriptorIndex := 150, attributes := #[] }] 16432 29 #[] #[{ accessFlags := 16409, nameIndex := 5, descriptorIndex := 6, attributes := #[] }, { accessFlags := 16409, nameIndex := 9, descriptorIndex := 6, attributes := #[] }, { accessFlags := 16409, nameIndex := 12, descriptorIndex := 6, attributes := #[] }, { accessFlags := 16409, nameIndex := 15, descriptorIndex := 6, attributes := #[] }, { accessFlags := 16409, nameIndex := 18, descriptorIndex := 6, attributes := #[] }, { accessFlags := 18, nameIndex := 60, descriptorIndex := 61, attributes := #[] }, { accessFlags := 4122, nameIndex := 21, descriptorIndex := 22, attributes := #[] }])
  fields := #[{ name := "ALL", type := (.object "com/example/hawtip/hawtip/dispatch/Policy"), accessFlags := 16409, slot := 0, constantValue := 0 }, { name := "DIRECT", type := (.object "com/example/hawtip/hawtip/dispatch/Policy"), accessFlags := 16409, slot := 1, constantValue := 0 }, { name := "MESSAGE", type := (.object "com/example/hawtip/hawtip/dispatch/Policy"), accessFlags := 16409, slot := 2, constantValue := 0 }, { name := "EXECUTION", type := (.object "com/example/hawtip/hawtip/dispatch/Policy"), accessFlags := 16409, slot := 3, constantValue := 0 }, { name := "CONNECTION", type := (.object "com/example/hawtip/hawtip/dispatch/Policy"), accessFlags := 16409, slot := 4, constantValue := 0 }, { name := "routes", type := (.array (.object "com/example/hawtip/hawtip/dispatch/Policy$Route")), accessFlags := 18, slot := 3, constantValue := 0 }, { name := "$VALUES", type := (.array (.object "com/example/hawtip/hawtip/dispatch/Policy")), accessFlags := 4122, slot := 5, constantValue := 0 }]
  methods := #[k6m0, k6m1]
  instanceTypes := #[(.object "java/lang/String"), .int, .int, (.array (.object "com/example/hawtip/hawtip/dispatch/Policy$Route"))]
  staticTypes := #[(.object "com/example/hawtip/hawtip/dispatch/Policy"), (.object "com/example/hawtip/hawtip/dispatch/Policy"), (.object "com/example/hawtip/hawtip/dispatch/Policy"), (.object "com/example/hawtip/hawtip/dispatch/Policy"), (.object "com/example/hawtip/hawtip/dispatch/Policy"), (.array (.object "com/example/hawtip/hawtip/dispatch/Policy"))]
  resolved := Array.replicate 174 none
  statics := some 0 }

def pool7 : Array CpInfo := pool [(1, .class_ 2), (0, u "com/example/hawtip/hawtip/dispatch/Policy$Route"), (2, u "IO"), (0, u "Lcom/example/hawtip/hawtip/dispatch/Policy$Route;"), (2, u "POOL"), (2, u "CONNECTION_THREAD"), (2, u "$VALUES"), (0, u "[Lcom/example/hawtip/hawtip/dispatch/Policy$Route;"), (6, .class_ 25), (1, u "java/lang/Enum"), (26, .class_ 53), (0, u "com/example/hawtip/hawtip/dispatch/Policy")] 2

/-- com/example/hawtip/hawtip/dispatch/Policy$Route -/
def k7 : Class := { plain "com/example/hawtip/hawtip/dispatch/Policy$Route" (some 5) with
  accessFlags := 16432
  interfaces := #[]
  cf := some (fileOf pool7 1 #[.nestHost 52] #[] 16432 23 #[] #[{ accessFlags := 16409, nameIndex := 5, descriptorIndex := 6, attributes := #[] }, { accessFlags := 16409, nameIndex := 9, descriptorIndex := 6, attributes := #[] }, { accessFlags := 16409, nameIndex := 12, descriptorIndex := 6, attributes := #[] }, { accessFlags := 4122, nameIndex := 15, descriptorIndex := 16, attributes := #[] }])
  fields := #[{ name := "IO", type := (.object "com/example/hawtip/hawtip/dispatch/Policy$Route"), accessFlags := 16409, slot := 0, constantValue := 0 }, { name := "POOL", type := (.object "com/example/hawtip/hawtip/dispatch/Policy$Route"), accessFlags := 16409, slot := 1, constantValue := 0 }, { name := "CONNECTION_THREAD", type := (.object "com/example/hawtip/hawtip/dispatch/Policy$Route"), accessFlags := 16409, slot := 2, constantValue := 0 }, { name := "$VALUES", type := (.array (.object "com/example/hawtip/hawtip/dispatch/Policy$Route")), accessFlags := 4122, slot := 3, constantValue := 0 }]
  methods := #[]
  instanceTypes := #[(.object "java/lang/String"), .int, .int]
  staticTypes := #[(.object "com/example/hawtip/hawtip/dispatch/Policy$Route"), (.object "com/example/hawtip/hawtip/dispatch/Policy$Route"), (.object "com/example/hawtip/hawtip/dispatch/Policy$Route"), (.array (.object "com/example/hawtip/hawtip/dispatch/Policy$Route"))]
  resolved := Array.replicate 56 none
  statics := some 1 }

def pool8 : Array CpInfo := pool [(1, .class_ 2), (0, u "com/example/hawtip/hawtip/dispatch/Event"), (2, u "CONNECTED"), (0, u "Lcom/example/hawtip/hawtip/dispatch/Event;"), (2, u "DISCONNECTED"), (2, u "SENT"), (2, u "REQUEST"), (2, u "RESPONSE"), (2, u "CAUGHT"), (2, u "$VALUES"), (0, u "[Lcom/example/hawtip/hawtip/dispatch/Event;"), (6, .class_ 34), (1, u "java/lang/Enum")] 52

/-- com/example/hawtip/hawtip/dispatch/Event -/
def k8 : Class := { plain "com/example/hawtip/hawtip/dispatch/Event" (some 5) with
  accessFlags := 16432
  interfaces := #[]
  cf := some (fileOf pool8 1 #[] #[] 16432 32 #[] #[{ accessFlags := 16409, nameIndex := 5, descriptorIndex := 6, attributes := #[] }, { accessFlags := 16409, nameIndex := 9, descriptorIndex := 6, attributes := #[] }, { accessFlags := 16409, nameIndex := 12, descriptorIndex := 6, attributes := #[] }, { accessFlags := 16409, nameIndex := 15, descriptorIndex := 6, attributes := #[] }, { accessFlags := 16409, nameIndex := 18, descriptorIndex := 6, attributes := #[] }, { accessFlags := 16409, nameIndex := 21, descriptorIndex := 6, attributes := #[] }, { accessFlags := 4122, nameIndex := 24, descriptorIndex := 25, attributes := #[] }])
  fields := #[{ name := "CONNECTED", type := (.object "com/example/hawtip/hawtip/dispatch/Event"), accessFlags := 16409, slot := 0, constantValue := 0 }, { name := "DISCONNECTED", type := (.object "com/example/hawtip/hawtip/dispatch/Event"), accessFlags := 16409, slot := 1, constantValue := 0 }, { name := "SENT", type := (.object "com/example/hawtip/hawtip/dispatch/Event"), accessFlags := 16409, slot := 2, constantValue := 0 }, { name := "REQUEST", type := (.object "com/example/hawtip/hawtip/dispatch/Event"), accessFlags := 16409, slot := 3, constantValue := 0 }, { name := "RESPONSE", type := (.object "com/example/hawtip/hawtip/dispatch/Event"), accessFlags := 16409, slot := 4, constantValue := 0 }, { name := "CAUGHT", type := (.object "com/example/hawtip/hawtip/dispatch/Event"), accessFlags := 16409, slot := 5, constantValue := 0 }, { name := "$VALUES", type := (.array (.object "com/example/hawtip/hawtip/dispatch/Event")), accessFlags := 4122, slot := 6, constantValue := 0 }]
  methods := #[]
  instanceTypes := #[(.object "java/lang/String"), .int, .int]
  staticTypes := #[(.object "com/example/hawtip/hawtip/dispatch/Event"), (.object "com/example/hawtip/hawtip/dispatch/Event"), (.object "com/example/hawtip/hawtip/dispatch/Event"), (.object "com/example/hawtip/hawtip/dispatch/Event"), (.object "com/example/hawtip/hawtip/dispatch/Event"), (.object "com/example/hawtip/hawtip/dispatch/Event"), (.array (.object "com/example/hawtip/hawtip/dispatch/Event"))]
  resolved := Array.replicate 87 none
  statics := some 2 }

def pool9 : Array CpInfo := pool [(1, u "java/lang/Cloneable"), (0, .class_ 1), (0, u "java/lang/Object"), (0, .class_ 3)] 3

/-- java/lang/Cloneable -/
def k9 : Class := { plain "java/lang/Cloneable" (some 0) with
  accessFlags := 1537
  interfaces := #[]
  cf := some (fileOf pool9 2 #[] #[] 1537 4 #[] #[])
  fields := #[]
  methods := #[]
  instanceTypes := #[]
  staticTypes := #[]
  resolved := Array.replicate 8 none
  statics := none }

/-- the primitive byte -/
def k10 : Class := { plain "byte" none with kind := .primitive 'B', accessFlags := 0x411 }
/-- [B -/
def k11 : Class := { plain "[B" (some 0) with kind := .array 10 .byte, interfaces := #[9, 4], accessFlags := 1041 }

/-- the primitive int -/
def k12 : Class := { plain "int" none with kind := .primitive 'I', accessFlags := 0x411 }
/-- [I -/
def k13 : Class := { plain "[I" (some 0) with kind := .array 12 .int, interfaces := #[9, 4], accessFlags := 1041 }

/-- [Lcom/example/hawtip/hawtip/dispatch/Policy$Route; -/
def k14 : Class := { plain "[Lcom/example/hawtip/hawtip/dispatch/Policy$Route;" (some 0) with kind := .array 7 (.object "com/example/hawtip/hawtip/dispatch/Policy$Route"), interfaces := #[9, 4], accessFlags := 1041 }

def heap : Heap := #[{ cls := 6, slots := #[.ref 17, .ref 18, .ref 19, .ref 20, .ref 21, .null], vm := .statics 6 },
  { cls := 7, slots := #[.ref 8, .ref 9, .ref 10, .null], vm := .statics 7 },
  { cls := 8, slots := #[.ref 11, .ref 12, .ref 13, .ref 14, .ref 15, .ref 16, .null], vm := .statics 8 },
  { cls := 14, slots := #[.ref 9, .ref 9, .ref 8, .ref 9, .ref 9, .ref 9], vm := .none },
  { cls := 14, slots := #[.ref 8, .ref 8, .ref 8, .ref 8, .ref 8, .ref 8], vm := .none },
  { cls := 14, slots := #[.ref 8, .ref 8, .ref 8, .ref 9, .ref 9, .ref 8], vm := .none },
  { cls := 14, slots := #[.ref 8, .ref 8, .ref 8, .ref 9, .ref 8, .ref 8], vm := .none },
  { cls := 14, slots := #[.ref 10, .ref 10, .ref 8, .ref 9, .ref 9, .ref 9], vm := .none },
  { cls := 7, slots := #[.null, .int 0, .int 0], vm := .none },
  { cls := 7, slots := #[.null, .int 1, .int 0], vm := .none },
  { cls := 7, slots := #[.null, .int 2, .int 0], vm := .none },
  { cls := 8, slots := #[.null, .int 0, .int 0], vm := .none },
  { cls := 8, slots := #[.null, .int 1, .int 0], vm := .none },
  { cls := 8, slots := #[.null, .int 2, .int 0], vm := .none },
  { cls := 8, slots := #[.null, .int 3, .int 0], vm := .none },
  { cls := 8, slots := #[.null, .int 4, .int 0], vm := .none },
  { cls := 8, slots := #[.null, .int 5, .int 0], vm := .none },
  { cls := 6, slots := #[.null, .int 0, .int 0, .ref 3], vm := .none },
  { cls := 6, slots := #[.null, .int 1, .int 0, .ref 4], vm := .none },
  { cls := 6, slots := #[.null, .int 2, .int 0, .ref 5], vm := .none },
  { cls := 6, slots := #[.null, .int 3, .int 0, .ref 6], vm := .none },
  { cls := 6, slots := #[.null, .int 4, .int 0, .ref 7], vm := .none }]
def classes : Array Class := #[k0, k1, k2, k3, k4, k5, k6, k7, k8, k9, k10, k11, k12, k13, k14]
def interned : List (Array UInt16 × Addr) := []
def slotsUsed : Nat := 94
def theMethod : MethodId := ⟨1, 3⟩
def args0 : Array Value := #[.int 5, .int 7]
def aboutOver (below : List Frame) : State where
  vm := { classes := classes, interned := interned.toArray }
  heap := heap
  slotsUsed := slotsUsed
  threads := #[{ frames := .invoking theMethod args0 :: below }]
def below0 : List Frame := [.native { method := ⟨0, 0⟩, args := #[] }]
def about1 : State := aboutOver below0
def p0 : Program := .bare "" "" ""
def e0 : Env := launch0.env 0 0 0
theorem w_frames : about1.frames = Frame.invoking theMethod args0 :: below0 := rfl
set_option maxRecDepth 65536 in
theorem w_args : argsFit about1.vm theMethod args0 = true := by decide +kernel
set_option maxRecDepth 65536 in
theorem w_heap : heapFits about1 = true := by decide +kernel
set_option maxRecDepth 65536 in
theorem w_runnable : about1.curStatus? = some .runnable := by decide +kernel
set_option maxRecDepth 65536 in
theorem w_alone : about1.alone = true := by decide +kernel
set_option maxRecDepth 65536 in
theorem w_named : about1.methodNamed? x = some theMethod := by decide +kernel
set_option maxRecDepth 65536 in
theorem w_hears : about1.hears theMethod below0 = true := by decide +kernel
set_option maxRecDepth 65536 in
theorem w_ripe : about1.ripe theMethod args0 below0 = true := by decide +kernel
theorem w_running : about1.status = .running := rfl
set_option maxRecDepth 65536 in
theorem w_room : about1.hasRoom e0.platform room_1 = true :=
  launch0.hasRoom_least _ room_1 (by decide +kernel) (by decide +kernel) (by decide +kernel) (by decide +kernel) (by decide +kernel) (by decide +kernel)
theorem allAtoms_all (ts : List Jvm.Cond) (a : Array Jvm.Value) (st : Jvm.State) : (allAtoms ts).before a st = ts.all (fun c => c.before a st) := by
  induction ts with
  | nil => rfl
  | cons c t ih =>
    show (Jvm.Cond.and c (allAtoms t)).before a st = _
    rw [Jvm.Cond.before_and, ih, List.all_cons]
def words1 : List Jvm.Cond := Jvm.Cond.code x code maxLocals ret :: tables_1
/-- a 'code' word, met by the world's own term for the bytes: nothing is compared byte by byte -/
theorem code_word {y : MethodName} {bytes : ByteArray} {mx : Nat} {rt : Option FieldType} {a : Array Value} {s : State} {m : MethodId} {meth : Method} {c : Code} (h1 : s.methodNamed? y = some m) (h2 : s.vm.method? m = some meth) (h3 : meth.code = some c) (h4 : c.code = bytes)
    (h5 : (c.maxLocals == mx && c.exceptionTable.isEmpty && decide (c.maxStack ≤ mostOperands) && decide (meth.sig.returnType = rt) && !meth.locks && decide (parseMethodDescriptor y.desc = some meth.sig)) = true) : (Jvm.Cond.code y bytes mx rt).before a s = true := by
  simp only [Bool.and_eq_true, beq_iff_eq, Bool.not_eq_true', decide_eq_true_eq] at h5
  obtain ⟨⟨⟨⟨⟨g1, g2⟩, g3⟩, g4⟩, g5⟩, g6⟩ := h5
  simp [Cond.before, Cond.holds, Cond.value, h1, h2, h3, h4, g1, g2, g3, g4, g5, g6]
def isCode : Jvm.Cond → Bool
  | .code _ _ _ _ => true
  | _ => false
theorem all_split {L : List Jvm.Cond} {P : Jvm.Cond → Bool} (h1 : L.all (fun c => isCode c || P c) = true) (h2 : ∀ c ∈ L.filter isCode, P c = true) : L.all P = true := by
  refine List.all_eq_true.mpr fun c hc => ?_
  have h := List.all_eq_true.mp h1 c hc
  rcases Bool.eq_false_or_eq_true (isCode c) with hi | hi
  · exact h2 c (List.mem_filter.mpr ⟨hc, hi⟩)
  · simpa [hi] using h
set_option maxRecDepth 65536 in
theorem w_c0 : (Jvm.Cond.code x code maxLocals ret).before args0 about1 = true := code_word (m := ⟨1, 3⟩) (meth := k1m3) (c := k1c3) (by decide +kernel) rfl rfl rfl (by decide +kernel)
set_option maxRecDepth 65536 in
theorem w_c1 : (Jvm.Cond.code ({ cls := "com/example/hawtip/hawtip/dispatch/PolicyUsesPinLaw", name := "policyOf", desc := "(I)Lcom/example/hawtip/hawtip/dispatch/Policy;" } : Jvm.MethodName) method_2_code (1 : Nat) (Option.some (Jvm.ClassFile.FieldType.object "com/example/hawtip/hawtip/dispatch/Policy"))).before args0 about1 = true := code_word (m := ⟨1, 1⟩) (meth := k1m1) (c := k1c1) (by decide +kernel) rfl rfl rfl (by decide +kernel)
set_option maxRecDepth 65536 in
theorem w_c2 : (Jvm.Cond.code ({ cls := "com/example/hawtip/hawtip/dispatch/PolicyUsesPinLaw", name := "routeOf", desc := "(I)Lcom/example/hawtip/hawtip/dispatch/Policy$Route;" } : Jvm.MethodName) method_3_code (1 : Nat) (Option.some (Jvm.ClassFile.FieldType.object "com/example/hawtip/hawtip/dispatch/Policy$Route"))).before args0 about1 = true := code_word (m := ⟨1, 2⟩) (meth := k1m2) (c := k1c2) (by decide +kernel) rfl rfl rfl (by decide +kernel)
set_option maxRecDepth 65536 in
theorem w_c3 : (Jvm.Cond.code ({ cls := "com/example/hawtip/hawtip/dispatch/Policy", name := "route", desc := "(Lcom/example/hawtip/hawtip/dispatch/Event;)Lcom/example/hawtip/hawtip/dispatch/Policy$Route;" } : Jvm.MethodName) prog_5_method_5_code (2 : Nat) (Option.some (Jvm.ClassFile.FieldType.object "com/example/hawtip/hawtip/dispatch/Policy$Route"))).before args0 about1 = true := code_word (m := ⟨6, 0⟩) (meth := k6m0) (c := k6c0) (by decide +kernel) rfl rfl rfl (by decide +kernel)
set_option maxRecDepth 65536 in
theorem w_c4 : (Jvm.Cond.code ({ cls := "java/lang/Enum", name := "ordinal", desc := "()I" } : Jvm.MethodName) jdk_37_method_2_code (1 : Nat) (Option.some Jvm.ClassFile.FieldType.int)).before args0 about1 = true := code_word (m := ⟨5, 0⟩) (meth := k5m0) (c := k5c0) (by decide +kernel) rfl rfl rfl (by decide +kernel)
set_option maxRecDepth 65536 in
theorem w_c5 : (Jvm.Cond.code ({ cls := "com/example/hawtip/hawtip/dispatch/Policy", name := "uses", desc := "(Lcom/example/hawtip/hawtip/dispatch/Policy$Route;)Z" } : Jvm.MethodName) prog_5_method_6_code (6 : Nat) (Option.some Jvm.ClassFile.FieldType.boolean)).before args0 about1 = true := code_word (m := ⟨6, 1⟩) (meth := k6m1) (c := k6c1) (by decide +kernel) rfl rfl rfl (by decide +kernel)
def codes1 : List Jvm.Cond := [Jvm.Cond.code x code maxLocals ret, Jvm.Cond.code ({ cls := "com/example/hawtip/hawtip/dispatch/PolicyUsesPinLaw", name := "policyOf", desc := "(I)Lcom/example/hawtip/hawtip/dispatch/Policy;" } : Jvm.MethodName) method_2_code (1 : Nat) (Option.some (Jvm.ClassFile.FieldType.object "com/example/hawtip/hawtip/dispatch/Policy")), Jvm.Cond.code ({ cls := "com/example/hawtip/hawtip/dispatch/PolicyUsesPinLaw", name := "routeOf", desc := "(I)Lcom/example/hawtip/hawtip/dispatch/Policy$Route;" } : Jvm.MethodName) method_3_code (1 : Nat) (Option.some (Jvm.ClassFile.FieldType.object "com/example/hawtip/hawtip/dispatch/Policy$Route")), Jvm.Cond.code ({ cls := "com/example/hawtip/hawtip/dispatch/Policy", name := "route", desc := "(Lcom/example/hawtip/hawtip/dispatch/Event;)Lcom/example/hawtip/hawtip/dispatch/Policy$Route;" } : Jvm.MethodName) prog_5_method_5_code (2 : Nat) (Option.some (Jvm.ClassFile.FieldType.object "com/example/hawtip/hawtip/dispatch/Policy$Route")), Jvm.Cond.code ({ cls := "java/lang/Enum", name := "ordinal", desc := "()I" } : Jvm.MethodName) jdk_37_method_2_code (1 : Nat) (Option.some Jvm.ClassFile.FieldType.int), Jvm.Cond.code ({ cls := "com/example/hawtip/hawtip/dispatch/Policy", name := "uses", desc := "(Lcom/example/hawtip/hawtip/dispatch/Policy$Route;)Z" } : Jvm.MethodName) prog_5_method_6_code (6 : Nat) (Option.some Jvm.ClassFile.FieldType.boolean)]
set_option maxRecDepth 65536 in
theorem codes_eq : words1.filter isCode = codes1 := rfl
theorem w_codes : ∀ c ∈ words1.filter isCode, c.before args0 about1 = true := by
  rw [codes_eq]
  intro c hc
  simp only [codes1, List.mem_cons, List.not_mem_nil, or_false] at hc
  rcases hc with rfl | rfl | rfl | rfl | rfl | rfl
  · exact w_c0
  · exact w_c1
  · exact w_c2
  · exact w_c3
  · exact w_c4
  · exact w_c5
set_option maxRecDepth 65536 in
theorem w_t1 : (words1.take 24).all (fun c => isCode c || c.before args0 about1) = true := by decide +kernel
set_option maxRecDepth 65536 in
theorem w_t2 : ((words1.drop 24).take 24).all (fun c => isCode c || c.before args0 about1) = true := by decide +kernel
set_option maxRecDepth 65536 in
theorem w_t3 : ((words1.drop 24).drop 24).all (fun c => isCode c || c.before args0 about1) = true := by decide +kernel
theorem w_tables : (allAtoms (Jvm.Cond.code x code maxLocals ret :: tables_1)).before args0 about1 = true := by
  rw [allAtoms_all]
  show words1.all (fun c => c.before args0 about1) = true
  refine all_split ?_ w_codes
  rw [← List.take_append_drop 24 words1, List.all_append, w_t1, ← List.take_append_drop 24 (words1.drop 24), List.all_append, w_t2, w_t3]
  rfl
set_option maxRecDepth 65536 in
theorem w_case : (Jvm.Cond.and given_1 narrow_1).before args0 about1 = true := by decide +kernel
theorem w_applies : (headSpec (Jvm.Cond.code x code maxLocals ret :: tables_1) room_1).applies x e0.platform about1 = true :=
  (Spec.applies_iff w_frames).mpr ⟨w_running, w_runnable, w_alone, w_named, w_hears, w_ripe, w_room, w_tables⟩
theorem atStart : AtStart classFile x code maxLocals ret World_1 tables_1 room_1 Calls_1 rest_1 Pre_1 launch0 p0 e0 about1 theMethod args0 below0 :=
  ⟨lists_1, trivial, launch0.admits_env _ _ _, launch0.least_env, fairChoices_fair.cas, fairChoices_fair.clock, w_frames, w_args, w_heap, w_applies, trivial, trivial, w_case⟩
end start1
theorem witness_1 : WitnessClaimed_1 := ⟨start1.p0, start1.e0, start1.about1, start1.theMethod, start1.args0, start1.below0, start1.atStart⟩
end Jvm.Pilot.@@N@@
