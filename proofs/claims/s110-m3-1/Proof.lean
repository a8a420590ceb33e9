import JvmDerived
import JvmDerived.Pilot.@@N@@Statement
import JvmDerived.Pilot.@@N@@Code
set_option linter.unusedVariables false
set_option linter.unusedSimpArgs false

namespace Jvm.RoadKit
open Sem ClassFile Op Lib Jvm.Stand Jvm.Free Jvm.LawKit
section New
variable {p : Program} {l : Launch} {e : Env} {R : Room} {s : State} {m : MethodId} {args : Array Value} {below : List Frame} {meth : Method} {c : Code} {T : State} {locs : List Loc} {cells slots : Nat}
theorem retI (X : Stand p l e R s m args below meth c T locs cells slots) (hx : p.tables.exec = Jvm.exec) {pc : Nat} {Ls : Array Slot} {z : Int32} {rest : List Value} (hret : meth.sig.returnType = some .int) (hd : decode c.code pc = .ok (.ireturn, 1)) {fs : List Frame}
    (hl : ∀ (f : JFrame) (acts : List Action), f.method = m → f.locked = none → f.entered = [] → (doReturn e (T.setTop f) acts (some (.int z))).1 = T.setFrames fs) : Steps p.tables e below (T.setTop (mkF m pc Ls (.int z :: rest))) (T.setFrames fs) := by
  have hm' : T.vm.method? m = some meth := X.method'
  have hn : narrow .int (.int z) = .int z := rfl
  show Steps p.tables e below (T.setTop { method := m, pc := pc, locals := Ls, stack := _ :: rest, locked := none }) _
  jvm_step X.here [X.here.top, hx, hd, hm', hret, hn]
  first | (intro acts; rw [hl _ acts rfl rfl rfl]) | rw [hl _ _ rfl rfl rfl]
  exact Steps.refl _
end New
end Jvm.RoadKit

namespace Jvm.Pilot.@@N@@
open Jvm Jvm.ClassFile Sem Op Lib Jvm.Free Jvm.Stand Jvm.LawKit Jvm.RoadKit Bundle Jvm.Pilot.@@N@@.Jvm.D

def Q1 (Z : State) (r : Value) (h0 : Heap) (n0 : Nat) (v : Option Value) (h : Heap) (L : List Loc) : Prop := v = some r ∧ Fr n0 L ∧ h = h0
/-- the object a with its three arrays of two -/
def Cel (Z : State) (h : Heap) (n0 : Nat) (a ka wa ba : Addr) (ck cw cb : ClassId) (k0 k1 : Int32) (q0 q1 : Int64) (v0 v1 : Value) : Prop :=
  Exa Z h a "com/example/hornbrook/hornbrook/Cells" ∧ Fld Z h a "com/example/hornbrook/hornbrook/Cells" "kinds" "[B" (.ref ka) ∧ Fld Z h a "com/example/hornbrook/hornbrook/Cells" "words" "[J" (.ref wa) ∧ Fld Z h a "com/example/hornbrook/hornbrook/Cells" "bytes" "[[B" (.ref ba) ∧
  Arv Z h ka ck .byte (2 : Int32) [.int k0, .int k1] (.int (0 : Int32)) ∧ Arv Z h wa cw .long (2 : Int32) [.long q0, .long q1] (.long (0 : Int64)) ∧ Arv Z h ba cb (.array .byte) (2 : Int32) [v0, v1] .null ∧ OvrA Z cb .byte "[B" ∧
  n0 ≤ ka ∧ n0 ≤ wa ∧ n0 ≤ ba ∧ ka ≠ wa ∧ ka ≠ ba ∧ wa ≠ ba ∧ a ≠ ka ∧ a ≠ wa ∧ a ≠ ba
def QI (Z : State) (a : Addr) (h0 : Heap) (n0 : Nat) (v : Option Value) (h : Heap) (L : List Loc) : Prop := v = none ∧ Fr n0 L ∧ Keep h0 h [a] ∧ ∃ (ka wa ba : Addr) (ck cw cb : ClassId), Cel Z h n0 a ka wa ba ck cw cb 0 0 0 0 .null .null
def QS (Z : State) (a ka wa ba : Addr) (ck cw cb : ClassId) (k0 k1 : Int32) (q0 q1 : Int64) (v0 v1 : Value) (h0 : Heap) (n0 : Nat) (v : Option Value) (h : Heap) (L : List Loc) : Prop := v = none ∧ Fr n0 L ∧ Keep h0 h [ka, wa, ba] ∧ Cel Z h n0 a ka wa ba ck cw cb k0 k1 q0 q1 v0 v1
def Byt (Z : State) (h : Heap) (v : Value) : Prop := v = .null ∨ ∃ y, v = .ref y ∧ Exa Z h y "[B"
theorem Byt.isRef {Z : State} {h : Heap} {v : Value} (B : Byt Z h v) : v.isRef = true := by rcases B with rfl | ⟨y, rfl, -⟩ <;> rfl
theorem Byt.keep {Z : State} {h h' : Heap} {v : Value} {ws : List Addr} (B : Byt Z h v) (K : Keep h h' ws) : Byt Z h' v := B.imp id fun ⟨y, e, E⟩ => ⟨y, e, E.keep K⟩
theorem own_bb (x : Int32) : x.toInt8.toInt32.toInt8.toInt32 = x.toInt8.toInt32 := by simp
theorem own_nb (x : Int32) : nar .byte x.toInt8.toInt32 = x.toInt8.toInt32 := own_bb x
theorem d1_0 : decode prog_38_method_1_code 0 = .ok (.aload_n 0, 1) := by decide +kernel
theorem d1_1 : decode prog_38_method_1_code 1 = .ok (.invokespecial 1, 3) := by decide +kernel
theorem d1_4 : decode prog_38_method_1_code 4 = .ok (.aload_n 0, 1) := by decide +kernel
theorem d1_5 : decode prog_38_method_1_code 5 = .ok (.iload_n 1, 1) := by decide +kernel
theorem d1_6 : decode prog_38_method_1_code 6 = .ok (.newarray .byte, 2) := by decide +kernel
theorem d1_8 : decode prog_38_method_1_code 8 = .ok (.putfield 7, 3) := by decide +kernel
theorem d1_11 : decode prog_38_method_1_code 11 = .ok (.aload_n 0, 1) := by decide +kernel
theorem d1_12 : decode prog_38_method_1_code 12 = .ok (.iload_n 1, 1) := by decide +kernel
theorem d1_13 : decode prog_38_method_1_code 13 = .ok (.newarray .long, 2) := by decide +kernel
theorem d1_15 : decode prog_38_method_1_code 15 = .ok (.putfield 13, 3) := by decide +kernel
theorem d1_18 : decode prog_38_method_1_code 18 = .ok (.aload_n 0, 1) := by decide +kernel
theorem d1_19 : decode prog_38_method_1_code 19 = .ok (.iload_n 1, 1) := by decide +kernel
theorem d1_20 : decode prog_38_method_1_code 20 = .ok (.anewarray 17, 3) := by decide +kernel
theorem d1_23 : decode prog_38_method_1_code 23 = .ok (.putfield 18, 3) := by decide +kernel
theorem d1_26 : decode prog_38_method_1_code 26 = .ok (.return_, 1) := by decide +kernel
theorem pn1 : plainName "com/example/hornbrook/hornbrook/Cells" = true := by first | (simp [plainName, overriddenIn]; done) | decide +kernel
theorem ef1 (m : MethodId) (x0 : Addr) (x1 : Int32) : entryFrame m #[(.ref x0), (.int x1)] 2 = mkF m 0 #[.val (.ref x0), .val (.int x1)] [] := by first | (simp [entryFrame, mkF, argsToLocals, Value.category]; done) | rfl
set_option maxRecDepth 65536 in
set_option maxHeartbeats 40000000 in
theorem rm1 (l : Launch) (Z : State) (a0 : Array Value) (hw : ∀ d ∈ tables_1, d.before a0 Z = true) (ws : List Jvm.Cond) (a : Addr) (h0 : Heap) (n0 : Nat) (Z0 : n0 ≤ h0.size) (EX : Exa Z h0 a "com/example/hornbrook/hornbrook/Cells") (FK : Fld Z h0 a "com/example/hornbrook/hornbrook/Cells" "kinds" "[B" .null) (FW : Fld Z h0 a "com/example/hornbrook/hornbrook/Cells" "words" "[J" .null) (FB : Fld Z h0 a "com/example/hornbrook/hornbrook/Cells" "bytes" "[[B" .null) (gb_a : n0 ≤ a) :
    MetFree l (⟨"com/example/hornbrook/hornbrook/Cells", "<init>", "(I)V"⟩ : MethodName) (head1 (Jvm.Cond.code (⟨"com/example/hornbrook/hornbrook/Cells", "<init>", "(I)V"⟩ : MethodName) prog_38_method_1_code 2 none :: ws) ({ frames := 1, cells := 3, slots := 6, locals := 12 } : Room)) (fun aa_ U => aa_ = #[(.ref a), (.int (2 : Int32))] ∧ Z.Warmed39 U.vm ∧ U.heap = h0) (fun _ _ _ _ _ => True) (fun _ U o U' => ∃ vv_ LL_, o = .returned vv_ ∧ QI Z a h0 n0 vv_ U'.heap LL_ ∧ FrameEnd U o U' LL_ ({ frames := 1, cells := 3, slots := 6, locals := 12 } : Room).cells ({ frames := 1, cells := 3, slots := 6, locals := 12 } : Room).slots) := by
  refine MetFree.of_bodySF (plainFor_of_name pn1) hisR ?_
  intro p e s m args below meth c s₁ Bd hml0 hP hK
  obtain ⟨rfl, hZ, hh⟩ := hP
  have hx := Bd.exec
  have hby := Bd.bytes
  have hml : c.maxLocals = 2 := hml0
  have hown : s.vm.findClass "com/example/hornbrook/hornbrook/Cells" = some m.cls := findClass_of_methodNamed Bd.named
  have hnm := (name_of_methodNamed Bd.named Bd.method).1
  have X0 : Stand p l e ({ frames := 1, cells := 3, slots := 6, locals := 12 } : Room) s m #[(.ref a), (.int (2 : Int32))] below meth c s₁ [] 0 0 := Stand.of_body Bd
  have e0 : s₁.heap = h0 := by rw [← hh, Bd.state]; rfl
  have N0 := Fr.nil n0
  have pre0 : ∀ tg_, Steps p.tables e below (s₁.setTop (mkF m 0 #[.val (.ref a), .val (.int (2 : Int32))] [])) tg_ → Steps p.tables e below (s₁.setTop (entryFrame m #[(.ref a), (.int (2 : Int32))] 2)) tg_ := fun tg_ kt => castTop (ef1 m a (2 : Int32)) kt
  obtain ⟨T2, X2, e2, st2⟩ := initO X0 hx hZ hown (hw _ (List.mem_of_getElem? (i := 7) rfl)) (hw _ (List.mem_of_getElem? (i := 8) rfl)) (hw _ (List.mem_of_getElem? (i := 9) rfl)) e0 (g := (mkF m 1 #[.val (.ref a), .val (.int (2 : Int32))] [(.ref a)])) rfl (by rw [hml]; rfl) rfl (hb hby d1_1) (by decide) (W := 0) (by show 2 * 0 + _ ≤ _; exact Nat.le_of_eq rfl) (by decide)
  obtain ⟨T3, h3, k3, X3, e3, E3, A3, M3, st3⟩ := newPE X2 hx hZ (hw _ (List.mem_of_getElem? (i := 0) rfl)) e2 (g := (mkF m 6 #[.val (.ref a), .val (.int (2 : Int32))] [(.int (2 : Int32)), (.ref a)])) rfl (hb hby d1_6) rfl (by decide) (cap := 2) (by decide) (by decide) (by decide) (by decide) (ad := "[B") (by first | rfl | decide +kernel)
  obtain ⟨b3, g3⟩ : ∃ z, z = h0.size := ⟨_, rfl⟩
  rw [← g3] at A3 M3 st3
  have V3 : Arv Z h3 b3 k3 .byte (2 : Int32) [(.int (0 : Int32)), (.int (0 : Int32))] (.int (0 : Int32)) := (Arv.new A3 (by decide)).pad (pad_rep [] (.int (0 : Int32)) 2)
  have d_a_b3 : a ≠ b3 := Nat.ne_of_lt (Nat.lt_of_lt_of_le EX.lt (Nat.le_of_eq g3.symm))
  have gb_b3 : n0 ≤ b3 := Nat.le_trans Z0 (Nat.le_of_eq g3.symm)
  have sz_b3 : h0.size ≤ b3 := Nat.le_trans (Keep.refl h0 [a]).1 (Nat.le_of_eq g3.symm)
  have f3_4 := EX.ext E3
  have f3_5 := FK.ext E3
  have f3_6 := FW.ext E3
  have f3_7 := FB.ext E3
  have K8 : Keep h0 h3 [a] := (Keep.refl h0 [a]).ext E3
  have Z9 : n0 ≤ h3.size := Nat.le_trans Z0 E3.1
  obtain ⟨T10, h10, X10, e10, W10, st10⟩ := putF X3 hx hZ hown (host := "") (Or.inl (hw _ (List.mem_of_getElem? (i := 10) rfl))) Via.refl e3 f3_5 f3_4 (Or.inr ⟨(hw _ (List.mem_of_getElem? (i := 11) rfl)), rfl, hnm⟩) (hw _ (List.mem_of_getElem? (i := 2) rfl)) (ty := (.array .byte)) (by decide) rfl rfl (g := (mkF m 8 #[.val (.ref a), .val (.int (2 : Int32))] [(.ref b3), (.ref a)])) rfl rfl (hb hby d1_8)
  have Fn10 := f3_5.same W10
  have N10 := Fr.snoc X10 N0 gb_a
  have f10_11 := f3_4.wr W10
  have f10_12 := f3_6.other W10 (Or.inr (slot_ne (Or.inr (hw _ (List.mem_of_getElem? (i := 14) rfl))) (Or.inr (hw _ (List.mem_of_getElem? (i := 11) rfl))) (by decide) (t := (.array .long)) (t' := (.array .byte)) (by decide) (by decide)))
  have f10_13 := f3_7.other W10 (Or.inr (slot_ne (Or.inr (hw _ (List.mem_of_getElem? (i := 18) rfl))) (Or.inr (hw _ (List.mem_of_getElem? (i := 11) rfl))) (by decide) (t := (.array (.array .byte))) (t' := (.array .byte)) (by decide) (by decide)))
  have f10_14 := V3.other W10 (Ne.symm d_a_b3)
  have f10_15 := M3.wr W10
  have K16 : Keep h0 h10 [a] := K8.wr W10 (Or.inl (List.mem_of_getElem? (i := 0) rfl))
  have Z17 : n0 ≤ h10.size := by rw [W10.size]; exact Z9
  obtain ⟨T18, h18, k18, X18, e18, E18, A18, M18, st18⟩ := newPE X10 hx hZ (hw _ (List.mem_of_getElem? (i := 12) rfl)) e10 (g := (mkF m 13 #[.val (.ref a), .val (.int (2 : Int32))] [(.int (2 : Int32)), (.ref a)])) rfl (hb hby d1_13) rfl (by decide) (cap := 2) (by decide) (by decide) (by decide) (by decide) (ad := "[J") (by first | rfl | decide +kernel)
  obtain ⟨b18, g18⟩ : ∃ z, z = h10.size := ⟨_, rfl⟩
  rw [← g18] at A18 M18 st18
  have V18 : Arv Z h18 b18 k18 .long (2 : Int32) [(.long (0 : Int64)), (.long (0 : Int64))] (.long (0 : Int64)) := (Arv.new A18 (by decide)).pad (pad_rep [] (.long (0 : Int64)) 2)
  have d_a_b18 : a ≠ b18 := Nat.ne_of_lt (Nat.lt_of_lt_of_le f10_11.lt (Nat.le_of_eq g18.symm))
  have d_b3_b18 : b3 ≠ b18 := Nat.ne_of_lt (Nat.lt_of_lt_of_le f10_14.lt (Nat.le_of_eq g18.symm))
  have gb_b18 : n0 ≤ b18 := Nat.le_trans Z17 (Nat.le_of_eq g18.symm)
  have sz_b18 : h0.size ≤ b18 := Nat.le_trans K16.1 (Nat.le_of_eq g18.symm)
  have f18_19 := f10_11.ext E18
  have f18_20 := Fn10.ext E18
  have f18_21 := f10_12.ext E18
  have f18_22 := f10_13.ext E18
  have f18_23 := f10_14.ext E18
  have f18_24 := f10_15.ext E18
  have K25 : Keep h0 h18 [a] := K16.ext E18
  have Z26 : n0 ≤ h18.size := Nat.le_trans Z17 E18.1
  obtain ⟨T27, h27, X27, e27, W27, st27⟩ := putF X18 hx hZ hown (host := "") (Or.inl (hw _ (List.mem_of_getElem? (i := 13) rfl))) Via.refl e18 f18_21 f18_19 (Or.inr ⟨(hw _ (List.mem_of_getElem? (i := 14) rfl)), rfl, hnm⟩) (hw _ (List.mem_of_getElem? (i := 2) rfl)) (ty := (.array .long)) (by decide) rfl rfl (g := (mkF m 15 #[.val (.ref a), .val (.int (2 : Int32))] [(.ref b18), (.ref a)])) rfl rfl (hb hby d1_15)
  have Fn27 := f18_21.same W27
  have N27 := Fr.snoc X27 N10 gb_a
  have f27_28 := f18_19.wr W27
  have f27_29 := f18_20.other W27 (Or.inr (slot_ne (Or.inr (hw _ (List.mem_of_getElem? (i := 11) rfl))) (Or.inr (hw _ (List.mem_of_getElem? (i := 14) rfl))) (by decide) (t := (.array .byte)) (t' := (.array .long)) (by decide) (by decide)))
  have f27_30 := f18_22.other W27 (Or.inr (slot_ne (Or.inr (hw _ (List.mem_of_getElem? (i := 18) rfl))) (Or.inr (hw _ (List.mem_of_getElem? (i := 14) rfl))) (by decide) (t := (.array (.array .byte))) (t' := (.array .long)) (by decide) (by decide)))
  have f27_31 := f18_23.other W27 (Ne.symm d_a_b3)
  have f27_32 := f18_24.wr W27
  have f27_33 := V18.other W27 (Ne.symm d_a_b18)
  have f27_34 := M18.wr W27
  have K35 : Keep h0 h27 [a] := K25.wr W27 (Or.inl (List.mem_of_getElem? (i := 0) rfl))
  have Z36 : n0 ≤ h27.size := by rw [W27.size]; exact Z26
  obtain ⟨T37, h37, k37, X37, e37, E37, A37, M37, O37, st37⟩ := newRA X27 hx hZ hown (ty := .byte) (by first | rfl | decide +kernel) (hw _ (List.mem_of_getElem? (i := 15) rfl)) (hw _ (List.mem_of_getElem? (i := 16) rfl)) e27 (g := (mkF m 20 #[.val (.ref a), .val (.int (2 : Int32))] [(.int (2 : Int32)), (.ref a)])) rfl (hb hby d1_20) rfl (by decide) (cap := 2) (by decide) (by decide) (by decide) (by decide) (ad := "[[B") (by first | rfl | decide +kernel)
  obtain ⟨b37, g37⟩ : ∃ z, z = h27.size := ⟨_, rfl⟩
  rw [← g37] at A37 M37 st37
  have V37 : Arv Z h37 b37 k37 (.array .byte) (2 : Int32) [.null, .null] .null := (Arv.new A37 (by decide)).pad (pad_rep [] .null 2)
  have d_a_b37 : a ≠ b37 := Nat.ne_of_lt (Nat.lt_of_lt_of_le f27_28.lt (Nat.le_of_eq g37.symm))
  have d_b18_b37 : b18 ≠ b37 := Nat.ne_of_lt (Nat.lt_of_lt_of_le f27_33.lt (Nat.le_of_eq g37.symm))
  have d_b3_b37 : b3 ≠ b37 := Nat.ne_of_lt (Nat.lt_of_lt_of_le f27_31.lt (Nat.le_of_eq g37.symm))
  have gb_b37 : n0 ≤ b37 := Nat.le_trans Z36 (Nat.le_of_eq g37.symm)
  have sz_b37 : h0.size ≤ b37 := Nat.le_trans K35.1 (Nat.le_of_eq g37.symm)
  have f37_38 := f27_28.ext E37
  have f37_39 := f27_29.ext E37
  have f37_40 := Fn27.ext E37
  have f37_41 := f27_30.ext E37
  have f37_42 := f27_31.ext E37
  have f37_43 := f27_32.ext E37
  have f37_44 := f27_33.ext E37
  have f37_45 := f27_34.ext E37
  have K46 : Keep h0 h37 [a] := K35.ext E37
  have Z47 : n0 ≤ h37.size := Nat.le_trans Z36 E37.1
  obtain ⟨T48, h48, X48, e48, W48, st48⟩ := putF X37 hx hZ hown (host := "") (Or.inl (hw _ (List.mem_of_getElem? (i := 17) rfl))) Via.refl e37 f37_41 f37_38 (Or.inr ⟨(hw _ (List.mem_of_getElem? (i := 18) rfl)), rfl, hnm⟩) (hw _ (List.mem_of_getElem? (i := 2) rfl)) (ty := (.array (.array .byte))) (by decide) rfl rfl (g := (mkF m 23 #[.val (.ref a), .val (.int (2 : Int32))] [(.ref b37), (.ref a)])) rfl rfl (hb hby d1_23)
  have Fn48 := f37_41.same W48
  have N48 := Fr.snoc X48 N27 gb_a
  have f48_49 := f37_38.wr W48
  have f48_50 := f37_39.other W48 (Or.inr (slot_ne (Or.inr (hw _ (List.mem_of_getElem? (i := 11) rfl))) (Or.inr (hw _ (List.mem_of_getElem? (i := 18) rfl))) (by decide) (t := (.array .byte)) (t' := (.array (.array .byte))) (by decide) (by decide)))
  have f48_51 := f37_40.other W48 (Or.inr (slot_ne (Or.inr (hw _ (List.mem_of_getElem? (i := 14) rfl))) (Or.inr (hw _ (List.mem_of_getElem? (i := 18) rfl))) (by decide) (t := (.array .long)) (t' := (.array (.array .byte))) (by decide) (by decide)))
  have f48_52 := f37_42.other W48 (Ne.symm d_a_b3)
  have f48_53 := f37_43.wr W48
  have f48_54 := f37_44.other W48 (Ne.symm d_a_b18)
  have f48_55 := f37_45.wr W48
  have f48_56 := V37.other W48 (Ne.symm d_a_b37)
  have f48_57 := M37.wr W48
  have K58 : Keep h0 h48 [a] := K46.wr W48 (Or.inl (List.mem_of_getElem? (i := 0) rfl))
  have Z59 : n0 ≤ h48.size := by rw [W48.size]; exact Z47
  have pre60 : ∀ tg_, Steps p.tables e below (T48.setTop (mkF m 26 #[.val (.ref a), .val (.int (2 : Int32))] [])) tg_ → Steps p.tables e below (s₁.setTop (entryFrame m #[(.ref a), (.int (2 : Int32))] 2)) tg_ := by
    intro tg_ kt
    refine pre0 _ ?_
    show Steps p.tables e below (s₁.setTop (mkF m 0 #[.val (.ref a), .val (.int (2 : Int32))] [])) _
    refine XS.aloadN X0.here hx rfl (hb hby d1_0) rfl rfl ?_
    show Steps p.tables e below (s₁.setTop (mkF m 1 #[.val (.ref a), .val (.int (2 : Int32))] [(.ref a)])) _
    refine st2 _ ?_
    show Steps p.tables e below (T2.setTop (mkF m 4 #[.val (.ref a), .val (.int (2 : Int32))] [])) _
    refine XS.aloadN X2.here hx rfl (hb hby d1_4) rfl rfl ?_
    show Steps p.tables e below (T2.setTop (mkF m 5 #[.val (.ref a), .val (.int (2 : Int32))] [(.ref a)])) _
    refine XS.iloadN X2.here hx rfl (hb hby d1_5) rfl ?_
    show Steps p.tables e below (T2.setTop (mkF m 6 #[.val (.ref a), .val (.int (2 : Int32))] [(.int (2 : Int32)), (.ref a)])) _
    refine st3 _ ?_
    show Steps p.tables e below (T3.setTop (mkF m 8 #[.val (.ref a), .val (.int (2 : Int32))] [(.ref b3), (.ref a)])) _
    refine st10 _ ?_
    show Steps p.tables e below (T10.setTop (mkF m 11 #[.val (.ref a), .val (.int (2 : Int32))] [])) _
    refine XS.aloadN X10.here hx rfl (hb hby d1_11) rfl rfl ?_
    show Steps p.tables e below (T10.setTop (mkF m 12 #[.val (.ref a), .val (.int (2 : Int32))] [(.ref a)])) _
    refine XS.iloadN X10.here hx rfl (hb hby d1_12) rfl ?_
    show Steps p.tables e below (T10.setTop (mkF m 13 #[.val (.ref a), .val (.int (2 : Int32))] [(.int (2 : Int32)), (.ref a)])) _
    refine st18 _ ?_
    show Steps p.tables e below (T18.setTop (mkF m 15 #[.val (.ref a), .val (.int (2 : Int32))] [(.ref b18), (.ref a)])) _
    refine st27 _ ?_
    show Steps p.tables e below (T27.setTop (mkF m 18 #[.val (.ref a), .val (.int (2 : Int32))] [])) _
    refine XS.aloadN X27.here hx rfl (hb hby d1_18) rfl rfl ?_
    show Steps p.tables e below (T27.setTop (mkF m 19 #[.val (.ref a), .val (.int (2 : Int32))] [(.ref a)])) _
    refine XS.iloadN X27.here hx rfl (hb hby d1_19) rfl ?_
    show Steps p.tables e below (T27.setTop (mkF m 20 #[.val (.ref a), .val (.int (2 : Int32))] [(.int (2 : Int32)), (.ref a)])) _
    refine st37 _ ?_
    show Steps p.tables e below (T37.setTop (mkF m 23 #[.val (.ref a), .val (.int (2 : Int32))] [(.ref b37), (.ref a)])) _
    refine st48 _ ?_
    exact kt
  obtain ⟨fs, hr, hrun, hended, hW, hsame⟩ := X48.leave (v := none) (fun _ => rfl)
  refine ⟨_, _, pre60 _ ?_, hrun, hended, _, _, rfl, ?_, ⟨_, rfl⟩, hW, hsame.mono (by decide) (by decide)⟩
  · show Steps p.tables e below (T48.setTop (mkF m 26 #[.val (.ref a), .val (.int (2 : Int32))] [])) _
    exact X48.returnOut hx Bd.returns (hb hby d1_26) hr
  · show QI Z a h0 n0 _ T48.heap _
    rw [e48]
    exact ⟨rfl, N48, K58, b3, b18, b37, _, _, _, f48_49, f48_50, f48_51, Fn48, f48_52, f48_54, f48_56, O37, gb_b3, gb_b18, gb_b37, d_b3_b18, d_b3_b37, d_b18_b37, d_a_b3, d_a_b18, d_a_b37⟩
theorem d20n_0 : decode prog_38_method_7_code 0 = .ok (.aload_n 0, 1) := by decide +kernel
theorem d20n_1 : decode prog_38_method_7_code 1 = .ok (.getfield 7, 3) := by decide +kernel
theorem d20n_4 : decode prog_38_method_7_code 4 = .ok (.iload_n 1, 1) := by decide +kernel
theorem d20n_5 : decode prog_38_method_7_code 5 = .ok (.iload_n 2, 1) := by decide +kernel
theorem d20n_6 : decode prog_38_method_7_code 6 = .ok (.bastore, 1) := by decide +kernel
theorem d20n_7 : decode prog_38_method_7_code 7 = .ok (.aload_n 0, 1) := by decide +kernel
theorem d20n_8 : decode prog_38_method_7_code 8 = .ok (.getfield 13, 3) := by decide +kernel
theorem d20n_11 : decode prog_38_method_7_code 11 = .ok (.iload_n 1, 1) := by decide +kernel
theorem d20n_12 : decode prog_38_method_7_code 12 = .ok (.lload_n 3, 1) := by decide +kernel
theorem d20n_13 : decode prog_38_method_7_code 13 = .ok (.lastore, 1) := by decide +kernel
theorem d20n_14 : decode prog_38_method_7_code 14 = .ok (.aload 5, 2) := by decide +kernel
theorem d20n_16 : decode prog_38_method_7_code 16 = .ok (.ifnonnull 12, 3) := by decide +kernel
theorem d20n_19 : decode prog_38_method_7_code 19 = .ok (.aload_n 0, 1) := by decide +kernel
theorem d20n_20 : decode prog_38_method_7_code 20 = .ok (.getfield 18, 3) := by decide +kernel
theorem d20n_23 : decode prog_38_method_7_code 23 = .ok (.iload_n 1, 1) := by decide +kernel
theorem d20n_24 : decode prog_38_method_7_code 24 = .ok (.aaload, 1) := by decide +kernel
theorem d20n_25 : decode prog_38_method_7_code 25 = .ok (.ifnull 11, 3) := by decide +kernel
theorem d20n_28 : decode prog_38_method_7_code 28 = .ok (.aload_n 0, 1) := by decide +kernel
theorem d20n_29 : decode prog_38_method_7_code 29 = .ok (.getfield 18, 3) := by decide +kernel
theorem d20n_32 : decode prog_38_method_7_code 32 = .ok (.iload_n 1, 1) := by decide +kernel
theorem d20n_33 : decode prog_38_method_7_code 33 = .ok (.aload 5, 2) := by decide +kernel
theorem d20n_35 : decode prog_38_method_7_code 35 = .ok (.aastore, 1) := by decide +kernel
theorem d20n_36 : decode prog_38_method_7_code 36 = .ok (.return_, 1) := by decide +kernel
theorem pn20n : plainName "com/example/hornbrook/hornbrook/Cells" = true := by first | (simp [plainName, overriddenIn]; done) | decide +kernel
theorem ef20n (m : MethodId) (x0 : Addr) (x1 : Int32) (x2 : Int32) (x3 : Int64) : entryFrame m #[(.ref x0), (.int x1), (.int x2), (.long x3), .null] 6 = mkF m 0 #[.val (.ref x0), .val (.int x1), .val (.int x2), .val (.long x3), .second, .val .null] [] := by first | (simp [entryFrame, mkF, argsToLocals, Value.category]; done) | rfl
set_option maxRecDepth 65536 in
set_option maxHeartbeats 40000000 in
theorem rm20n (l : Launch) (Z : State) (a0 : Array Value) (hw : ∀ d ∈ tables_1, d.before a0 Z = true) (ws : List Jvm.Cond) (a ka wa ba : Addr) (ck cw cb : ClassId) (k0 k1 : Int32) (q0 q1 : Int64) (v0 v1 : Value) (kd : Int32) (wd : Int64) (h0 : Heap) (n0 : Nat) (Z0 : n0 ≤ h0.size) (Cc : Cel Z h0 n0 a ka wa ba ck cw cb k0 k1 q0 q1 v0 v1) :
    MetFree l (⟨"com/example/hornbrook/hornbrook/Cells", "set", "(IBJ[B)V"⟩ : MethodName) (head1 (Jvm.Cond.code (⟨"com/example/hornbrook/hornbrook/Cells", "set", "(IBJ[B)V"⟩ : MethodName) prog_38_method_7_code 6 none :: ws) ({ frames := 0, cells := 0, slots := 0, locals := 0 } : Room)) (fun aa_ U => aa_ = #[(.ref a), (.int (0 : Int32)), (.int kd), (.long wd), .null] ∧ Z.Warmed39 U.vm ∧ U.heap = h0) (fun _ _ _ _ _ => True) (fun _ U o U' => ∃ vv_ LL_, o = .returned vv_ ∧ QS Z a ka wa ba ck cw cb (nar .byte kd) k1 wd q1 .null v1 h0 n0 vv_ U'.heap LL_ ∧ FrameEnd U o U' LL_ ({ frames := 0, cells := 0, slots := 0, locals := 0 } : Room).cells ({ frames := 0, cells := 0, slots := 0, locals := 0 } : Room).slots) := by
  refine MetFree.of_bodySF (plainFor_of_name pn20n) hisR ?_
  intro p e s m args below meth c s₁ Bd hml0 hP hK
  obtain ⟨rfl, hZ, hh⟩ := hP
  have hx := Bd.exec
  have hby := Bd.bytes
  have hml : c.maxLocals = 6 := hml0
  have hown : s.vm.findClass "com/example/hornbrook/hornbrook/Cells" = some m.cls := findClass_of_methodNamed Bd.named
  have hnm := (name_of_methodNamed Bd.named Bd.method).1
  have X0 : Stand p l e ({ frames := 0, cells := 0, slots := 0, locals := 0 } : Room) s m #[(.ref a), (.int (0 : Int32)), (.int kd), (.long wd), .null] below meth c s₁ [] 0 0 := Stand.of_body Bd
  have e0 : s₁.heap = h0 := by rw [← hh, Bd.state]; rfl
  have N0 := Fr.nil n0
  have pre0 : ∀ tg_, Steps p.tables e below (s₁.setTop (mkF m 0 #[.val (.ref a), .val (.int (0 : Int32)), .val (.int kd), .val (.long wd), .second, .val .null] [])) tg_ → Steps p.tables e below (s₁.setTop (entryFrame m #[(.ref a), (.int (0 : Int32)), (.int kd), (.long wd), .null] 6)) tg_ := fun tg_ kt => castTop (ef20n m a (0 : Int32) kd wd) kt
  obtain ⟨EX, FK, FW, FB, AK, AW, AB, OV, nk, nw, nb, d1, d2, d3, d4, d5, d6⟩ := Cc
  have gb_ka := nk
  have gb_wa := nw
  have gb_ba := nb
  have hr_v0 : v0.isRef = true := by
    obtain ⟨c_, A_, -, S_, -, -, G_⟩ := id AB
    have q := G_ 0 (by rw [S_]; decide)
    exact fit_R q rfl
  obtain ⟨T1, X1, e1, st1⟩ := getF X0 hx hZ hown (host := "") (Or.inl (hw _ (List.mem_of_getElem? (i := 10) rfl))) Via.refl e0 FK (g := (mkF m 1 #[.val (.ref a), .val (.int (0 : Int32)), .val (.int kd), .val (.long wd), .second, .val .null] [(.ref a)])) rfl rfl (hb hby d20n_1)
  obtain ⟨cl2, Ar2, q2, S2, L2, H2, G2⟩ := id AK
  have hin2 : ¬ ((0 : Int32) < 0 ∨ cl2.slots.size ≤ ((0 : Int32)).toNatClampNeg) := inb_of S2 ⟨by decide, by decide⟩
  obtain ⟨T2, h2, X2, e2, W2, st2⟩ := stB X1 hx hZ e1 Ar2 (j := (0 : Int32)) hin2 (g := (mkF m 6 #[.val (.ref a), .val (.int (0 : Int32)), .val (.int kd), .val (.long wd), .second, .val .null] [(.int kd), (.int (0 : Int32)), (.ref ka)])) rfl rfl (hb hby d20n_6)
  have V2 := Arv.set Ar2 q2 S2 L2 H2 G2 (fits_nar_byte _) W2 0 rfl (Nat.le_of_ble_eq_true rfl)
  have N2 := Fr.snoc X2 N0 gb_ka
  have f2_3 := EX.wr W2
  have f2_4 := FK.other W2 (Or.inl d4)
  have f2_5 := FW.other W2 (Or.inl d4)
  have f2_6 := FB.other W2 (Or.inl d4)
  have f2_7 := AW.other W2 (Ne.symm d1)
  have f2_8 := AB.other W2 (Ne.symm d2)
  have K9 : Keep h0 h2 [ka, wa, ba] := (Keep.refl h0 [ka, wa, ba]).wr W2 (Or.inl (List.mem_of_getElem? (i := 0) rfl))
  have Z10 : n0 ≤ h2.size := by rw [W2.size]; exact Z0
  obtain ⟨T11, X11, e11, st11⟩ := getF X2 hx hZ hown (host := "") (Or.inl (hw _ (List.mem_of_getElem? (i := 13) rfl))) Via.refl e2 f2_5 (g := (mkF m 8 #[.val (.ref a), .val (.int (0 : Int32)), .val (.int kd), .val (.long wd), .second, .val .null] [(.ref a)])) rfl rfl (hb hby d20n_8)
  obtain ⟨cl12, Ar12, q12, S12, L12, H12, G12⟩ := id f2_7
  have hin12 : ¬ ((0 : Int32) < 0 ∨ cl12.slots.size ≤ ((0 : Int32)).toNatClampNeg) := inb_of S12 ⟨by decide, by decide⟩
  obtain ⟨T12, h12, X12, e12, W12, st12⟩ := stJ X11 hx hZ e11 Ar12 (j := (0 : Int32)) hin12 (g := (mkF m 13 #[.val (.ref a), .val (.int (0 : Int32)), .val (.int kd), .val (.long wd), .second, .val .null] [(.long wd), (.int (0 : Int32)), (.ref wa)])) rfl rfl (hb hby d20n_13)
  have V12 := Arv.set Ar12 q12 S12 L12 H12 G12 rfl W12 0 rfl (Nat.le_of_ble_eq_true rfl)
  have N12 := Fr.snoc X12 N2 gb_wa
  have f12_13 := f2_3.wr W12
  have f12_14 := f2_4.other W12 (Or.inl d5)
  have f12_15 := f2_5.other W12 (Or.inl d5)
  have f12_16 := f2_6.other W12 (Or.inl d5)
  have f12_17 := V2.other W12 d1
  have f12_18 := f2_8.other W12 (Ne.symm d3)
  have K19 : Keep h0 h12 [ka, wa, ba] := K9.wr W12 (Or.inl (List.mem_of_getElem? (i := 1) rfl))
  have Z20 : n0 ≤ h12.size := by rw [W12.size]; exact Z10
  obtain ⟨T21, X21, e21, st21⟩ := getF X12 hx hZ hown (host := "") (Or.inl (hw _ (List.mem_of_getElem? (i := 17) rfl))) Via.refl e12 f12_16 (g := (mkF m 20 #[.val (.ref a), .val (.int (0 : Int32)), .val (.int kd), .val (.long wd), .second, .val .null] [(.ref a)])) rfl rfl (hb hby d20n_20)
  obtain ⟨cl22, Ar22, q22, S22, L22, H22, G22⟩ := id f12_18
  have hin22 : ¬ ((0 : Int32) < 0 ∨ cl22.slots.size ≤ ((0 : Int32)).toNatClampNeg) := inb_of S22 ⟨by decide, by decide⟩
  have hat22 : cl22.slots[((0 : Int32)).toNatClampNeg]? = some v0 := Has.at H22 hin22 rfl
  have pre23 : ∀ tg_, Steps p.tables e below (T21.setTop (mkF m 25 #[.val (.ref a), .val (.int (0 : Int32)), .val (.int kd), .val (.long wd), .second, .val .null] [v0])) tg_ → Steps p.tables e below (s₁.setTop (entryFrame m #[(.ref a), (.int (0 : Int32)), (.int kd), (.long wd), .null] 6)) tg_ := by
    intro tg_ kt
    refine pre0 _ ?_
    show Steps p.tables e below (s₁.setTop (mkF m 0 #[.val (.ref a), .val (.int (0 : Int32)), .val (.int kd), .val (.long wd), .second, .val .null] [])) _
    refine XS.aloadN X0.here hx rfl (hb hby d20n_0) rfl rfl ?_
    show Steps p.tables e below (s₁.setTop (mkF m 1 #[.val (.ref a), .val (.int (0 : Int32)), .val (.int kd), .val (.long wd), .second, .val .null] [(.ref a)])) _
    refine st1 _ ?_
    show Steps p.tables e below (T1.setTop (mkF m 4 #[.val (.ref a), .val (.int (0 : Int32)), .val (.int kd), .val (.long wd), .second, .val .null] [(.ref ka)])) _
    refine XS.iloadN X1.here hx rfl (hb hby d20n_4) rfl ?_
    show Steps p.tables e below (T1.setTop (mkF m 5 #[.val (.ref a), .val (.int (0 : Int32)), .val (.int kd), .val (.long wd), .second, .val .null] [(.int (0 : Int32)), (.ref ka)])) _
    refine XS.iloadN X1.here hx rfl (hb hby d20n_5) rfl ?_
    show Steps p.tables e below (T1.setTop (mkF m 6 #[.val (.ref a), .val (.int (0 : Int32)), .val (.int kd), .val (.long wd), .second, .val .null] [(.int kd), (.int (0 : Int32)), (.ref ka)])) _
    refine st2 _ ?_
    show Steps p.tables e below (T2.setTop (mkF m 7 #[.val (.ref a), .val (.int (0 : Int32)), .val (.int kd), .val (.long wd), .second, .val .null] [])) _
    refine XS.aloadN X2.here hx rfl (hb hby d20n_7) rfl rfl ?_
    show Steps p.tables e below (T2.setTop (mkF m 8 #[.val (.ref a), .val (.int (0 : Int32)), .val (.int kd), .val (.long wd), .second, .val .null] [(.ref a)])) _
    refine st11 _ ?_
    show Steps p.tables e below (T11.setTop (mkF m 11 #[.val (.ref a), .val (.int (0 : Int32)), .val (.int kd), .val (.long wd), .second, .val .null] [(.ref wa)])) _
    refine XS.iloadN X11.here hx rfl (hb hby d20n_11) rfl ?_
    show Steps p.tables e below (T11.setTop (mkF m 12 #[.val (.ref a), .val (.int (0 : Int32)), .val (.int kd), .val (.long wd), .second, .val .null] [(.int (0 : Int32)), (.ref wa)])) _
    refine XS.lloadN X11.here hx rfl (hb hby d20n_12) rfl ?_
    show Steps p.tables e below (T11.setTop (mkF m 13 #[.val (.ref a), .val (.int (0 : Int32)), .val (.int kd), .val (.long wd), .second, .val .null] [(.long wd), (.int (0 : Int32)), (.ref wa)])) _
    refine st12 _ ?_
    show Steps p.tables e below (T12.setTop (mkF m 14 #[.val (.ref a), .val (.int (0 : Int32)), .val (.int kd), .val (.long wd), .second, .val .null] [])) _
    refine XS.aload X12.here hx rfl (hb hby d20n_14) rfl rfl ?_
    show Steps p.tables e below (T12.setTop (mkF m 16 #[.val (.ref a), .val (.int (0 : Int32)), .val (.int kd), .val (.long wd), .second, .val .null] [.null])) _
    refine XS.ifnonnullNo X12.here hx rfl (hb hby d20n_16) rfl ?_
    show Steps p.tables e below (T12.setTop (mkF m 19 #[.val (.ref a), .val (.int (0 : Int32)), .val (.int kd), .val (.long wd), .second, .val .null] [])) _
    refine XS.aloadN X12.here hx rfl (hb hby d20n_19) rfl rfl ?_
    show Steps p.tables e below (T12.setTop (mkF m 20 #[.val (.ref a), .val (.int (0 : Int32)), .val (.int kd), .val (.long wd), .second, .val .null] [(.ref a)])) _
    refine st21 _ ?_
    show Steps p.tables e below (T21.setTop (mkF m 23 #[.val (.ref a), .val (.int (0 : Int32)), .val (.int kd), .val (.long wd), .second, .val .null] [(.ref ba)])) _
    refine XS.iloadN X21.here hx rfl (hb hby d20n_23) rfl ?_
    show Steps p.tables e below (T21.setTop (mkF m 24 #[.val (.ref a), .val (.int (0 : Int32)), .val (.int kd), .val (.long wd), .second, .val .null] [(.int (0 : Int32)), (.ref ba)])) _
    refine X21.aaload hx (j := (0 : Int32)) (v := v0) (by rw [e21]; exact Ar22.1) (State.isArrayOf_alike hZ.alike Ar22.2.1) rfl Ar22.2.2 hin22 hat22 (g := (mkF m 24 #[.val (.ref a), .val (.int (0 : Int32)), .val (.int kd), .val (.long wd), .second, .val .null] [(.int (0 : Int32)), (.ref ba)])) rfl rfl (hb hby d20n_24) _ ?_
    exact kt
  rcases ref_cases hr_v0 with hv_ | ⟨yv, hv_⟩
  · have pre24 : ∀ tg_, Steps p.tables e below (T21.setTop (mkF m 36 #[.val (.ref a), .val (.int (0 : Int32)), .val (.int kd), .val (.long wd), .second, .val .null] [])) tg_ → Steps p.tables e below (s₁.setTop (entryFrame m #[(.ref a), (.int (0 : Int32)), (.int kd), (.long wd), .null] 6)) tg_ := by
      intro tg_ kt
      refine pre23 _ ?_
      show Steps p.tables e below (T21.setTop (mkF m 25 #[.val (.ref a), .val (.int (0 : Int32)), .val (.int kd), .val (.long wd), .second, .val .null] [v0])) _
      refine XT.nullYes X21.here hx rfl (pc0 := 25) (pc' := 36) rfl (hb hby d20n_25) rfl hv_ (by decide) (by decide) ?_
      exact kt
    obtain ⟨fs, hr, hrun, hended, hW, hsame⟩ := X21.leave (v := none) (fun _ => rfl)
    refine ⟨_, _, pre24 _ ?_, hrun, hended, _, _, rfl, ?_, ⟨_, rfl⟩, hW, hsame.mono (by decide) (by decide)⟩
    · show Steps p.tables e below (T21.setTop (mkF m 36 #[.val (.ref a), .val (.int (0 : Int32)), .val (.int kd), .val (.long wd), .second, .val .null] [])) _
      exact X21.returnOut hx Bd.returns (hb hby d20n_36) hr
    · show QS Z a ka wa ba ck cw cb (nar .byte kd) k1 wd q1 .null v1 h0 n0 _ T21.heap _
      rw [e21]
      exact ⟨rfl, N12, K19, f12_13, f12_14, f12_15, f12_16, f12_17, V12, (by have q := f12_18; rw [hv_] at q; exact q), OV, nk, nw, nb, d1, d2, d3, d4, d5, d6⟩
  · obtain ⟨T25, X25, e25, st25⟩ := getF X21 hx hZ hown (host := "") (Or.inl (hw _ (List.mem_of_getElem? (i := 17) rfl))) Via.refl e21 f12_16 (g := (mkF m 29 #[.val (.ref a), .val (.int (0 : Int32)), .val (.int kd), .val (.long wd), .second, .val .null] [(.ref a)])) rfl rfl (hb hby d20n_29)
    obtain ⟨cl26, Ar26, q26, S26, L26, H26, G26⟩ := id f12_18
    have hin26 : ¬ ((0 : Int32) < 0 ∨ cl26.slots.size ≤ ((0 : Int32)).toNatClampNeg) := inb_of S26 ⟨by decide, by decide⟩
    obtain ⟨T26, h26, X26, e26, W26, st26⟩ := stR X25 hx hZ e25 Ar26 (j := (0 : Int32)) hin26 rfl (Or.inl rfl) (g := (mkF m 35 #[.val (.ref a), .val (.int (0 : Int32)), .val (.int kd), .val (.long wd), .second, .val .null] [.null, (.int (0 : Int32)), (.ref ba)])) rfl rfl (hb hby d20n_35)
    have V26 := Arv.set Ar26 q26 S26 L26 H26 G26 rfl W26 0 rfl (Nat.le_of_ble_eq_true rfl)
    have N26 := Fr.snoc X26 N12 gb_ba
    have f26_27 := f12_13.wr W26
    have f26_28 := f12_14.other W26 (Or.inl d6)
    have f26_29 := f12_15.other W26 (Or.inl d6)
    have f26_30 := f12_16.other W26 (Or.inl d6)
    have f26_31 := f12_17.other W26 d2
    have f26_32 := V12.other W26 d3
    have K33 : Keep h0 h26 [ka, wa, ba] := K19.wr W26 (Or.inl (List.mem_of_getElem? (i := 2) rfl))
    have Z34 : n0 ≤ h26.size := by rw [W26.size]; exact Z20
    have pre35 : ∀ tg_, Steps p.tables e below (T26.setTop (mkF m 36 #[.val (.ref a), .val (.int (0 : Int32)), .val (.int kd), .val (.long wd), .second, .val .null] [])) tg_ → Steps p.tables e below (s₁.setTop (entryFrame m #[(.ref a), (.int (0 : Int32)), (.int kd), (.long wd), .null] 6)) tg_ := by
      intro tg_ kt
      refine pre23 _ ?_
      show Steps p.tables e below (T21.setTop (mkF m 25 #[.val (.ref a), .val (.int (0 : Int32)), .val (.int kd), .val (.long wd), .second, .val .null] [v0])) _
      refine XT.nullNo X21.here hx rfl (hb hby d20n_25) rfl hr_v0 (by rw [hv_]; nofun) ?_
      show Steps p.tables e below (T21.setTop (mkF m 28 #[.val (.ref a), .val (.int (0 : Int32)), .val (.int kd), .val (.long wd), .second, .val .null] [])) _
      refine XS.aloadN X21.here hx rfl (hb hby d20n_28) rfl rfl ?_
      show Steps p.tables e below (T21.setTop (mkF m 29 #[.val (.ref a), .val (.int (0 : Int32)), .val (.int kd), .val (.long wd), .second, .val .null] [(.ref a)])) _
      refine st25 _ ?_
      show Steps p.tables e below (T25.setTop (mkF m 32 #[.val (.ref a), .val (.int (0 : Int32)), .val (.int kd), .val (.long wd), .second, .val .null] [(.ref ba)])) _
      refine XS.iloadN X25.here hx rfl (hb hby d20n_32) rfl ?_
      show Steps p.tables e below (T25.setTop (mkF m 33 #[.val (.ref a), .val (.int (0 : Int32)), .val (.int kd), .val (.long wd), .second, .val .null] [(.int (0 : Int32)), (.ref ba)])) _
      refine XS.aload X25.here hx rfl (hb hby d20n_33) rfl rfl ?_
      show Steps p.tables e below (T25.setTop (mkF m 35 #[.val (.ref a), .val (.int (0 : Int32)), .val (.int kd), .val (.long wd), .second, .val .null] [.null, (.int (0 : Int32)), (.ref ba)])) _
      refine st26 _ ?_
      exact kt
    obtain ⟨fs, hr, hrun, hended, hW, hsame⟩ := X26.leave (v := none) (fun _ => rfl)
    refine ⟨_, _, pre35 _ ?_, hrun, hended, _, _, rfl, ?_, ⟨_, rfl⟩, hW, hsame.mono (by decide) (by decide)⟩
    · show Steps p.tables e below (T26.setTop (mkF m 36 #[.val (.ref a), .val (.int (0 : Int32)), .val (.int kd), .val (.long wd), .second, .val .null] [])) _
      exact X26.returnOut hx Bd.returns (hb hby d20n_36) hr
    · show QS Z a ka wa ba ck cw cb (nar .byte kd) k1 wd q1 .null v1 h0 n0 _ T26.heap _
      rw [e26]
      exact ⟨rfl, N26, K33, f26_27, f26_28, f26_29, f26_30, f26_31, f26_32, V26, OV, nk, nw, nb, d1, d2, d3, d4, d5, d6⟩
theorem d20r_0 : decode prog_38_method_7_code 0 = .ok (.aload_n 0, 1) := by decide +kernel
theorem d20r_1 : decode prog_38_method_7_code 1 = .ok (.getfield 7, 3) := by decide +kernel
theorem d20r_4 : decode prog_38_method_7_code 4 = .ok (.iload_n 1, 1) := by decide +kernel
theorem d20r_5 : decode prog_38_method_7_code 5 = .ok (.iload_n 2, 1) := by decide +kernel
theorem d20r_6 : decode prog_38_method_7_code 6 = .ok (.bastore, 1) := by decide +kernel
theorem d20r_7 : decode prog_38_method_7_code 7 = .ok (.aload_n 0, 1) := by decide +kernel
theorem d20r_8 : decode prog_38_method_7_code 8 = .ok (.getfield 13, 3) := by decide +kernel
theorem d20r_11 : decode prog_38_method_7_code 11 = .ok (.iload_n 1, 1) := by decide +kernel
theorem d20r_12 : decode prog_38_method_7_code 12 = .ok (.lload_n 3, 1) := by decide +kernel
theorem d20r_13 : decode prog_38_method_7_code 13 = .ok (.lastore, 1) := by decide +kernel
theorem d20r_14 : decode prog_38_method_7_code 14 = .ok (.aload 5, 2) := by decide +kernel
theorem d20r_16 : decode prog_38_method_7_code 16 = .ok (.ifnonnull 12, 3) := by decide +kernel
theorem d20r_28 : decode prog_38_method_7_code 28 = .ok (.aload_n 0, 1) := by decide +kernel
theorem d20r_29 : decode prog_38_method_7_code 29 = .ok (.getfield 18, 3) := by decide +kernel
theorem d20r_32 : decode prog_38_method_7_code 32 = .ok (.iload_n 1, 1) := by decide +kernel
theorem d20r_33 : decode prog_38_method_7_code 33 = .ok (.aload 5, 2) := by decide +kernel
theorem d20r_35 : decode prog_38_method_7_code 35 = .ok (.aastore, 1) := by decide +kernel
theorem d20r_36 : decode prog_38_method_7_code 36 = .ok (.return_, 1) := by decide +kernel
theorem pn20r : plainName "com/example/hornbrook/hornbrook/Cells" = true := by first | (simp [plainName, overriddenIn]; done) | decide +kernel
theorem ef20r (m : MethodId) (x0 : Addr) (x1 : Int32) (x2 : Int32) (x3 : Int64) (x4 : Addr) : entryFrame m #[(.ref x0), (.int x1), (.int x2), (.long x3), (.ref x4)] 6 = mkF m 0 #[.val (.ref x0), .val (.int x1), .val (.int x2), .val (.long x3), .second, .val (.ref x4)] [] := by first | (simp [entryFrame, mkF, argsToLocals, Value.category]; done) | rfl
set_option maxRecDepth 65536 in
set_option maxHeartbeats 40000000 in
theorem rm20r (l : Launch) (Z : State) (a0 : Array Value) (hw : ∀ d ∈ tables_1, d.before a0 Z = true) (ws : List Jvm.Cond) (a ka wa ba : Addr) (ck cw cb : ClassId) (k0 k1 : Int32) (q0 q1 : Int64) (v0 v1 : Value) (kd : Int32) (wd : Int64) (y : Addr) (h0 : Heap) (n0 : Nat) (Z0 : n0 ≤ h0.size) (Cc : Cel Z h0 n0 a ka wa ba ck cw cb k0 k1 q0 q1 v0 v1) (Ey : Exa Z h0 y "[B") :
    MetFree l (⟨"com/example/hornbrook/hornbrook/Cells", "set", "(IBJ[B)V"⟩ : MethodName) (head1 (Jvm.Cond.code (⟨"com/example/hornbrook/hornbrook/Cells", "set", "(IBJ[B)V"⟩ : MethodName) prog_38_method_7_code 6 none :: ws) ({ frames := 0, cells := 0, slots := 0, locals := 0 } : Room)) (fun aa_ U => aa_ = #[(.ref a), (.int (0 : Int32)), (.int kd), (.long wd), (.ref y)] ∧ Z.Warmed39 U.vm ∧ U.heap = h0) (fun _ _ _ _ _ => True) (fun _ U o U' => ∃ vv_ LL_, o = .returned vv_ ∧ QS Z a ka wa ba ck cw cb (nar .byte kd) k1 wd q1 (.ref y) v1 h0 n0 vv_ U'.heap LL_ ∧ FrameEnd U o U' LL_ ({ frames := 0, cells := 0, slots := 0, locals := 0 } : Room).cells ({ frames := 0, cells := 0, slots := 0, locals := 0 } : Room).slots) := by
  refine MetFree.of_bodySF (plainFor_of_name pn20r) hisR ?_
  intro p e s m args below meth c s₁ Bd hml0 hP hK
  obtain ⟨rfl, hZ, hh⟩ := hP
  have hx := Bd.exec
  have hby := Bd.bytes
  have hml : c.maxLocals = 6 := hml0
  have hown : s.vm.findClass "com/example/hornbrook/hornbrook/Cells" = some m.cls := findClass_of_methodNamed Bd.named
  have hnm := (name_of_methodNamed Bd.named Bd.method).1
  have X0 : Stand p l e ({ frames := 0, cells := 0, slots := 0, locals := 0 } : Room) s m #[(.ref a), (.int (0 : Int32)), (.int kd), (.long wd), (.ref y)] below meth c s₁ [] 0 0 := Stand.of_body Bd
  have e0 : s₁.heap = h0 := by rw [← hh, Bd.state]; rfl
  have N0 := Fr.nil n0
  have pre0 : ∀ tg_, Steps p.tables e below (s₁.setTop (mkF m 0 #[.val (.ref a), .val (.int (0 : Int32)), .val (.int kd), .val (.long wd), .second, .val (.ref y)] [])) tg_ → Steps p.tables e below (s₁.setTop (entryFrame m #[(.ref a), (.int (0 : Int32)), (.int kd), (.long wd), (.ref y)] 6)) tg_ := fun tg_ kt => castTop (ef20r m a (0 : Int32) kd wd y) kt
  obtain ⟨EX, FK, FW, FB, AK, AW, AB, OV, nk, nw, nb, d1, d2, d3, d4, d5, d6⟩ := Cc
  have gb_ka := nk
  have gb_wa := nw
  have gb_ba := nb
  obtain ⟨T1, X1, e1, st1⟩ := getF X0 hx hZ hown (host := "") (Or.inl (hw _ (List.mem_of_getElem? (i := 10) rfl))) Via.refl e0 FK (g := (mkF m 1 #[.val (.ref a), .val (.int (0 : Int32)), .val (.int kd), .val (.long wd), .second, .val (.ref y)] [(.ref a)])) rfl rfl (hb hby d20r_1)
  obtain ⟨cl2, Ar2, q2, S2, L2, H2, G2⟩ := id AK
  have hin2 : ¬ ((0 : Int32) < 0 ∨ cl2.slots.size ≤ ((0 : Int32)).toNatClampNeg) := inb_of S2 ⟨by decide, by decide⟩
  obtain ⟨T2, h2, X2, e2, W2, st2⟩ := stB X1 hx hZ e1 Ar2 (j := (0 : Int32)) hin2 (g := (mkF m 6 #[.val (.ref a), .val (.int (0 : Int32)), .val (.int kd), .val (.long wd), .second, .val (.ref y)] [(.int kd), (.int (0 : Int32)), (.ref ka)])) rfl rfl (hb hby d20r_6)
  have V2 := Arv.set Ar2 q2 S2 L2 H2 G2 (fits_nar_byte _) W2 0 rfl (Nat.le_of_ble_eq_true rfl)
  have N2 := Fr.snoc X2 N0 gb_ka
  have f2_3 := EX.wr W2
  have f2_4 := FK.other W2 (Or.inl d4)
  have f2_5 := FW.other W2 (Or.inl d4)
  have f2_6 := FB.other W2 (Or.inl d4)
  have f2_7 := AW.other W2 (Ne.symm d1)
  have f2_8 := AB.other W2 (Ne.symm d2)
  have f2_9 := Ey.wr W2
  have K10 : Keep h0 h2 [ka, wa, ba] := (Keep.refl h0 [ka, wa, ba]).wr W2 (Or.inl (List.mem_of_getElem? (i := 0) rfl))
  have Z11 : n0 ≤ h2.size := by rw [W2.size]; exact Z0
  obtain ⟨T12, X12, e12, st12⟩ := getF X2 hx hZ hown (host := "") (Or.inl (hw _ (List.mem_of_getElem? (i := 13) rfl))) Via.refl e2 f2_5 (g := (mkF m 8 #[.val (.ref a), .val (.int (0 : Int32)), .val (.int kd), .val (.long wd), .second, .val (.ref y)] [(.ref a)])) rfl rfl (hb hby d20r_8)
  obtain ⟨cl13, Ar13, q13, S13, L13, H13, G13⟩ := id f2_7
  have hin13 : ¬ ((0 : Int32) < 0 ∨ cl13.slots.size ≤ ((0 : Int32)).toNatClampNeg) := inb_of S13 ⟨by decide, by decide⟩
  obtain ⟨T13, h13, X13, e13, W13, st13⟩ := stJ X12 hx hZ e12 Ar13 (j := (0 : Int32)) hin13 (g := (mkF m 13 #[.val (.ref a), .val (.int (0 : Int32)), .val (.int kd), .val (.long wd), .second, .val (.ref y)] [(.long wd), (.int (0 : Int32)), (.ref wa)])) rfl rfl (hb hby d20r_13)
  have V13 := Arv.set Ar13 q13 S13 L13 H13 G13 rfl W13 0 rfl (Nat.le_of_ble_eq_true rfl)
  have N13 := Fr.snoc X13 N2 gb_wa
  have f13_14 := f2_3.wr W13
  have f13_15 := f2_4.other W13 (Or.inl d5)
  have f13_16 := f2_5.other W13 (Or.inl d5)
  have f13_17 := f2_6.other W13 (Or.inl d5)
  have f13_18 := V2.other W13 d1
  have f13_19 := f2_8.other W13 (Ne.symm d3)
  have f13_20 := f2_9.wr W13
  have K21 : Keep h0 h13 [ka, wa, ba] := K10.wr W13 (Or.inl (List.mem_of_getElem? (i := 1) rfl))
  have Z22 : n0 ≤ h13.size := by rw [W13.size]; exact Z11
  obtain ⟨T23, X23, e23, st23⟩ := getF X13 hx hZ hown (host := "") (Or.inl (hw _ (List.mem_of_getElem? (i := 17) rfl))) Via.refl e13 f13_17 (g := (mkF m 29 #[.val (.ref a), .val (.int (0 : Int32)), .val (.int kd), .val (.long wd), .second, .val (.ref y)] [(.ref a)])) rfl rfl (hb hby d20r_29)
  obtain ⟨cl24, Ar24, q24, S24, L24, H24, G24⟩ := id f13_19
  have hin24 : ¬ ((0 : Int32) < 0 ∨ cl24.slots.size ≤ ((0 : Int32)).toNatClampNeg) := inb_of S24 ⟨by decide, by decide⟩
  obtain ⟨T24, h24, X24, e24, W24, st24⟩ := stR X23 hx hZ e23 Ar24 (j := (0 : Int32)) hin24 rfl (Sto.ofVA Ar24 q24 OV (Ins.self (f13_20))) (g := (mkF m 35 #[.val (.ref a), .val (.int (0 : Int32)), .val (.int kd), .val (.long wd), .second, .val (.ref y)] [(.ref y), (.int (0 : Int32)), (.ref ba)])) rfl rfl (hb hby d20r_35)
  have V24 := Arv.set Ar24 q24 S24 L24 H24 G24 rfl W24 0 rfl (Nat.le_of_ble_eq_true rfl)
  have N24 := Fr.snoc X24 N13 gb_ba
  have f24_25 := f13_14.wr W24
  have f24_26 := f13_15.other W24 (Or.inl d6)
  have f24_27 := f13_16.other W24 (Or.inl d6)
  have f24_28 := f13_17.other W24 (Or.inl d6)
  have f24_29 := f13_18.other W24 d2
  have f24_30 := V13.other W24 d3
  have f24_31 := f13_20.wr W24
  have K32 : Keep h0 h24 [ka, wa, ba] := K21.wr W24 (Or.inl (List.mem_of_getElem? (i := 2) rfl))
  have Z33 : n0 ≤ h24.size := by rw [W24.size]; exact Z22
  have pre34 : ∀ tg_, Steps p.tables e below (T24.setTop (mkF m 36 #[.val (.ref a), .val (.int (0 : Int32)), .val (.int kd), .val (.long wd), .second, .val (.ref y)] [])) tg_ → Steps p.tables e below (s₁.setTop (entryFrame m #[(.ref a), (.int (0 : Int32)), (.int kd), (.long wd), (.ref y)] 6)) tg_ := by
    intro tg_ kt
    refine pre0 _ ?_
    show Steps p.tables e below (s₁.setTop (mkF m 0 #[.val (.ref a), .val (.int (0 : Int32)), .val (.int kd), .val (.long wd), .second, .val (.ref y)] [])) _
    refine XS.aloadN X0.here hx rfl (hb hby d20r_0) rfl rfl ?_
    show Steps p.tables e below (s₁.setTop (mkF m 1 #[.val (.ref a), .val (.int (0 : Int32)), .val (.int kd), .val (.long wd), .second, .val (.ref y)] [(.ref a)])) _
    refine st1 _ ?_
    show Steps p.tables e below (T1.setTop (mkF m 4 #[.val (.ref a), .val (.int (0 : Int32)), .val (.int kd), .val (.long wd), .second, .val (.ref y)] [(.ref ka)])) _
    refine XS.iloadN X1.here hx rfl (hb hby d20r_4) rfl ?_
    show Steps p.tables e below (T1.setTop (mkF m 5 #[.val (.ref a), .val (.int (0 : Int32)), .val (.int kd), .val (.long wd), .second, .val (.ref y)] [(.int (0 : Int32)), (.ref ka)])) _
    refine XS.iloadN X1.here hx rfl (hb hby d20r_5) rfl ?_
    show Steps p.tables e below (T1.setTop (mkF m 6 #[.val (.ref a), .val (.int (0 : Int32)), .val (.int kd), .val (.long wd), .second, .val (.ref y)] [(.int kd), (.int (0 : Int32)), (.ref ka)])) _
    refine st2 _ ?_
    show Steps p.tables e below (T2.setTop (mkF m 7 #[.val (.ref a), .val (.int (0 : Int32)), .val (.int kd), .val (.long wd), .second, .val (.ref y)] [])) _
    refine XS.aloadN X2.here hx rfl (hb hby d20r_7) rfl rfl ?_
    show Steps p.tables e below (T2.setTop (mkF m 8 #[.val (.ref a), .val (.int (0 : Int32)), .val (.int kd), .val (.long wd), .second, .val (.ref y)] [(.ref a)])) _
    refine st12 _ ?_
    show Steps p.tables e below (T12.setTop (mkF m 11 #[.val (.ref a), .val (.int (0 : Int32)), .val (.int kd), .val (.long wd), .second, .val (.ref y)] [(.ref wa)])) _
    refine XS.iloadN X12.here hx rfl (hb hby d20r_11) rfl ?_
    show Steps p.tables e below (T12.setTop (mkF m 12 #[.val (.ref a), .val (.int (0 : Int32)), .val (.int kd), .val (.long wd), .second, .val (.ref y)] [(.int (0 : Int32)), (.ref wa)])) _
    refine XS.lloadN X12.here hx rfl (hb hby d20r_12) rfl ?_
    show Steps p.tables e below (T12.setTop (mkF m 13 #[.val (.ref a), .val (.int (0 : Int32)), .val (.int kd), .val (.long wd), .second, .val (.ref y)] [(.long wd), (.int (0 : Int32)), (.ref wa)])) _
    refine st13 _ ?_
    show Steps p.tables e below (T13.setTop (mkF m 14 #[.val (.ref a), .val (.int (0 : Int32)), .val (.int kd), .val (.long wd), .second, .val (.ref y)] [])) _
    refine XS.aload X13.here hx rfl (hb hby d20r_14) rfl rfl ?_
    show Steps p.tables e below (T13.setTop (mkF m 16 #[.val (.ref a), .val (.int (0 : Int32)), .val (.int kd), .val (.long wd), .second, .val (.ref y)] [(.ref y)])) _
    refine XS.ifnonnullYes X13.here hx rfl (pc0 := 16) (pc' := 28) rfl (hb hby d20r_16) rfl (by decide) (by decide) ?_
    show Steps p.tables e below (T13.setTop (mkF m 28 #[.val (.ref a), .val (.int (0 : Int32)), .val (.int kd), .val (.long wd), .second, .val (.ref y)] [])) _
    refine XS.aloadN X13.here hx rfl (hb hby d20r_28) rfl rfl ?_
    show Steps p.tables e below (T13.setTop (mkF m 29 #[.val (.ref a), .val (.int (0 : Int32)), .val (.int kd), .val (.long wd), .second, .val (.ref y)] [(.ref a)])) _
    refine st23 _ ?_
    show Steps p.tables e below (T23.setTop (mkF m 32 #[.val (.ref a), .val (.int (0 : Int32)), .val (.int kd), .val (.long wd), .second, .val (.ref y)] [(.ref ba)])) _
    refine XS.iloadN X23.here hx rfl (hb hby d20r_32) rfl ?_
    show Steps p.tables e below (T23.setTop (mkF m 33 #[.val (.ref a), .val (.int (0 : Int32)), .val (.int kd), .val (.long wd), .second, .val (.ref y)] [(.int (0 : Int32)), (.ref ba)])) _
    refine XS.aload X23.here hx rfl (hb hby d20r_33) rfl rfl ?_
    show Steps p.tables e below (T23.setTop (mkF m 35 #[.val (.ref a), .val (.int (0 : Int32)), .val (.int kd), .val (.long wd), .second, .val (.ref y)] [(.ref y), (.int (0 : Int32)), (.ref ba)])) _
    refine st24 _ ?_
    exact kt
  obtain ⟨fs, hr, hrun, hended, hW, hsame⟩ := X24.leave (v := none) (fun _ => rfl)
  refine ⟨_, _, pre34 _ ?_, hrun, hended, _, _, rfl, ?_, ⟨_, rfl⟩, hW, hsame.mono (by decide) (by decide)⟩
  · show Steps p.tables e below (T24.setTop (mkF m 36 #[.val (.ref a), .val (.int (0 : Int32)), .val (.int kd), .val (.long wd), .second, .val (.ref y)] [])) _
    exact X24.returnOut hx Bd.returns (hb hby d20r_36) hr
  · show QS Z a ka wa ba ck cw cb (nar .byte kd) k1 wd q1 (.ref y) v1 h0 n0 _ T24.heap _
    rw [e24]
    exact ⟨rfl, N24, K32, f24_25, f24_26, f24_27, f24_28, f24_29, f24_30, V24, OV, nk, nw, nb, d1, d2, d3, d4, d5, d6⟩
theorem rm20 (l : Launch) (Z : State) (a0 : Array Value) (hw : ∀ d ∈ tables_1, d.before a0 Z = true) (ws : List Jvm.Cond) (a ka wa ba : Addr) (ck cw cb : ClassId) (k0 k1 : Int32) (q0 q1 : Int64) (v0 v1 : Value) (kd : Int32) (wd : Int64) (v : Value) (h0 : Heap) (n0 : Nat) (Z0 : n0 ≤ h0.size) (Cc : Cel Z h0 n0 a ka wa ba ck cw cb k0 k1 q0 q1 v0 v1) (B : Byt Z h0 v) :
    MetFree l (⟨"com/example/hornbrook/hornbrook/Cells", "set", "(IBJ[B)V"⟩ : MethodName) (head1 (Jvm.Cond.code (⟨"com/example/hornbrook/hornbrook/Cells", "set", "(IBJ[B)V"⟩ : MethodName) prog_38_method_7_code 6 none :: ws) ({ frames := 0, cells := 0, slots := 0, locals := 0 } : Room)) (fun a_ U => a_ = #[(.ref a), (.int (0 : Int32)), (.int kd), (.long wd), v] ∧ Z.Warmed39 U.vm ∧ U.heap = h0) (fun _ _ _ _ _ => True) (fun _ U o U' => ∃ v_ L, o = .returned v_ ∧ QS Z a ka wa ba ck cw cb (nar .byte kd) k1 wd q1 v v1 h0 n0 v_ U'.heap L ∧ FrameEnd U o U' L ({ frames := 0, cells := 0, slots := 0, locals := 0 } : Room).cells ({ frames := 0, cells := 0, slots := 0, locals := 0 } : Room).slots) := by
  rcases B with rfl | ⟨y, rfl, Ey⟩
  · exact rm20n l Z a0 hw ws a ka wa ba ck cw cb k0 k1 q0 q1 v0 v1 kd wd h0 n0 Z0 Cc
  · exact rm20r l Z a0 hw ws a ka wa ba ck cw cb k0 k1 q0 q1 v0 v1 kd wd y h0 n0 Z0 Cc Ey
theorem d21n_0 : decode prog_38_method_7_code 0 = .ok (.aload_n 0, 1) := by decide +kernel
theorem d21n_1 : decode prog_38_method_7_code 1 = .ok (.getfield 7, 3) := by decide +kernel
theorem d21n_4 : decode prog_38_method_7_code 4 = .ok (.iload_n 1, 1) := by decide +kernel
theorem d21n_5 : decode prog_38_method_7_code 5 = .ok (.iload_n 2, 1) := by decide +kernel
theorem d21n_6 : decode prog_38_method_7_code 6 = .ok (.bastore, 1) := by decide +kernel
theorem d21n_7 : decode prog_38_method_7_code 7 = .ok (.aload_n 0, 1) := by decide +kernel
theorem d21n_8 : decode prog_38_method_7_code 8 = .ok (.getfield 13, 3) := by decide +kernel
theorem d21n_11 : decode prog_38_method_7_code 11 = .ok (.iload_n 1, 1) := by decide +kernel
theorem d21n_12 : decode prog_38_method_7_code 12 = .ok (.lload_n 3, 1) := by decide +kernel
theorem d21n_13 : decode prog_38_method_7_code 13 = .ok (.lastore, 1) := by decide +kernel
theorem d21n_14 : decode prog_38_method_7_code 14 = .ok (.aload 5, 2) := by decide +kernel
theorem d21n_16 : decode prog_38_method_7_code 16 = .ok (.ifnonnull 12, 3) := by decide +kernel
theorem d21n_19 : decode prog_38_method_7_code 19 = .ok (.aload_n 0, 1) := by decide +kernel
theorem d21n_20 : decode prog_38_method_7_code 20 = .ok (.getfield 18, 3) := by decide +kernel
theorem d21n_23 : decode prog_38_method_7_code 23 = .ok (.iload_n 1, 1) := by decide +kernel
theorem d21n_24 : decode prog_38_method_7_code 24 = .ok (.aaload, 1) := by decide +kernel
theorem d21n_25 : decode prog_38_method_7_code 25 = .ok (.ifnull 11, 3) := by decide +kernel
theorem d21n_28 : decode prog_38_method_7_code 28 = .ok (.aload_n 0, 1) := by decide +kernel
theorem d21n_29 : decode prog_38_method_7_code 29 = .ok (.getfield 18, 3) := by decide +kernel
theorem d21n_32 : decode prog_38_method_7_code 32 = .ok (.iload_n 1, 1) := by decide +kernel
theorem d21n_33 : decode prog_38_method_7_code 33 = .ok (.aload 5, 2) := by decide +kernel
theorem d21n_35 : decode prog_38_method_7_code 35 = .ok (.aastore, 1) := by decide +kernel
theorem d21n_36 : decode prog_38_method_7_code 36 = .ok (.return_, 1) := by decide +kernel
theorem pn21n : plainName "com/example/hornbrook/hornbrook/Cells" = true := by first | (simp [plainName, overriddenIn]; done) | decide +kernel
theorem ef21n (m : MethodId) (x0 : Addr) (x1 : Int32) (x2 : Int32) (x3 : Int64) : entryFrame m #[(.ref x0), (.int x1), (.int x2), (.long x3), .null] 6 = mkF m 0 #[.val (.ref x0), .val (.int x1), .val (.int x2), .val (.long x3), .second, .val .null] [] := by first | (simp [entryFrame, mkF, argsToLocals, Value.category]; done) | rfl
set_option maxRecDepth 65536 in
set_option maxHeartbeats 40000000 in
theorem rm21n (l : Launch) (Z : State) (a0 : Array Value) (hw : ∀ d ∈ tables_1, d.before a0 Z = true) (ws : List Jvm.Cond) (a ka wa ba : Addr) (ck cw cb : ClassId) (k0 k1 : Int32) (q0 q1 : Int64) (v0 v1 : Value) (kd : Int32) (wd : Int64) (h0 : Heap) (n0 : Nat) (Z0 : n0 ≤ h0.size) (Cc : Cel Z h0 n0 a ka wa ba ck cw cb k0 k1 q0 q1 v0 v1) :
    MetFree l (⟨"com/example/hornbrook/hornbrook/Cells", "set", "(IBJ[B)V"⟩ : MethodName) (head1 (Jvm.Cond.code (⟨"com/example/hornbrook/hornbrook/Cells", "set", "(IBJ[B)V"⟩ : MethodName) prog_38_method_7_code 6 none :: ws) ({ frames := 0, cells := 0, slots := 0, locals := 0 } : Room)) (fun aa_ U => aa_ = #[(.ref a), (.int (1 : Int32)), (.int kd), (.long wd), .null] ∧ Z.Warmed39 U.vm ∧ U.heap = h0) (fun _ _ _ _ _ => True) (fun _ U o U' => ∃ vv_ LL_, o = .returned vv_ ∧ QS Z a ka wa ba ck cw cb k0 (nar .byte kd) q0 wd v0 .null h0 n0 vv_ U'.heap LL_ ∧ FrameEnd U o U' LL_ ({ frames := 0, cells := 0, slots := 0, locals := 0 } : Room).cells ({ frames := 0, cells := 0, slots := 0, locals := 0 } : Room).slots) := by
  refine MetFree.of_bodySF (plainFor_of_name pn21n) hisR ?_
  intro p e s m args below meth c s₁ Bd hml0 hP hK
  obtain ⟨rfl, hZ, hh⟩ := hP
  have hx := Bd.exec
  have hby := Bd.bytes
  have hml : c.maxLocals = 6 := hml0
  have hown : s.vm.findClass "com/example/hornbrook/hornbrook/Cells" = some m.cls := findClass_of_methodNamed Bd.named
  have hnm := (name_of_methodNamed Bd.named Bd.method).1
  have X0 : Stand p l e ({ frames := 0, cells := 0, slots := 0, locals := 0 } : Room) s m #[(.ref a), (.int (1 : Int32)), (.int kd), (.long wd), .null] below meth c s₁ [] 0 0 := Stand.of_body Bd
  have e0 : s₁.heap = h0 := by rw [← hh, Bd.state]; rfl
  have N0 := Fr.nil n0
  have pre0 : ∀ tg_, Steps p.tables e below (s₁.setTop (mkF m 0 #[.val (.ref a), .val (.int (1 : Int32)), .val (.int kd), .val (.long wd), .second, .val .null] [])) tg_ → Steps p.tables e below (s₁.setTop (entryFrame m #[(.ref a), (.int (1 : Int32)), (.int kd), (.long wd), .null] 6)) tg_ := fun tg_ kt => castTop (ef21n m a (1 : Int32) kd wd) kt
  obtain ⟨EX, FK, FW, FB, AK, AW, AB, OV, nk, nw, nb, d1, d2, d3, d4, d5, d6⟩ := Cc
  have gb_ka := nk
  have gb_wa := nw
  have gb_ba := nb
  have hr_v1 : v1.isRef = true := by
    obtain ⟨c_, A_, -, S_, -, -, G_⟩ := id AB
    have q := G_ 1 (by rw [S_]; decide)
    exact fit_R q rfl
  obtain ⟨T1, X1, e1, st1⟩ := getF X0 hx hZ hown (host := "") (Or.inl (hw _ (List.mem_of_getElem? (i := 10) rfl))) Via.refl e0 FK (g := (mkF m 1 #[.val (.ref a), .val (.int (1 : Int32)), .val (.int kd), .val (.long wd), .second, .val .null] [(.ref a)])) rfl rfl (hb hby d21n_1)
  obtain ⟨cl2, Ar2, q2, S2, L2, H2, G2⟩ := id AK
  have hin2 : ¬ ((1 : Int32) < 0 ∨ cl2.slots.size ≤ ((1 : Int32)).toNatClampNeg) := inb_of S2 ⟨by decide, by decide⟩
  obtain ⟨T2, h2, X2, e2, W2, st2⟩ := stB X1 hx hZ e1 Ar2 (j := (1 : Int32)) hin2 (g := (mkF m 6 #[.val (.ref a), .val (.int (1 : Int32)), .val (.int kd), .val (.long wd), .second, .val .null] [(.int kd), (.int (1 : Int32)), (.ref ka)])) rfl rfl (hb hby d21n_6)
  have V2 := Arv.set Ar2 q2 S2 L2 H2 G2 (fits_nar_byte _) W2 1 rfl (Nat.le_of_ble_eq_true rfl)
  have N2 := Fr.snoc X2 N0 gb_ka
  have f2_3 := EX.wr W2
  have f2_4 := FK.other W2 (Or.inl d4)
  have f2_5 := FW.other W2 (Or.inl d4)
  have f2_6 := FB.other W2 (Or.inl d4)
  have f2_7 := AW.other W2 (Ne.symm d1)
  have f2_8 := AB.other W2 (Ne.symm d2)
  have K9 : Keep h0 h2 [ka, wa, ba] := (Keep.refl h0 [ka, wa, ba]).wr W2 (Or.inl (List.mem_of_getElem? (i := 0) rfl))
  have Z10 : n0 ≤ h2.size := by rw [W2.size]; exact Z0
  obtain ⟨T11, X11, e11, st11⟩ := getF X2 hx hZ hown (host := "") (Or.inl (hw _ (List.mem_of_getElem? (i := 13) rfl))) Via.refl e2 f2_5 (g := (mkF m 8 #[.val (.ref a), .val (.int (1 : Int32)), .val (.int kd), .val (.long wd), .second, .val .null] [(.ref a)])) rfl rfl (hb hby d21n_8)
  obtain ⟨cl12, Ar12, q12, S12, L12, H12, G12⟩ := id f2_7
  have hin12 : ¬ ((1 : Int32) < 0 ∨ cl12.slots.size ≤ ((1 : Int32)).toNatClampNeg) := inb_of S12 ⟨by decide, by decide⟩
  obtain ⟨T12, h12, X12, e12, W12, st12⟩ := stJ X11 hx hZ e11 Ar12 (j := (1 : Int32)) hin12 (g := (mkF m 13 #[.val (.ref a), .val (.int (1 : Int32)), .val (.int kd), .val (.long wd), .second, .val .null] [(.long wd), (.int (1 : Int32)), (.ref wa)])) rfl rfl (hb hby d21n_13)
  have V12 := Arv.set Ar12 q12 S12 L12 H12 G12 rfl W12 1 rfl (Nat.le_of_ble_eq_true rfl)
  have N12 := Fr.snoc X12 N2 gb_wa
  have f12_13 := f2_3.wr W12
  have f12_14 := f2_4.other W12 (Or.inl d5)
  have f12_15 := f2_5.other W12 (Or.inl d5)
  have f12_16 := f2_6.other W12 (Or.inl d5)
  have f12_17 := V2.other W12 d1
  have f12_18 := f2_8.other W12 (Ne.symm d3)
  have K19 : Keep h0 h12 [ka, wa, ba] := K9.wr W12 (Or.inl (List.mem_of_getElem? (i := 1) rfl))
  have Z20 : n0 ≤ h12.size := by rw [W12.size]; exact Z10
  obtain ⟨T21, X21, e21, st21⟩ := getF X12 hx hZ hown (host := "") (Or.inl (hw _ (List.mem_of_getElem? (i := 17) rfl))) Via.refl e12 f12_16 (g := (mkF m 20 #[.val (.ref a), .val (.int (1 : Int32)), .val (.int kd), .val (.long wd), .second, .val .null] [(.ref a)])) rfl rfl (hb hby d21n_20)
  obtain ⟨cl22, Ar22, q22, S22, L22, H22, G22⟩ := id f12_18
  have hin22 : ¬ ((1 : Int32) < 0 ∨ cl22.slots.size ≤ ((1 : Int32)).toNatClampNeg) := inb_of S22 ⟨by decide, by decide⟩
  have hat22 : cl22.slots[((1 : Int32)).toNatClampNeg]? = some v1 := Has.at H22 hin22 rfl
  have pre23 : ∀ tg_, Steps p.tables e below (T21.setTop (mkF m 25 #[.val (.ref a), .val (.int (1 : Int32)), .val (.int kd), .val (.long wd), .second, .val .null] [v1])) tg_ → Steps p.tables e below (s₁.setTop (entryFrame m #[(.ref a), (.int (1 : Int32)), (.int kd), (.long wd), .null] 6)) tg_ := by
    intro tg_ kt
    refine pre0 _ ?_
    show Steps p.tables e below (s₁.setTop (mkF m 0 #[.val (.ref a), .val (.int (1 : Int32)), .val (.int kd), .val (.long wd), .second, .val .null] [])) _
    refine XS.aloadN X0.here hx rfl (hb hby d21n_0) rfl rfl ?_
    show Steps p.tables e below (s₁.setTop (mkF m 1 #[.val (.ref a), .val (.int (1 : Int32)), .val (.int kd), .val (.long wd), .second, .val .null] [(.ref a)])) _
    refine st1 _ ?_
    show Steps p.tables e below (T1.setTop (mkF m 4 #[.val (.ref a), .val (.int (1 : Int32)), .val (.int kd), .val (.long wd), .second, .val .null] [(.ref ka)])) _
    refine XS.iloadN X1.here hx rfl (hb hby d21n_4) rfl ?_
    show Steps p.tables e below (T1.setTop (mkF m 5 #[.val (.ref a), .val (.int (1 : Int32)), .val (.int kd), .val (.long wd), .second, .val .null] [(.int (1 : Int32)), (.ref ka)])) _
    refine XS.iloadN X1.here hx rfl (hb hby d21n_5) rfl ?_
    show Steps p.tables e below (T1.setTop (mkF m 6 #[.val (.ref a), .val (.int (1 : Int32)), .val (.int kd), .val (.long wd), .second, .val .null] [(.int kd), (.int (1 : Int32)), (.ref ka)])) _
    refine st2 _ ?_
    show Steps p.tables e below (T2.setTop (mkF m 7 #[.val (.ref a), .val (.int (1 : Int32)), .val (.int kd), .val (.long wd), .second, .val .null] [])) _
    refine XS.aloadN X2.here hx rfl (hb hby d21n_7) rfl rfl ?_
    show Steps p.tables e below (T2.setTop (mkF m 8 #[.val (.ref a), .val (.int (1 : Int32)), .val (.int kd), .val (.long wd), .second, .val .null] [(.ref a)])) _
    refine st11 _ ?_
    show Steps p.tables e below (T11.setTop (mkF m 11 #[.val (.ref a), .val (.int (1 : Int32)), .val (.int kd), .val (.long wd), .second, .val .null] [(.ref wa)])) _
    refine XS.iloadN X11.here hx rfl (hb hby d21n_11) rfl ?_
    show Steps p.tables e below (T11.setTop (mkF m 12 #[.val (.ref a), .val (.int (1 : Int32)), .val (.int kd), .val (.long wd), .second, .val .null] [(.int (1 : Int32)), (.ref wa)])) _
    refine XS.lloadN X11.here hx rfl (hb hby d21n_12) rfl ?_
    show Steps p.tables e below (T11.setTop (mkF m 13 #[.val (.ref a), .val (.int (1 : Int32)), .val (.int kd), .val (.long wd), .second, .val .null] [(.long wd), (.int (1 : Int32)), (.ref wa)])) _
    refine st12 _ ?_
    show Steps p.tables e below (T12.setTop (mkF m 14 #[.val (.ref a), .val (.int (1 : Int32)), .val (.int kd), .val (.long wd), .second, .val .null] [])) _
    refine XS.aload X12.here hx rfl (hb hby d21n_14) rfl rfl ?_
    show Steps p.tables e below (T12.setTop (mkF m 16 #[.val (.ref a), .val (.int (1 : Int32)), .val (.int kd), .val (.long wd), .second, .val .null] [.null])) _
    refine XS.ifnonnullNo X12.here hx rfl (hb hby d21n_16) rfl ?_
    show Steps p.tables e below (T12.setTop (mkF m 19 #[.val (.ref a), .val (.int (1 : Int32)), .val (.int kd), .val (.long wd), .second, .val .null] [])) _
    refine XS.aloadN X12.here hx rfl (hb hby d21n_19) rfl rfl ?_
    show Steps p.tables e below (T12.setTop (mkF m 20 #[.val (.ref a), .val (.int (1 : Int32)), .val (.int kd), .val (.long wd), .second, .val .null] [(.ref a)])) _
    refine st21 _ ?_
    show Steps p.tables e below (T21.setTop (mkF m 23 #[.val (.ref a), .val (.int (1 : Int32)), .val (.int kd), .val (.long wd), .second, .val .null] [(.ref ba)])) _
    refine XS.iloadN X21.here hx rfl (hb hby d21n_23) rfl ?_
    show Steps p.tables e below (T21.setTop (mkF m 24 #[.val (.ref a), .val (.int (1 : Int32)), .val (.int kd), .val (.long wd), .second, .val .null] [(.int (1 : Int32)), (.ref ba)])) _
    refine X21.aaload hx (j := (1 : Int32)) (v := v1) (by rw [e21]; exact Ar22.1) (State.isArrayOf_alike hZ.alike Ar22.2.1) rfl Ar22.2.2 hin22 hat22 (g := (mkF m 24 #[.val (.ref a), .val (.int (1 : Int32)), .val (.int kd), .val (.long wd), .second, .val .null] [(.int (1 : Int32)), (.ref ba)])) rfl rfl (hb hby d21n_24) _ ?_
    exact kt
  rcases ref_cases hr_v1 with hv_ | ⟨yv, hv_⟩
  · have pre24 : ∀ tg_, Steps p.tables e below (T21.setTop (mkF m 36 #[.val (.ref a), .val (.int (1 : Int32)), .val (.int kd), .val (.long wd), .second, .val .null] [])) tg_ → Steps p.tables e below (s₁.setTop (entryFrame m #[(.ref a), (.int (1 : Int32)), (.int kd), (.long wd), .null] 6)) tg_ := by
      intro tg_ kt
      refine pre23 _ ?_
      show Steps p.tables e below (T21.setTop (mkF m 25 #[.val (.ref a), .val (.int (1 : Int32)), .val (.int kd), .val (.long wd), .second, .val .null] [v1])) _
      refine XT.nullYes X21.here hx rfl (pc0 := 25) (pc' := 36) rfl (hb hby d21n_25) rfl hv_ (by decide) (by decide) ?_
      exact kt
    obtain ⟨fs, hr, hrun, hended, hW, hsame⟩ := X21.leave (v := none) (fun _ => rfl)
    refine ⟨_, _, pre24 _ ?_, hrun, hended, _, _, rfl, ?_, ⟨_, rfl⟩, hW, hsame.mono (by decide) (by decide)⟩
    · show Steps p.tables e below (T21.setTop (mkF m 36 #[.val (.ref a), .val (.int (1 : Int32)), .val (.int kd), .val (.long wd), .second, .val .null] [])) _
      exact X21.returnOut hx Bd.returns (hb hby d21n_36) hr
    · show QS Z a ka wa ba ck cw cb k0 (nar .byte kd) q0 wd v0 .null h0 n0 _ T21.heap _
      rw [e21]
      exact ⟨rfl, N12, K19, f12_13, f12_14, f12_15, f12_16, f12_17, V12, (by have q := f12_18; rw [hv_] at q; exact q), OV, nk, nw, nb, d1, d2, d3, d4, d5, d6⟩
  · obtain ⟨T25, X25, e25, st25⟩ := getF X21 hx hZ hown (host := "") (Or.inl (hw _ (List.mem_of_getElem? (i := 17) rfl))) Via.refl e21 f12_16 (g := (mkF m 29 #[.val (.ref a), .val (.int (1 : Int32)), .val (.int kd), .val (.long wd), .second, .val .null] [(.ref a)])) rfl rfl (hb hby d21n_29)
    obtain ⟨cl26, Ar26, q26, S26, L26, H26, G26⟩ := id f12_18
    have hin26 : ¬ ((1 : Int32) < 0 ∨ cl26.slots.size ≤ ((1 : Int32)).toNatClampNeg) := inb_of S26 ⟨by decide, by decide⟩
    obtain ⟨T26, h26, X26, e26, W26, st26⟩ := stR X25 hx hZ e25 Ar26 (j := (1 : Int32)) hin26 rfl (Or.inl rfl) (g := (mkF m 35 #[.val (.ref a), .val (.int (1 : Int32)), .val (.int kd), .val (.long wd), .second, .val .null] [.null, (.int (1 : Int32)), (.ref ba)])) rfl rfl (hb hby d21n_35)
    have V26 := Arv.set Ar26 q26 S26 L26 H26 G26 rfl W26 1 rfl (Nat.le_of_ble_eq_true rfl)
    have N26 := Fr.snoc X26 N12 gb_ba
    have f26_27 := f12_13.wr W26
    have f26_28 := f12_14.other W26 (Or.inl d6)
    have f26_29 := f12_15.other W26 (Or.inl d6)
    have f26_30 := f12_16.other W26 (Or.inl d6)
    have f26_31 := f12_17.other W26 d2
    have f26_32 := V12.other W26 d3
    have K33 : Keep h0 h26 [ka, wa, ba] := K19.wr W26 (Or.inl (List.mem_of_getElem? (i := 2) rfl))
    have Z34 : n0 ≤ h26.size := by rw [W26.size]; exact Z20
    have pre35 : ∀ tg_, Steps p.tables e below (T26.setTop (mkF m 36 #[.val (.ref a), .val (.int (1 : Int32)), .val (.int kd), .val (.long wd), .second, .val .null] [])) tg_ → Steps p.tables e below (s₁.setTop (entryFrame m #[(.ref a), (.int (1 : Int32)), (.int kd), (.long wd), .null] 6)) tg_ := by
      intro tg_ kt
      refine pre23 _ ?_
      show Steps p.tables e below (T21.setTop (mkF m 25 #[.val (.ref a), .val (.int (1 : Int32)), .val (.int kd), .val (.long wd), .second, .val .null] [v1])) _
      refine XT.nullNo X21.here hx rfl (hb hby d21n_25) rfl hr_v1 (by rw [hv_]; nofun) ?_
      show Steps p.tables e below (T21.setTop (mkF m 28 #[.val (.ref a), .val (.int (1 : Int32)), .val (.int kd), .val (.long wd), .second, .val .null] [])) _
      refine XS.aloadN X21.here hx rfl (hb hby d21n_28) rfl rfl ?_
      show Steps p.tables e below (T21.setTop (mkF m 29 #[.val (.ref a), .val (.int (1 : Int32)), .val (.int kd), .val (.long wd), .second, .val .null] [(.ref a)])) _
      refine st25 _ ?_
      show Steps p.tables e below (T25.setTop (mkF m 32 #[.val (.ref a), .val (.int (1 : Int32)), .val (.int kd), .val (.long wd), .second, .val .null] [(.ref ba)])) _
      refine XS.iloadN X25.here hx rfl (hb hby d21n_32) rfl ?_
      show Steps p.tables e below (T25.setTop (mkF m 33 #[.val (.ref a), .val (.int (1 : Int32)), .val (.int kd), .val (.long wd), .second, .val .null] [(.int (1 : Int32)), (.ref ba)])) _
      refine XS.aload X25.here hx rfl (hb hby d21n_33) rfl rfl ?_
      show Steps p.tables e below (T25.setTop (mkF m 35 #[.val (.ref a), .val (.int (1 : Int32)), .val (.int kd), .val (.long wd), .second, .val .null] [.null, (.int (1 : Int32)), (.ref ba)])) _
      refine st26 _ ?_
      exact kt
    obtain ⟨fs, hr, hrun, hended, hW, hsame⟩ := X26.leave (v := none) (fun _ => rfl)
    refine ⟨_, _, pre35 _ ?_, hrun, hended, _, _, rfl, ?_, ⟨_, rfl⟩, hW, hsame.mono (by decide) (by decide)⟩
    · show Steps p.tables e below (T26.setTop (mkF m 36 #[.val (.ref a), .val (.int (1 : Int32)), .val (.int kd), .val (.long wd), .second, .val .null] [])) _
      exact X26.returnOut hx Bd.returns (hb hby d21n_36) hr
    · show QS Z a ka wa ba ck cw cb k0 (nar .byte kd) q0 wd v0 .null h0 n0 _ T26.heap _
      rw [e26]
      exact ⟨rfl, N26, K33, f26_27, f26_28, f26_29, f26_30, f26_31, f26_32, V26, OV, nk, nw, nb, d1, d2, d3, d4, d5, d6⟩
theorem d21r_0 : decode prog_38_method_7_code 0 = .ok (.aload_n 0, 1) := by decide +kernel
theorem d21r_1 : decode prog_38_method_7_code 1 = .ok (.getfield 7, 3) := by decide +kernel
theorem d21r_4 : decode prog_38_method_7_code 4 = .ok (.iload_n 1, 1) := by decide +kernel
theorem d21r_5 : decode prog_38_method_7_code 5 = .ok (.iload_n 2, 1) := by decide +kernel
theorem d21r_6 : decode prog_38_method_7_code 6 = .ok (.bastore, 1) := by decide +kernel
theorem d21r_7 : decode prog_38_method_7_code 7 = .ok (.aload_n 0, 1) := by decide +kernel
theorem d21r_8 : decode prog_38_method_7_code 8 = .ok (.getfield 13, 3) := by decide +kernel
theorem d21r_11 : decode prog_38_method_7_code 11 = .ok (.iload_n 1, 1) := by decide +kernel
theorem d21r_12 : decode prog_38_method_7_code 12 = .ok (.lload_n 3, 1) := by decide +kernel
theorem d21r_13 : decode prog_38_method_7_code 13 = .ok (.lastore, 1) := by decide +kernel
theorem d21r_14 : decode prog_38_method_7_code 14 = .ok (.aload 5, 2) := by decide +kernel
theorem d21r_16 : decode prog_38_method_7_code 16 = .ok (.ifnonnull 12, 3) := by decide +kernel
theorem d21r_28 : decode prog_38_method_7_code 28 = .ok (.aload_n 0, 1) := by decide +kernel
theorem d21r_29 : decode prog_38_method_7_code 29 = .ok (.getfield 18, 3) := by decide +kernel
theorem d21r_32 : decode prog_38_method_7_code 32 = .ok (.iload_n 1, 1) := by decide +kernel
theorem d21r_33 : decode prog_38_method_7_code 33 = .ok (.aload 5, 2) := by decide +kernel
theorem d21r_35 : decode prog_38_method_7_code 35 = .ok (.aastore, 1) := by decide +kernel
theorem d21r_36 : decode prog_38_method_7_code 36 = .ok (.return_, 1) := by decide +kernel
theorem pn21r : plainName "com/example/hornbrook/hornbrook/Cells" = true := by first | (simp [plainName, overriddenIn]; done) | decide +kernel
theorem ef21r (m : MethodId) (x0 : Addr) (x1 : Int32) (x2 : Int32) (x3 : Int64) (x4 : Addr) : entryFrame m #[(.ref x0), (.int x1), (.int x2), (.long x3), (.ref x4)] 6 = mkF m 0 #[.val (.ref x0), .val (.int x1), .val (.int x2), .val (.long x3), .second, .val (.ref x4)] [] := by first | (simp [entryFrame, mkF, argsToLocals, Value.category]; done) | rfl
set_option maxRecDepth 65536 in
set_option maxHeartbeats 40000000 in
theorem rm21r (l : Launch) (Z : State) (a0 : Array Value) (hw : ∀ d ∈ tables_1, d.before a0 Z = true) (ws : List Jvm.Cond) (a ka wa ba : Addr) (ck cw cb : ClassId) (k0 k1 : Int32) (q0 q1 : Int64) (v0 v1 : Value) (kd : Int32) (wd : Int64) (y : Addr) (h0 : Heap) (n0 : Nat) (Z0 : n0 ≤ h0.size) (Cc : Cel Z h0 n0 a ka wa ba ck cw cb k0 k1 q0 q1 v0 v1) (Ey : Exa Z h0 y "[B") :
    MetFree l (⟨"com/example/hornbrook/hornbrook/Cells", "set", "(IBJ[B)V"⟩ : MethodName) (head1 (Jvm.Cond.code (⟨"com/example/hornbrook/hornbrook/Cells", "set", "(IBJ[B)V"⟩ : MethodName) prog_38_method_7_code 6 none :: ws) ({ frames := 0, cells := 0, slots := 0, locals := 0 } : Room)) (fun aa_ U => aa_ = #[(.ref a), (.int (1 : Int32)), (.int kd), (.long wd), (.ref y)] ∧ Z.Warmed39 U.vm ∧ U.heap = h0) (fun _ _ _ _ _ => True) (fun _ U o U' => ∃ vv_ LL_, o = .returned vv_ ∧ QS Z a ka wa ba ck cw cb k0 (nar .byte kd) q0 wd v0 (.ref y) h0 n0 vv_ U'.heap LL_ ∧ FrameEnd U o U' LL_ ({ frames := 0, cells := 0, slots := 0, locals := 0 } : Room).cells ({ frames := 0, cells := 0, slots := 0, locals := 0 } : Room).slots) := by
  refine MetFree.of_bodySF (plainFor_of_name pn21r) hisR ?_
  intro p e s m args below meth c s₁ Bd hml0 hP hK
  obtain ⟨rfl, hZ, hh⟩ := hP
  have hx := Bd.exec
  have hby := Bd.bytes
  have hml : c.maxLocals = 6 := hml0
  have hown : s.vm.findClass "com/example/hornbrook/hornbrook/Cells" = some m.cls := findClass_of_methodNamed Bd.named
  have hnm := (name_of_methodNamed Bd.named Bd.method).1
  have X0 : Stand p l e ({ frames := 0, cells := 0, slots := 0, locals := 0 } : Room) s m #[(.ref a), (.int (1 : Int32)), (.int kd), (.long wd), (.ref y)] below meth c s₁ [] 0 0 := Stand.of_body Bd
  have e0 : s₁.heap = h0 := by rw [← hh, Bd.state]; rfl
  have N0 := Fr.nil n0
  have pre0 : ∀ tg_, Steps p.tables e below (s₁.setTop (mkF m 0 #[.val (.ref a), .val (.int (1 : Int32)), .val (.int kd), .val (.long wd), .second, .val (.ref y)] [])) tg_ → Steps p.tables e below (s₁.setTop (entryFrame m #[(.ref a), (.int (1 : Int32)), (.int kd), (.long wd), (.ref y)] 6)) tg_ := fun tg_ kt => castTop (ef21r m a (1 : Int32) kd wd y) kt
  obtain ⟨EX, FK, FW, FB, AK, AW, AB, OV, nk, nw, nb, d1, d2, d3, d4, d5, d6⟩ := Cc
  have gb_ka := nk
  have gb_wa := nw
  have gb_ba := nb
  obtain ⟨T1, X1, e1, st1⟩ := getF X0 hx hZ hown (host := "") (Or.inl (hw _ (List.mem_of_getElem? (i := 10) rfl))) Via.refl e0 FK (g := (mkF m 1 #[.val (.ref a), .val (.int (1 : Int32)), .val (.int kd), .val (.long wd), .second, .val (.ref y)] [(.ref a)])) rfl rfl (hb hby d21r_1)
  obtain ⟨cl2, Ar2, q2, S2, L2, H2, G2⟩ := id AK
  have hin2 : ¬ ((1 : Int32) < 0 ∨ cl2.slots.size ≤ ((1 : Int32)).toNatClampNeg) := inb_of S2 ⟨by decide, by decide⟩
  obtain ⟨T2, h2, X2, e2, W2, st2⟩ := stB X1 hx hZ e1 Ar2 (j := (1 : Int32)) hin2 (g := (mkF m 6 #[.val (.ref a), .val (.int (1 : Int32)), .val (.int kd), .val (.long wd), .second, .val (.ref y)] [(.int kd), (.int (1 : Int32)), (.ref ka)])) rfl rfl (hb hby d21r_6)
  have V2 := Arv.set Ar2 q2 S2 L2 H2 G2 (fits_nar_byte _) W2 1 rfl (Nat.le_of_ble_eq_true rfl)
  have N2 := Fr.snoc X2 N0 gb_ka
  have f2_3 := EX.wr W2
  have f2_4 := FK.other W2 (Or.inl d4)
  have f2_5 := FW.other W2 (Or.inl d4)
  have f2_6 := FB.other W2 (Or.inl d4)
  have f2_7 := AW.other W2 (Ne.symm d1)
  have f2_8 := AB.other W2 (Ne.symm d2)
  have f2_9 := Ey.wr W2
  have K10 : Keep h0 h2 [ka, wa, ba] := (Keep.refl h0 [ka, wa, ba]).wr W2 (Or.inl (List.mem_of_getElem? (i := 0) rfl))
  have Z11 : n0 ≤ h2.size := by rw [W2.size]; exact Z0
  obtain ⟨T12, X12, e12, st12⟩ := getF X2 hx hZ hown (host := "") (Or.inl (hw _ (List.mem_of_getElem? (i := 13) rfl))) Via.refl e2 f2_5 (g := (mkF m 8 #[.val (.ref a), .val (.int (1 : Int32)), .val (.int kd), .val (.long wd), .second, .val (.ref y)] [(.ref a)])) rfl rfl (hb hby d21r_8)
  obtain ⟨cl13, Ar13, q13, S13, L13, H13, G13⟩ := id f2_7
  have hin13 : ¬ ((1 : Int32) < 0 ∨ cl13.slots.size ≤ ((1 : Int32)).toNatClampNeg) := inb_of S13 ⟨by decide, by decide⟩
  obtain ⟨T13, h13, X13, e13, W13, st13⟩ := stJ X12 hx hZ e12 Ar13 (j := (1 : Int32)) hin13 (g := (mkF m 13 #[.val (.ref a), .val (.int (1 : Int32)), .val (.int kd), .val (.long wd), .second, .val (.ref y)] [(.long wd), (.int (1 : Int32)), (.ref wa)])) rfl rfl (hb hby d21r_13)
  have V13 := Arv.set Ar13 q13 S13 L13 H13 G13 rfl W13 1 rfl (Nat.le_of_ble_eq_true rfl)
  have N13 := Fr.snoc X13 N2 gb_wa
  have f13_14 := f2_3.wr W13
  have f13_15 := f2_4.other W13 (Or.inl d5)
  have f13_16 := f2_5.other W13 (Or.inl d5)
  have f13_17 := f2_6.other W13 (Or.inl d5)
  have f13_18 := V2.other W13 d1
  have f13_19 := f2_8.other W13 (Ne.symm d3)
  have f13_20 := f2_9.wr W13
  have K21 : Keep h0 h13 [ka, wa, ba] := K10.wr W13 (Or.inl (List.mem_of_getElem? (i := 1) rfl))
  have Z22 : n0 ≤ h13.size := by rw [W13.size]; exact Z11
  obtain ⟨T23, X23, e23, st23⟩ := getF X13 hx hZ hown (host := "") (Or.inl (hw _ (List.mem_of_getElem? (i := 17) rfl))) Via.refl e13 f13_17 (g := (mkF m 29 #[.val (.ref a), .val (.int (1 : Int32)), .val (.int kd), .val (.long wd), .second, .val (.ref y)] [(.ref a)])) rfl rfl (hb hby d21r_29)
  obtain ⟨cl24, Ar24, q24, S24, L24, H24, G24⟩ := id f13_19
  have hin24 : ¬ ((1 : Int32) < 0 ∨ cl24.slots.size ≤ ((1 : Int32)).toNatClampNeg) := inb_of S24 ⟨by decide, by decide⟩
  obtain ⟨T24, h24, X24, e24, W24, st24⟩ := stR X23 hx hZ e23 Ar24 (j := (1 : Int32)) hin24 rfl (Sto.ofVA Ar24 q24 OV (Ins.self (f13_20))) (g := (mkF m 35 #[.val (.ref a), .val (.int (1 : Int32)), .val (.int kd), .val (.long wd), .second, .val (.ref y)] [(.ref y), (.int (1 : Int32)), (.ref ba)])) rfl rfl (hb hby d21r_35)
  have V24 := Arv.set Ar24 q24 S24 L24 H24 G24 rfl W24 1 rfl (Nat.le_of_ble_eq_true rfl)
  have N24 := Fr.snoc X24 N13 gb_ba
  have f24_25 := f13_14.wr W24
  have f24_26 := f13_15.other W24 (Or.inl d6)
  have f24_27 := f13_16.other W24 (Or.inl d6)
  have f24_28 := f13_17.other W24 (Or.inl d6)
  have f24_29 := f13_18.other W24 d2
  have f24_30 := V13.other W24 d3
  have f24_31 := f13_20.wr W24
  have K32 : Keep h0 h24 [ka, wa, ba] := K21.wr W24 (Or.inl (List.mem_of_getElem? (i := 2) rfl))
  have Z33 : n0 ≤ h24.size := by rw [W24.size]; exact Z22
  have pre34 : ∀ tg_, Steps p.tables e below (T24.setTop (mkF m 36 #[.val (.ref a), .val (.int (1 : Int32)), .val (.int kd), .val (.long wd), .second, .val (.ref y)] [])) tg_ → Steps p.tables e below (s₁.setTop (entryFrame m #[(.ref a), (.int (1 : Int32)), (.int kd), (.long wd), (.ref y)] 6)) tg_ := by
    intro tg_ kt
    refine pre0 _ ?_
    show Steps p.tables e below (s₁.setTop (mkF m 0 #[.val (.ref a), .val (.int (1 : Int32)), .val (.int kd), .val (.long wd), .second, .val (.ref y)] [])) _
    refine XS.aloadN X0.here hx rfl (hb hby d21r_0) rfl rfl ?_
    show Steps p.tables e below (s₁.setTop (mkF m 1 #[.val (.ref a), .val (.int (1 : Int32)), .val (.int kd), .val (.long wd), .second, .val (.ref y)] [(.ref a)])) _
    refine st1 _ ?_
    show Steps p.tables e below (T1.setTop (mkF m 4 #[.val (.ref a), .val (.int (1 : Int32)), .val (.int kd), .val (.long wd), .second, .val (.ref y)] [(.ref ka)])) _
    refine XS.iloadN X1.here hx rfl (hb hby d21r_4) rfl ?_
    show Steps p.tables e below (T1.setTop (mkF m 5 #[.val (.ref a), .val (.int (1 : Int32)), .val (.int kd), .val (.long wd), .second, .val (.ref y)] [(.int (1 : Int32)), (.ref ka)])) _
    refine XS.iloadN X1.here hx rfl (hb hby d21r_5) rfl ?_
    show Steps p.tables e below (T1.setTop (mkF m 6 #[.val (.ref a), .val (.int (1 : Int32)), .val (.int kd), .val (.long wd), .second, .val (.ref y)] [(.int kd), (.int (1 : Int32)), (.ref ka)])) _
    refine st2 _ ?_
    show Steps p.tables e below (T2.setTop (mkF m 7 #[.val (.ref a), .val (.int (1 : Int32)), .val (.int kd), .val (.long wd), .second, .val (.ref y)] [])) _
    refine XS.aloadN X2.here hx rfl (hb hby d21r_7) rfl rfl ?_
    show Steps p.tables e below (T2.setTop (mkF m 8 #[.val (.ref a), .val (.int (1 : Int32)), .val (.int kd), .val (.long wd), .second, .val (.ref y)] [(.ref a)])) _
    refine st12 _ ?_
    show Steps p.tables e below (T12.setTop (mkF m 11 #[.val (.ref a), .val (.int (1 : Int32)), .val (.int kd), .val (.long wd), .second, .val (.ref y)] [(.ref wa)])) _
    refine XS.iloadN X12.here hx rfl (hb hby d21r_11) rfl ?_
    show Steps p.tables e below (T12.setTop (mkF m 12 #[.val (.ref a), .val (.int (1 : Int32)), .val (.int kd), .val (.long wd), .second, .val (.ref y)] [(.int (1 : Int32)), (.ref wa)])) _
    refine XS.lloadN X12.here hx rfl (hb hby d21r_12) rfl ?_
    show Steps p.tables e below (T12.setTop (mkF m 13 #[.val (.ref a), .val (.int (1 : Int32)), .val (.int kd), .val (.long wd), .second, .val (.ref y)] [(.long wd), (.int (1 : Int32)), (.ref wa)])) _
    refine st13 _ ?_
    show Steps p.tables e below (T13.setTop (mkF m 14 #[.val (.ref a), .val (.int (1 : Int32)), .val (.int kd), .val (.long wd), .second, .val (.ref y)] [])) _
    refine XS.aload X13.here hx rfl (hb hby d21r_14) rfl rfl ?_
    show Steps p.tables e below (T13.setTop (mkF m 16 #[.val (.ref a), .val (.int (1 : Int32)), .val (.int kd), .val (.long wd), .second, .val (.ref y)] [(.ref y)])) _
    refine XS.ifnonnullYes X13.here hx rfl (pc0 := 16) (pc' := 28) rfl (hb hby d21r_16) rfl (by decide) (by decide) ?_
    show Steps p.tables e below (T13.setTop (mkF m 28 #[.val (.ref a), .val (.int (1 : Int32)), .val (.int kd), .val (.long wd), .second, .val (.ref y)] [])) _
    refine XS.aloadN X13.here hx rfl (hb hby d21r_28) rfl rfl ?_
    show Steps p.tables e below (T13.setTop (mkF m 29 #[.val (.ref a), .val (.int (1 : Int32)), .val (.int kd), .val (.long wd), .second, .val (.ref y)] [(.ref a)])) _
    refine st23 _ ?_
    show Steps p.tables e below (T23.setTop (mkF m 32 #[.val (.ref a), .val (.int (1 : Int32)), .val (.int kd), .val (.long wd), .second, .val (.ref y)] [(.ref ba)])) _
    refine XS.iloadN X23.here hx rfl (hb hby d21r_32) rfl ?_
    show Steps p.tables e below (T23.setTop (mkF m 33 #[.val (.ref a), .val (.int (1 : Int32)), .val (.int kd), .val (.long wd), .second, .val (.ref y)] [(.int (1 : Int32)), (.ref ba)])) _
    refine XS.aload X23.here hx rfl (hb hby d21r_33) rfl rfl ?_
    show Steps p.tables e below (T23.setTop (mkF m 35 #[.val (.ref a), .val (.int (1 : Int32)), .val (.int kd), .val (.long wd), .second, .val (.ref y)] [(.ref y), (.int (1 : Int32)), (.ref ba)])) _
    refine st24 _ ?_
    exact kt
  obtain ⟨fs, hr, hrun, hended, hW, hsame⟩ := X24.leave (v := none) (fun _ => rfl)
  refine ⟨_, _, pre34 _ ?_, hrun, hended, _, _, rfl, ?_, ⟨_, rfl⟩, hW, hsame.mono (by decide) (by decide)⟩
  · show Steps p.tables e below (T24.setTop (mkF m 36 #[.val (.ref a), .val (.int (1 : Int32)), .val (.int kd), .val (.long wd), .second, .val (.ref y)] [])) _
    exact X24.returnOut hx Bd.returns (hb hby d21r_36) hr
  · show QS Z a ka wa ba ck cw cb k0 (nar .byte kd) q0 wd v0 (.ref y) h0 n0 _ T24.heap _
    rw [e24]
    exact ⟨rfl, N24, K32, f24_25, f24_26, f24_27, f24_28, f24_29, f24_30, V24, OV, nk, nw, nb, d1, d2, d3, d4, d5, d6⟩
theorem rm21 (l : Launch) (Z : State) (a0 : Array Value) (hw : ∀ d ∈ tables_1, d.before a0 Z = true) (ws : List Jvm.Cond) (a ka wa ba : Addr) (ck cw cb : ClassId) (k0 k1 : Int32) (q0 q1 : Int64) (v0 v1 : Value) (kd : Int32) (wd : Int64) (v : Value) (h0 : Heap) (n0 : Nat) (Z0 : n0 ≤ h0.size) (Cc : Cel Z h0 n0 a ka wa ba ck cw cb k0 k1 q0 q1 v0 v1) (B : Byt Z h0 v) :
    MetFree l (⟨"com/example/hornbrook/hornbrook/Cells", "set", "(IBJ[B)V"⟩ : MethodName) (head1 (Jvm.Cond.code (⟨"com/example/hornbrook/hornbrook/Cells", "set", "(IBJ[B)V"⟩ : MethodName) prog_38_method_7_code 6 none :: ws) ({ frames := 0, cells := 0, slots := 0, locals := 0 } : Room)) (fun a_ U => a_ = #[(.ref a), (.int (1 : Int32)), (.int kd), (.long wd), v] ∧ Z.Warmed39 U.vm ∧ U.heap = h0) (fun _ _ _ _ _ => True) (fun _ U o U' => ∃ v_ L, o = .returned v_ ∧ QS Z a ka wa ba ck cw cb k0 (nar .byte kd) q0 wd v0 v h0 n0 v_ U'.heap L ∧ FrameEnd U o U' L ({ frames := 0, cells := 0, slots := 0, locals := 0 } : Room).cells ({ frames := 0, cells := 0, slots := 0, locals := 0 } : Room).slots) := by
  rcases B with rfl | ⟨y, rfl, Ey⟩
  · exact rm21n l Z a0 hw ws a ka wa ba ck cw cb k0 k1 q0 q1 v0 v1 kd wd h0 n0 Z0 Cc
  · exact rm21r l Z a0 hw ws a ka wa ba ck cw cb k0 k1 q0 q1 v0 v1 kd wd y h0 n0 Z0 Cc Ey
theorem d30_0 : decode prog_38_method_4_code 0 = .ok (.aload_n 0, 1) := by decide +kernel
theorem d30_1 : decode prog_38_method_4_code 1 = .ok (.getfield 7, 3) := by decide +kernel
theorem d30_4 : decode prog_38_method_4_code 4 = .ok (.iload_n 1, 1) := by decide +kernel
theorem d30_5 : decode prog_38_method_4_code 5 = .ok (.baload, 1) := by decide +kernel
theorem d30_6 : decode prog_38_method_4_code 6 = .ok (.ireturn, 1) := by decide +kernel
theorem pn30 : plainName "com/example/hornbrook/hornbrook/Cells" = true := by first | (simp [plainName, overriddenIn]; done) | decide +kernel
theorem ef30 (m : MethodId) (x0 : Addr) (x1 : Int32) : entryFrame m #[(.ref x0), (.int x1)] 2 = mkF m 0 #[.val (.ref x0), .val (.int x1)] [] := by first | (simp [entryFrame, mkF, argsToLocals, Value.category]; done) | rfl
set_option maxRecDepth 65536 in
set_option maxHeartbeats 40000000 in
theorem rm30 (l : Launch) (Z : State) (a0 : Array Value) (hw : ∀ d ∈ tables_1, d.before a0 Z = true) (ws : List Jvm.Cond) (a ka wa ba : Addr) (ck cw cb : ClassId) (k0 k1 : Int32) (q0 q1 : Int64) (v0 v1 : Value) (h0 : Heap) (n0 : Nat) (Z0 : n0 ≤ h0.size) (Cc : Cel Z h0 n0 a ka wa ba ck cw cb k0 k1 q0 q1 v0 v1) :
    MetFree l (⟨"com/example/hornbrook/hornbrook/Cells", "kind", "(I)B"⟩ : MethodName) (head1 (Jvm.Cond.code (⟨"com/example/hornbrook/hornbrook/Cells", "kind", "(I)B"⟩ : MethodName) prog_38_method_4_code 2 (some .byte) :: ws) ({ frames := 0, cells := 0, slots := 0, locals := 0 } : Room)) (fun aa_ U => aa_ = #[(.ref a), (.int (0 : Int32))] ∧ Z.Warmed39 U.vm ∧ U.heap = h0) (fun _ _ _ _ _ => True) (fun _ U o U' => ∃ vv_ LL_, o = .returned vv_ ∧ Q1 Z (.int (nar .byte k0)) h0 n0 vv_ U'.heap LL_ ∧ FrameEnd U o U' LL_ ({ frames := 0, cells := 0, slots := 0, locals := 0 } : Room).cells ({ frames := 0, cells := 0, slots := 0, locals := 0 } : Room).slots) := by
  refine MetFree.of_bodySF (plainFor_of_name pn30) hisR ?_
  intro p e s m args below meth c s₁ Bd hml0 hP hK
  obtain ⟨rfl, hZ, hh⟩ := hP
  have hx := Bd.exec
  have hby := Bd.bytes
  have hml : c.maxLocals = 2 := hml0
  have hown : s.vm.findClass "com/example/hornbrook/hornbrook/Cells" = some m.cls := findClass_of_methodNamed Bd.named
  have hnm := (name_of_methodNamed Bd.named Bd.method).1
  have X0 : Stand p l e ({ frames := 0, cells := 0, slots := 0, locals := 0 } : Room) s m #[(.ref a), (.int (0 : Int32))] below meth c s₁ [] 0 0 := Stand.of_body Bd
  have e0 : s₁.heap = h0 := by rw [← hh, Bd.state]; rfl
  have N0 := Fr.nil n0
  have pre0 : ∀ tg_, Steps p.tables e below (s₁.setTop (mkF m 0 #[.val (.ref a), .val (.int (0 : Int32))] [])) tg_ → Steps p.tables e below (s₁.setTop (entryFrame m #[(.ref a), (.int (0 : Int32))] 2)) tg_ := fun tg_ kt => castTop (ef30 m a (0 : Int32)) kt
  obtain ⟨EX, FK, FW, FB, AK, AW, AB, OV, nk, nw, nb, d1, d2, d3, d4, d5, d6⟩ := Cc
  obtain ⟨T1, X1, e1, st1⟩ := getF X0 hx hZ hown (host := "") (Or.inl (hw _ (List.mem_of_getElem? (i := 10) rfl))) Via.refl e0 FK (g := (mkF m 1 #[.val (.ref a), .val (.int (0 : Int32))] [(.ref a)])) rfl rfl (hb hby d30_1)
  obtain ⟨cl2, Ar2, q2, S2, L2, H2, G2⟩ := id AK
  have hin2 : ¬ ((0 : Int32) < 0 ∨ cl2.slots.size ≤ ((0 : Int32)).toNatClampNeg) := inb_of S2 ⟨by decide, by decide⟩
  have hat2 : cl2.slots[((0 : Int32)).toNatClampNeg]? = some (.int k0) := Has.at H2 hin2 rfl
  have pre3 : ∀ tg_, Steps p.tables e below (T1.setTop (mkF m 6 #[.val (.ref a), .val (.int (0 : Int32))] [(.int k0)])) tg_ → Steps p.tables e below (s₁.setTop (entryFrame m #[(.ref a), (.int (0 : Int32))] 2)) tg_ := by
    intro tg_ kt
    refine pre0 _ ?_
    show Steps p.tables e below (s₁.setTop (mkF m 0 #[.val (.ref a), .val (.int (0 : Int32))] [])) _
    refine XS.aloadN X0.here hx rfl (hb hby d30_0) rfl rfl ?_
    show Steps p.tables e below (s₁.setTop (mkF m 1 #[.val (.ref a), .val (.int (0 : Int32))] [(.ref a)])) _
    refine st1 _ ?_
    show Steps p.tables e below (T1.setTop (mkF m 4 #[.val (.ref a), .val (.int (0 : Int32))] [(.ref ka)])) _
    refine XS.iloadN X1.here hx rfl (hb hby d30_4) rfl ?_
    show Steps p.tables e below (T1.setTop (mkF m 5 #[.val (.ref a), .val (.int (0 : Int32))] [(.int (0 : Int32)), (.ref ka)])) _
    refine X1.baloadBytes hx (j := (0 : Int32)) (v := (.int k0)) (by rw [e1]; exact Ar2.1) (State.isArrayOf_alike hZ.alike Ar2.2.1) Ar2.2.2 hin2 hat2 (g := (mkF m 5 #[.val (.ref a), .val (.int (0 : Int32))] [(.int (0 : Int32)), (.ref ka)])) rfl rfl (hb hby d30_5) _ ?_
    exact kt
  obtain ⟨fs, hr, hrun, hended, hW, hsame⟩ := X1.leave (v := some (.int (nar .byte k0))) (fun h => by rw [Bd.returns] at h; cases h)
  refine ⟨_, _, pre3 _ ?_, hrun, hended, _, _, rfl, ?_, ⟨_, rfl⟩, hW, hsame.mono (by decide) (by decide)⟩
  · show Steps p.tables e below (T1.setTop (mkF m 6 #[.val (.ref a), .val (.int (0 : Int32))] [(.int k0)])) _
    exact retN X1 hx (t := .byte) Bd.returns (by simp) (hb hby d30_6) hr
  · show Q1 Z (.int (nar .byte k0)) h0 n0 _ T1.heap _
    rw [e1]
    exact ⟨rfl, N0, rfl⟩
theorem d40_0 : decode prog_38_method_5_code 0 = .ok (.aload_n 0, 1) := by decide +kernel
theorem d40_1 : decode prog_38_method_5_code 1 = .ok (.getfield 13, 3) := by decide +kernel
theorem d40_4 : decode prog_38_method_5_code 4 = .ok (.iload_n 1, 1) := by decide +kernel
theorem d40_5 : decode prog_38_method_5_code 5 = .ok (.laload, 1) := by decide +kernel
theorem d40_6 : decode prog_38_method_5_code 6 = .ok (.lreturn, 1) := by decide +kernel
theorem pn40 : plainName "com/example/hornbrook/hornbrook/Cells" = true := by first | (simp [plainName, overriddenIn]; done) | decide +kernel
theorem ef40 (m : MethodId) (x0 : Addr) (x1 : Int32) : entryFrame m #[(.ref x0), (.int x1)] 2 = mkF m 0 #[.val (.ref x0), .val (.int x1)] [] := by first | (simp [entryFrame, mkF, argsToLocals, Value.category]; done) | rfl
set_option maxRecDepth 65536 in
set_option maxHeartbeats 40000000 in
theorem rm40 (l : Launch) (Z : State) (a0 : Array Value) (hw : ∀ d ∈ tables_1, d.before a0 Z = true) (ws : List Jvm.Cond) (a ka wa ba : Addr) (ck cw cb : ClassId) (k0 k1 : Int32) (q0 q1 : Int64) (v0 v1 : Value) (h0 : Heap) (n0 : Nat) (Z0 : n0 ≤ h0.size) (Cc : Cel Z h0 n0 a ka wa ba ck cw cb k0 k1 q0 q1 v0 v1) :
    MetFree l (⟨"com/example/hornbrook/hornbrook/Cells", "word", "(I)J"⟩ : MethodName) (head1 (Jvm.Cond.code (⟨"com/example/hornbrook/hornbrook/Cells", "word", "(I)J"⟩ : MethodName) prog_38_method_5_code 2 (some .long) :: ws) ({ frames := 0, cells := 0, slots := 0, locals := 0 } : Room)) (fun aa_ U => aa_ = #[(.ref a), (.int (0 : Int32))] ∧ Z.Warmed39 U.vm ∧ U.heap = h0) (fun _ _ _ _ _ => True) (fun _ U o U' => ∃ vv_ LL_, o = .returned vv_ ∧ Q1 Z (.long q0) h0 n0 vv_ U'.heap LL_ ∧ FrameEnd U o U' LL_ ({ frames := 0, cells := 0, slots := 0, locals := 0 } : Room).cells ({ frames := 0, cells := 0, slots := 0, locals := 0 } : Room).slots) := by
  refine MetFree.of_bodySF (plainFor_of_name pn40) hisR ?_
  intro p e s m args below meth c s₁ Bd hml0 hP hK
  obtain ⟨rfl, hZ, hh⟩ := hP
  have hx := Bd.exec
  have hby := Bd.bytes
  have hml : c.maxLocals = 2 := hml0
  have hown : s.vm.findClass "com/example/hornbrook/hornbrook/Cells" = some m.cls := findClass_of_methodNamed Bd.named
  have hnm := (name_of_methodNamed Bd.named Bd.method).1
  have X0 : Stand p l e ({ frames := 0, cells := 0, slots := 0, locals := 0 } : Room) s m #[(.ref a), (.int (0 : Int32))] below meth c s₁ [] 0 0 := Stand.of_body Bd
  have e0 : s₁.heap = h0 := by rw [← hh, Bd.state]; rfl
  have N0 := Fr.nil n0
  have pre0 : ∀ tg_, Steps p.tables e below (s₁.setTop (mkF m 0 #[.val (.ref a), .val (.int (0 : Int32))] [])) tg_ → Steps p.tables e below (s₁.setTop (entryFrame m #[(.ref a), (.int (0 : Int32))] 2)) tg_ := fun tg_ kt => castTop (ef40 m a (0 : Int32)) kt
  obtain ⟨EX, FK, FW, FB, AK, AW, AB, OV, nk, nw, nb, d1, d2, d3, d4, d5, d6⟩ := Cc
  obtain ⟨T1, X1, e1, st1⟩ := getF X0 hx hZ hown (host := "") (Or.inl (hw _ (List.mem_of_getElem? (i := 13) rfl))) Via.refl e0 FW (g := (mkF m 1 #[.val (.ref a), .val (.int (0 : Int32))] [(.ref a)])) rfl rfl (hb hby d40_1)
  obtain ⟨cl2, Ar2, q2, S2, L2, H2, G2⟩ := id AW
  have hin2 : ¬ ((0 : Int32) < 0 ∨ cl2.slots.size ≤ ((0 : Int32)).toNatClampNeg) := inb_of S2 ⟨by decide, by decide⟩
  have hat2 : cl2.slots[((0 : Int32)).toNatClampNeg]? = some (.long q0) := Has.at H2 hin2 rfl
  have pre3 : ∀ tg_, Steps p.tables e below (T1.setTop (mkF m 6 #[.val (.ref a), .val (.int (0 : Int32))] [(.long q0)])) tg_ → Steps p.tables e below (s₁.setTop (entryFrame m #[(.ref a), (.int (0 : Int32))] 2)) tg_ := by
    intro tg_ kt
    refine pre0 _ ?_
    show Steps p.tables e below (s₁.setTop (mkF m 0 #[.val (.ref a), .val (.int (0 : Int32))] [])) _
    refine XS.aloadN X0.here hx rfl (hb hby d40_0) rfl rfl ?_
    show Steps p.tables e below (s₁.setTop (mkF m 1 #[.val (.ref a), .val (.int (0 : Int32))] [(.ref a)])) _
    refine st1 _ ?_
    show Steps p.tables e below (T1.setTop (mkF m 4 #[.val (.ref a), .val (.int (0 : Int32))] [(.ref wa)])) _
    refine XS.iloadN X1.here hx rfl (hb hby d40_4) rfl ?_
    show Steps p.tables e below (T1.setTop (mkF m 5 #[.val (.ref a), .val (.int (0 : Int32))] [(.int (0 : Int32)), (.ref wa)])) _
    refine X1.laload hx (j := (0 : Int32)) (v := (.long q0)) (by rw [e1]; exact Ar2.1) (State.isArrayOf_alike hZ.alike Ar2.2.1) Ar2.2.2 hin2 hat2 (g := (mkF m 5 #[.val (.ref a), .val (.int (0 : Int32))] [(.int (0 : Int32)), (.ref wa)])) rfl rfl (hb hby d40_5) _ ?_
    exact kt
  obtain ⟨fs, hr, hrun, hended, hW, hsame⟩ := X1.leave (v := some (.long q0)) (fun h => by rw [Bd.returns] at h; cases h)
  refine ⟨_, _, pre3 _ ?_, hrun, hended, _, _, rfl, ?_, ⟨_, rfl⟩, hW, hsame.mono (by decide) (by decide)⟩
  · show Steps p.tables e below (T1.setTop (mkF m 6 #[.val (.ref a), .val (.int (0 : Int32))] [(.long q0)])) _
    jvm_step X1.here [X1.here.top, hx, (hb hby d40_6), X1.method', Bd.returns, narrow]
    first | (intro acts; rw [hr _ acts rfl rfl rfl]) | rw [hr _ _ rfl rfl rfl]
    exact Steps.refl _
  · show Q1 Z (.long q0) h0 n0 _ T1.heap _
    rw [e1]
    exact ⟨rfl, N0, rfl⟩
theorem d50_0 : decode prog_38_method_6_code 0 = .ok (.aload_n 0, 1) := by decide +kernel
theorem d50_1 : decode prog_38_method_6_code 1 = .ok (.getfield 18, 3) := by decide +kernel
theorem d50_4 : decode prog_38_method_6_code 4 = .ok (.iload_n 1, 1) := by decide +kernel
theorem d50_5 : decode prog_38_method_6_code 5 = .ok (.aaload, 1) := by decide +kernel
theorem d50_6 : decode prog_38_method_6_code 6 = .ok (.areturn, 1) := by decide +kernel
theorem pn50 : plainName "com/example/hornbrook/hornbrook/Cells" = true := by first | (simp [plainName, overriddenIn]; done) | decide +kernel
theorem ef50 (m : MethodId) (x0 : Addr) (x1 : Int32) : entryFrame m #[(.ref x0), (.int x1)] 2 = mkF m 0 #[.val (.ref x0), .val (.int x1)] [] := by first | (simp [entryFrame, mkF, argsToLocals, Value.category]; done) | rfl
set_option maxRecDepth 65536 in
set_option maxHeartbeats 40000000 in
theorem rm50 (l : Launch) (Z : State) (a0 : Array Value) (hw : ∀ d ∈ tables_1, d.before a0 Z = true) (ws : List Jvm.Cond) (a ka wa ba : Addr) (ck cw cb : ClassId) (k0 k1 : Int32) (q0 q1 : Int64) (v0 v1 : Value) (h0 : Heap) (n0 : Nat) (Z0 : n0 ≤ h0.size) (Cc : Cel Z h0 n0 a ka wa ba ck cw cb k0 k1 q0 q1 v0 v1) :
    MetFree l (⟨"com/example/hornbrook/hornbrook/Cells", "bytes", "(I)[B"⟩ : MethodName) (head1 (Jvm.Cond.code (⟨"com/example/hornbrook/hornbrook/Cells", "bytes", "(I)[B"⟩ : MethodName) prog_38_method_6_code 2 (some (.array .byte)) :: ws) ({ frames := 0, cells := 0, slots := 0, locals := 0 } : Room)) (fun aa_ U => aa_ = #[(.ref a), (.int (0 : Int32))] ∧ Z.Warmed39 U.vm ∧ U.heap = h0) (fun _ _ _ _ _ => True) (fun _ U o U' => ∃ vv_ LL_, o = .returned vv_ ∧ Q1 Z v0 h0 n0 vv_ U'.heap LL_ ∧ FrameEnd U o U' LL_ ({ frames := 0, cells := 0, slots := 0, locals := 0 } : Room).cells ({ frames := 0, cells := 0, slots := 0, locals := 0 } : Room).slots) := by
  refine MetFree.of_bodySF (plainFor_of_name pn50) hisR ?_
  intro p e s m args below meth c s₁ Bd hml0 hP hK
  obtain ⟨rfl, hZ, hh⟩ := hP
  have hx := Bd.exec
  have hby := Bd.bytes
  have hml : c.maxLocals = 2 := hml0
  have hown : s.vm.findClass "com/example/hornbrook/hornbrook/Cells" = some m.cls := findClass_of_methodNamed Bd.named
  have hnm := (name_of_methodNamed Bd.named Bd.method).1
  have X0 : Stand p l e ({ frames := 0, cells := 0, slots := 0, locals := 0 } : Room) s m #[(.ref a), (.int (0 : Int32))] below meth c s₁ [] 0 0 := Stand.of_body Bd
  have e0 : s₁.heap = h0 := by rw [← hh, Bd.state]; rfl
  have N0 := Fr.nil n0
  have pre0 : ∀ tg_, Steps p.tables e below (s₁.setTop (mkF m 0 #[.val (.ref a), .val (.int (0 : Int32))] [])) tg_ → Steps p.tables e below (s₁.setTop (entryFrame m #[(.ref a), (.int (0 : Int32))] 2)) tg_ := fun tg_ kt => castTop (ef50 m a (0 : Int32)) kt
  obtain ⟨EX, FK, FW, FB, AK, AW, AB, OV, nk, nw, nb, d1, d2, d3, d4, d5, d6⟩ := Cc
  have hr_v : v0.isRef = true := by
    obtain ⟨c_, A_, -, S_, -, -, G_⟩ := id AB
    have q := G_ 0 (by rw [S_]; decide)
    exact fit_R q rfl
  obtain ⟨T1, X1, e1, st1⟩ := getF X0 hx hZ hown (host := "") (Or.inl (hw _ (List.mem_of_getElem? (i := 17) rfl))) Via.refl e0 FB (g := (mkF m 1 #[.val (.ref a), .val (.int (0 : Int32))] [(.ref a)])) rfl rfl (hb hby d50_1)
  obtain ⟨cl2, Ar2, q2, S2, L2, H2, G2⟩ := id AB
  have hin2 : ¬ ((0 : Int32) < 0 ∨ cl2.slots.size ≤ ((0 : Int32)).toNatClampNeg) := inb_of S2 ⟨by decide, by decide⟩
  have hat2 : cl2.slots[((0 : Int32)).toNatClampNeg]? = some v0 := Has.at H2 hin2 rfl
  have pre3 : ∀ tg_, Steps p.tables e below (T1.setTop (mkF m 6 #[.val (.ref a), .val (.int (0 : Int32))] [v0])) tg_ → Steps p.tables e below (s₁.setTop (entryFrame m #[(.ref a), (.int (0 : Int32))] 2)) tg_ := by
    intro tg_ kt
    refine pre0 _ ?_
    show Steps p.tables e below (s₁.setTop (mkF m 0 #[.val (.ref a), .val (.int (0 : Int32))] [])) _
    refine XS.aloadN X0.here hx rfl (hb hby d50_0) rfl rfl ?_
    show Steps p.tables e below (s₁.setTop (mkF m 1 #[.val (.ref a), .val (.int (0 : Int32))] [(.ref a)])) _
    refine st1 _ ?_
    show Steps p.tables e below (T1.setTop (mkF m 4 #[.val (.ref a), .val (.int (0 : Int32))] [(.ref ba)])) _
    refine XS.iloadN X1.here hx rfl (hb hby d50_4) rfl ?_
    show Steps p.tables e below (T1.setTop (mkF m 5 #[.val (.ref a), .val (.int (0 : Int32))] [(.int (0 : Int32)), (.ref ba)])) _
    refine X1.aaload hx (j := (0 : Int32)) (v := v0) (by rw [e1]; exact Ar2.1) (State.isArrayOf_alike hZ.alike Ar2.2.1) rfl Ar2.2.2 hin2 hat2 (g := (mkF m 5 #[.val (.ref a), .val (.int (0 : Int32))] [(.int (0 : Int32)), (.ref ba)])) rfl rfl (hb hby d50_5) _ ?_
    exact kt
  obtain ⟨fs, hr, hrun, hended, hW, hsame⟩ := X1.leave (v := some v0) (fun h => by rw [Bd.returns] at h; cases h)
  refine ⟨_, _, pre3 _ ?_, hrun, hended, _, _, rfl, ?_, ⟨_, rfl⟩, hW, hsame.mono (by decide) (by decide)⟩
  · show Steps p.tables e below (T1.setTop (mkF m 6 #[.val (.ref a), .val (.int (0 : Int32))] [v0])) _
    exact retOut X1 hx Bd.returns rfl (Or.inr (Or.inr (Or.inr (Or.inr ⟨rfl, rfl, hr_v⟩)))) (hb hby d50_6) hr
  · show Q1 Z v0 h0 n0 _ T1.heap _
    rw [e1]
    exact ⟨rfl, N0, rfl⟩
theorem d31_0 : decode prog_38_method_4_code 0 = .ok (.aload_n 0, 1) := by decide +kernel
theorem d31_1 : decode prog_38_method_4_code 1 = .ok (.getfield 7, 3) := by decide +kernel
theorem d31_4 : decode prog_38_method_4_code 4 = .ok (.iload_n 1, 1) := by decide +kernel
theorem d31_5 : decode prog_38_method_4_code 5 = .ok (.baload, 1) := by decide +kernel
theorem d31_6 : decode prog_38_method_4_code 6 = .ok (.ireturn, 1) := by decide +kernel
theorem pn31 : plainName "com/example/hornbrook/hornbrook/Cells" = true := by first | (simp [plainName, overriddenIn]; done) | decide +kernel
theorem ef31 (m : MethodId) (x0 : Addr) (x1 : Int32) : entryFrame m #[(.ref x0), (.int x1)] 2 = mkF m 0 #[.val (.ref x0), .val (.int x1)] [] := by first | (simp [entryFrame, mkF, argsToLocals, Value.category]; done) | rfl
set_option maxRecDepth 65536 in
set_option maxHeartbeats 40000000 in
theorem rm31 (l : Launch) (Z : State) (a0 : Array Value) (hw : ∀ d ∈ tables_1, d.before a0 Z = true) (ws : List Jvm.Cond) (a ka wa ba : Addr) (ck cw cb : ClassId) (k0 k1 : Int32) (q0 q1 : Int64) (v0 v1 : Value) (h0 : Heap) (n0 : Nat) (Z0 : n0 ≤ h0.size) (Cc : Cel Z h0 n0 a ka wa ba ck cw cb k0 k1 q0 q1 v0 v1) :
    MetFree l (⟨"com/example/hornbrook/hornbrook/Cells", "kind", "(I)B"⟩ : MethodName) (head1 (Jvm.Cond.code (⟨"com/example/hornbrook/hornbrook/Cells", "kind", "(I)B"⟩ : MethodName) prog_38_method_4_code 2 (some .byte) :: ws) ({ frames := 0, cells := 0, slots := 0, locals := 0 } : Room)) (fun aa_ U => aa_ = #[(.ref a), (.int (1 : Int32))] ∧ Z.Warmed39 U.vm ∧ U.heap = h0) (fun _ _ _ _ _ => True) (fun _ U o U' => ∃ vv_ LL_, o = .returned vv_ ∧ Q1 Z (.int (nar .byte k1)) h0 n0 vv_ U'.heap LL_ ∧ FrameEnd U o U' LL_ ({ frames := 0, cells := 0, slots := 0, locals := 0 } : Room).cells ({ frames := 0, cells := 0, slots := 0, locals := 0 } : Room).slots) := by
  refine MetFree.of_bodySF (plainFor_of_name pn31) hisR ?_
  intro p e s m args below meth c s₁ Bd hml0 hP hK
  obtain ⟨rfl, hZ, hh⟩ := hP
  have hx := Bd.exec
  have hby := Bd.bytes
  have hml : c.maxLocals = 2 := hml0
  have hown : s.vm.findClass "com/example/hornbrook/hornbrook/Cells" = some m.cls := findClass_of_methodNamed Bd.named
  have hnm := (name_of_methodNamed Bd.named Bd.method).1
  have X0 : Stand p l e ({ frames := 0, cells := 0, slots := 0, locals := 0 } : Room) s m #[(.ref a), (.int (1 : Int32))] below meth c s₁ [] 0 0 := Stand.of_body Bd
  have e0 : s₁.heap = h0 := by rw [← hh, Bd.state]; rfl
  have N0 := Fr.nil n0
  have pre0 : ∀ tg_, Steps p.tables e below (s₁.setTop (mkF m 0 #[.val (.ref a), .val (.int (1 : Int32))] [])) tg_ → Steps p.tables e below (s₁.setTop (entryFrame m #[(.ref a), (.int (1 : Int32))] 2)) tg_ := fun tg_ kt => castTop (ef31 m a (1 : Int32)) kt
  obtain ⟨EX, FK, FW, FB, AK, AW, AB, OV, nk, nw, nb, d1, d2, d3, d4, d5, d6⟩ := Cc
  obtain ⟨T1, X1, e1, st1⟩ := getF X0 hx hZ hown (host := "") (Or.inl (hw _ (List.mem_of_getElem? (i := 10) rfl))) Via.refl e0 FK (g := (mkF m 1 #[.val (.ref a), .val (.int (1 : Int32))] [(.ref a)])) rfl rfl (hb hby d31_1)
  obtain ⟨cl2, Ar2, q2, S2, L2, H2, G2⟩ := id AK
  have hin2 : ¬ ((1 : Int32) < 0 ∨ cl2.slots.size ≤ ((1 : Int32)).toNatClampNeg) := inb_of S2 ⟨by decide, by decide⟩
  have hat2 : cl2.slots[((1 : Int32)).toNatClampNeg]? = some (.int k1) := Has.at H2 hin2 rfl
  have pre3 : ∀ tg_, Steps p.tables e below (T1.setTop (mkF m 6 #[.val (.ref a), .val (.int (1 : Int32))] [(.int k1)])) tg_ → Steps p.tables e below (s₁.setTop (entryFrame m #[(.ref a), (.int (1 : Int32))] 2)) tg_ := by
    intro tg_ kt
    refine pre0 _ ?_
    show Steps p.tables e below (s₁.setTop (mkF m 0 #[.val (.ref a), .val (.int (1 : Int32))] [])) _
    refine XS.aloadN X0.here hx rfl (hb hby d31_0) rfl rfl ?_
    show Steps p.tables e below (s₁.setTop (mkF m 1 #[.val (.ref a), .val (.int (1 : Int32))] [(.ref a)])) _
    refine st1 _ ?_
    show Steps p.tables e below (T1.setTop (mkF m 4 #[.val (.ref a), .val (.int (1 : Int32))] [(.ref ka)])) _
    refine XS.iloadN X1.here hx rfl (hb hby d31_4) rfl ?_
    show Steps p.tables e below (T1.setTop (mkF m 5 #[.val (.ref a), .val (.int (1 : Int32))] [(.int (1 : Int32)), (.ref ka)])) _
    refine X1.baloadBytes hx (j := (1 : Int32)) (v := (.int k1)) (by rw [e1]; exact Ar2.1) (State.isArrayOf_alike hZ.alike Ar2.2.1) Ar2.2.2 hin2 hat2 (g := (mkF m 5 #[.val (.ref a), .val (.int (1 : Int32))] [(.int (1 : Int32)), (.ref ka)])) rfl rfl (hb hby d31_5) _ ?_
    exact kt
  obtain ⟨fs, hr, hrun, hended, hW, hsame⟩ := X1.leave (v := some (.int (nar .byte k1))) (fun h => by rw [Bd.returns] at h; cases h)
  refine ⟨_, _, pre3 _ ?_, hrun, hended, _, _, rfl, ?_, ⟨_, rfl⟩, hW, hsame.mono (by decide) (by decide)⟩
  · show Steps p.tables e below (T1.setTop (mkF m 6 #[.val (.ref a), .val (.int (1 : Int32))] [(.int k1)])) _
    exact retN X1 hx (t := .byte) Bd.returns (by simp) (hb hby d31_6) hr
  · show Q1 Z (.int (nar .byte k1)) h0 n0 _ T1.heap _
    rw [e1]
    exact ⟨rfl, N0, rfl⟩
theorem d41_0 : decode prog_38_method_5_code 0 = .ok (.aload_n 0, 1) := by decide +kernel
theorem d41_1 : decode prog_38_method_5_code 1 = .ok (.getfield 13, 3) := by decide +kernel
theorem d41_4 : decode prog_38_method_5_code 4 = .ok (.iload_n 1, 1) := by decide +kernel
theorem d41_5 : decode prog_38_method_5_code 5 = .ok (.laload, 1) := by decide +kernel
theorem d41_6 : decode prog_38_method_5_code 6 = .ok (.lreturn, 1) := by decide +kernel
theorem pn41 : plainName "com/example/hornbrook/hornbrook/Cells" = true := by first | (simp [plainName, overriddenIn]; done) | decide +kernel
theorem ef41 (m : MethodId) (x0 : Addr) (x1 : Int32) : entryFrame m #[(.ref x0), (.int x1)] 2 = mkF m 0 #[.val (.ref x0), .val (.int x1)] [] := by first | (simp [entryFrame, mkF, argsToLocals, Value.category]; done) | rfl
set_option maxRecDepth 65536 in
set_option maxHeartbeats 40000000 in
theorem rm41 (l : Launch) (Z : State) (a0 : Array Value) (hw : ∀ d ∈ tables_1, d.before a0 Z = true) (ws : List Jvm.Cond) (a ka wa ba : Addr) (ck cw cb : ClassId) (k0 k1 : Int32) (q0 q1 : Int64) (v0 v1 : Value) (h0 : Heap) (n0 : Nat) (Z0 : n0 ≤ h0.size) (Cc : Cel Z h0 n0 a ka wa ba ck cw cb k0 k1 q0 q1 v0 v1) :
    MetFree l (⟨"com/example/hornbrook/hornbrook/Cells", "word", "(I)J"⟩ : MethodName) (head1 (Jvm.Cond.code (⟨"com/example/hornbrook/hornbrook/Cells", "word", "(I)J"⟩ : MethodName) prog_38_method_5_code 2 (some .long) :: ws) ({ frames := 0, cells := 0, slots := 0, locals := 0 } : Room)) (fun aa_ U => aa_ = #[(.ref a), (.int (1 : Int32))] ∧ Z.Warmed39 U.vm ∧ U.heap = h0) (fun _ _ _ _ _ => True) (fun _ U o U' => ∃ vv_ LL_, o = .returned vv_ ∧ Q1 Z (.long q1) h0 n0 vv_ U'.heap LL_ ∧ FrameEnd U o U' LL_ ({ frames := 0, cells := 0, slots := 0, locals := 0 } : Room).cells ({ frames := 0, cells := 0, slots := 0, locals := 0 } : Room).slots) := by
  refine MetFree.of_bodySF (plainFor_of_name pn41) hisR ?_
  intro p e s m args below meth c s₁ Bd hml0 hP hK
  obtain ⟨rfl, hZ, hh⟩ := hP
  have hx := Bd.exec
  have hby := Bd.bytes
  have hml : c.maxLocals = 2 := hml0
  have hown : s.vm.findClass "com/example/hornbrook/hornbrook/Cells" = some m.cls := findClass_of_methodNamed Bd.named
  have hnm := (name_of_methodNamed Bd.named Bd.method).1
  have X0 : Stand p l e ({ frames := 0, cells := 0, slots := 0, locals := 0 } : Room) s m #[(.ref a), (.int (1 : Int32))] below meth c s₁ [] 0 0 := Stand.of_body Bd
  have e0 : s₁.heap = h0 := by rw [← hh, Bd.state]; rfl
  have N0 := Fr.nil n0
  have pre0 : ∀ tg_, Steps p.tables e below (s₁.setTop (mkF m 0 #[.val (.ref a), .val (.int (1 : Int32))] [])) tg_ → Steps p.tables e below (s₁.setTop (entryFrame m #[(.ref a), (.int (1 : Int32))] 2)) tg_ := fun tg_ kt => castTop (ef41 m a (1 : Int32)) kt
  obtain ⟨EX, FK, FW, FB, AK, AW, AB, OV, nk, nw, nb, d1, d2, d3, d4, d5, d6⟩ := Cc
  obtain ⟨T1, X1, e1, st1⟩ := getF X0 hx hZ hown (host := "") (Or.inl (hw _ (List.mem_of_getElem? (i := 13) rfl))) Via.refl e0 FW (g := (mkF m 1 #[.val (.ref a), .val (.int (1 : Int32))] [(.ref a)])) rfl rfl (hb hby d41_1)
  obtain ⟨cl2, Ar2, q2, S2, L2, H2, G2⟩ := id AW
  have hin2 : ¬ ((1 : Int32) < 0 ∨ cl2.slots.size ≤ ((1 : Int32)).toNatClampNeg) := inb_of S2 ⟨by decide, by decide⟩
  have hat2 : cl2.slots[((1 : Int32)).toNatClampNeg]? = some (.long q1) := Has.at H2 hin2 rfl
  have pre3 : ∀ tg_, Steps p.tables e below (T1.setTop (mkF m 6 #[.val (.ref a), .val (.int (1 : Int32))] [(.long q1)])) tg_ → Steps p.tables e below (s₁.setTop (entryFrame m #[(.ref a), (.int (1 : Int32))] 2)) tg_ := by
    intro tg_ kt
    refine pre0 _ ?_
    show Steps p.tables e below (s₁.setTop (mkF m 0 #[.val (.ref a), .val (.int (1 : Int32))] [])) _
    refine XS.aloadN X0.here hx rfl (hb hby d41_0) rfl rfl ?_
    show Steps p.tables e below (s₁.setTop (mkF m 1 #[.val (.ref a), .val (.int (1 : Int32))] [(.ref a)])) _
    refine st1 _ ?_
    show Steps p.tables e below (T1.setTop (mkF m 4 #[.val (.ref a), .val (.int (1 : Int32))] [(.ref wa)])) _
    refine XS.iloadN X1.here hx rfl (hb hby d41_4) rfl ?_
    show Steps p.tables e below (T1.setTop (mkF m 5 #[.val (.ref a), .val (.int (1 : Int32))] [(.int (1 : Int32)), (.ref wa)])) _
    refine X1.laload hx (j := (1 : Int32)) (v := (.long q1)) (by rw [e1]; exact Ar2.1) (State.isArrayOf_alike hZ.alike Ar2.2.1) Ar2.2.2 hin2 hat2 (g := (mkF m 5 #[.val (.ref a), .val (.int (1 : Int32))] [(.int (1 : Int32)), (.ref wa)])) rfl rfl (hb hby d41_5) _ ?_
    exact kt
  obtain ⟨fs, hr, hrun, hended, hW, hsame⟩ := X1.leave (v := some (.long q1)) (fun h => by rw [Bd.returns] at h; cases h)
  refine ⟨_, _, pre3 _ ?_, hrun, hended, _, _, rfl, ?_, ⟨_, rfl⟩, hW, hsame.mono (by decide) (by decide)⟩
  · show Steps p.tables e below (T1.setTop (mkF m 6 #[.val (.ref a), .val (.int (1 : Int32))] [(.long q1)])) _
    jvm_step X1.here [X1.here.top, hx, (hb hby d41_6), X1.method', Bd.returns, narrow]
    first | (intro acts; rw [hr _ acts rfl rfl rfl]) | rw [hr _ _ rfl rfl rfl]
    exact Steps.refl _
  · show Q1 Z (.long q1) h0 n0 _ T1.heap _
    rw [e1]
    exact ⟨rfl, N0, rfl⟩
theorem d51_0 : decode prog_38_method_6_code 0 = .ok (.aload_n 0, 1) := by decide +kernel
theorem d51_1 : decode prog_38_method_6_code 1 = .ok (.getfield 18, 3) := by decide +kernel
theorem d51_4 : decode prog_38_method_6_code 4 = .ok (.iload_n 1, 1) := by decide +kernel
theorem d51_5 : decode prog_38_method_6_code 5 = .ok (.aaload, 1) := by decide +kernel
theorem d51_6 : decode prog_38_method_6_code 6 = .ok (.areturn, 1) := by decide +kernel
theorem pn51 : plainName "com/example/hornbrook/hornbrook/Cells" = true := by first | (simp [plainName, overriddenIn]; done) | decide +kernel
theorem ef51 (m : MethodId) (x0 : Addr) (x1 : Int32) : entryFrame m #[(.ref x0), (.int x1)] 2 = mkF m 0 #[.val (.ref x0), .val (.int x1)] [] := by first | (simp [entryFrame, mkF, argsToLocals, Value.category]; done) | rfl
set_option maxRecDepth 65536 in
set_option maxHeartbeats 40000000 in
theorem rm51 (l : Launch) (Z : State) (a0 : Array Value) (hw : ∀ d ∈ tables_1, d.before a0 Z = true) (ws : List Jvm.Cond) (a ka wa ba : Addr) (ck cw cb : ClassId) (k0 k1 : Int32) (q0 q1 : Int64) (v0 v1 : Value) (h0 : Heap) (n0 : Nat) (Z0 : n0 ≤ h0.size) (Cc : Cel Z h0 n0 a ka wa ba ck cw cb k0 k1 q0 q1 v0 v1) :
    MetFree l (⟨"com/example/hornbrook/hornbrook/Cells", "bytes", "(I)[B"⟩ : MethodName) (head1 (Jvm.Cond.code (⟨"com/example/hornbrook/hornbrook/Cells", "bytes", "(I)[B"⟩ : MethodName) prog_38_method_6_code 2 (some (.array .byte)) :: ws) ({ frames := 0, cells := 0, slots := 0, locals := 0 } : Room)) (fun aa_ U => aa_ = #[(.ref a), (.int (1 : Int32))] ∧ Z.Warmed39 U.vm ∧ U.heap = h0) (fun _ _ _ _ _ => True) (fun _ U o U' => ∃ vv_ LL_, o = .returned vv_ ∧ Q1 Z v1 h0 n0 vv_ U'.heap LL_ ∧ FrameEnd U o U' LL_ ({ frames := 0, cells := 0, slots := 0, locals := 0 } : Room).cells ({ frames := 0, cells := 0, slots := 0, locals := 0 } : Room).slots) := by
  refine MetFree.of_bodySF (plainFor_of_name pn51) hisR ?_
  intro p e s m args below meth c s₁ Bd hml0 hP hK
  obtain ⟨rfl, hZ, hh⟩ := hP
  have hx := Bd.exec
  have hby := Bd.bytes
  have hml : c.maxLocals = 2 := hml0
  have hown : s.vm.findClass "com/example/hornbrook/hornbrook/Cells" = some m.cls := findClass_of_methodNamed Bd.named
  have hnm := (name_of_methodNamed Bd.named Bd.method).1
  have X0 : Stand p l e ({ frames := 0, cells := 0, slots := 0, locals := 0 } : Room) s m #[(.ref a), (.int (1 : Int32))] below meth c s₁ [] 0 0 := Stand.of_body Bd
  have e0 : s₁.heap = h0 := by rw [← hh, Bd.state]; rfl
  have N0 := Fr.nil n0
  have pre0 : ∀ tg_, Steps p.tables e below (s₁.setTop (mkF m 0 #[.val (.ref a), .val (.int (1 : Int32))] [])) tg_ → Steps p.tables e below (s₁.setTop (entryFrame m #[(.ref a), (.int (1 : Int32))] 2)) tg_ := fun tg_ kt => castTop (ef51 m a (1 : Int32)) kt
  obtain ⟨EX, FK, FW, FB, AK, AW, AB, OV, nk, nw, nb, d1, d2, d3, d4, d5, d6⟩ := Cc
  have hr_v : v1.isRef = true := by
    obtain ⟨c_, A_, -, S_, -, -, G_⟩ := id AB
    have q := G_ 1 (by rw [S_]; decide)
    exact fit_R q rfl
  obtain ⟨T1, X1, e1, st1⟩ := getF X0 hx hZ hown (host := "") (Or.inl (hw _ (List.mem_of_getElem? (i := 17) rfl))) Via.refl e0 FB (g := (mkF m 1 #[.val (.ref a), .val (.int (1 : Int32))] [(.ref a)])) rfl rfl (hb hby d51_1)
  obtain ⟨cl2, Ar2, q2, S2, L2, H2, G2⟩ := id AB
  have hin2 : ¬ ((1 : Int32) < 0 ∨ cl2.slots.size ≤ ((1 : Int32)).toNatClampNeg) := inb_of S2 ⟨by decide, by decide⟩
  have hat2 : cl2.slots[((1 : Int32)).toNatClampNeg]? = some v1 := Has.at H2 hin2 rfl
  have pre3 : ∀ tg_, Steps p.tables e below (T1.setTop (mkF m 6 #[.val (.ref a), .val (.int (1 : Int32))] [v1])) tg_ → Steps p.tables e below (s₁.setTop (entryFrame m #[(.ref a), (.int (1 : Int32))] 2)) tg_ := by
    intro tg_ kt
    refine pre0 _ ?_
    show Steps p.tables e below (s₁.setTop (mkF m 0 #[.val (.ref a), .val (.int (1 : Int32))] [])) _
    refine XS.aloadN X0.here hx rfl (hb hby d51_0) rfl rfl ?_
    show Steps p.tables e below (s₁.setTop (mkF m 1 #[.val (.ref a), .val (.int (1 : Int32))] [(.ref a)])) _
    refine st1 _ ?_
    show Steps p.tables e below (T1.setTop (mkF m 4 #[.val (.ref a), .val (.int (1 : Int32))] [(.ref ba)])) _
    refine XS.iloadN X1.here hx rfl (hb hby d51_4) rfl ?_
    show Steps p.tables e below (T1.setTop (mkF m 5 #[.val (.ref a), .val (.int (1 : Int32))] [(.int (1 : Int32)), (.ref ba)])) _
    refine X1.aaload hx (j := (1 : Int32)) (v := v1) (by rw [e1]; exact Ar2.1) (State.isArrayOf_alike hZ.alike Ar2.2.1) rfl Ar2.2.2 hin2 hat2 (g := (mkF m 5 #[.val (.ref a), .val (.int (1 : Int32))] [(.int (1 : Int32)), (.ref ba)])) rfl rfl (hb hby d51_5) _ ?_
    exact kt
  obtain ⟨fs, hr, hrun, hended, hW, hsame⟩ := X1.leave (v := some v1) (fun h => by rw [Bd.returns] at h; cases h)
  refine ⟨_, _, pre3 _ ?_, hrun, hended, _, _, rfl, ?_, ⟨_, rfl⟩, hW, hsame.mono (by decide) (by decide)⟩
  · show Steps p.tables e below (T1.setTop (mkF m 6 #[.val (.ref a), .val (.int (1 : Int32))] [v1])) _
    exact retOut X1 hx Bd.returns rfl (Or.inr (Or.inr (Or.inr (Or.inr ⟨rfl, rfl, hr_v⟩)))) (hb hby d51_6) hr
  · show Q1 Z v1 h0 n0 _ T1.heap _
    rw [e1]
    exact ⟨rfl, N0, rfl⟩
def Q0 (Z : State) (h0 : Heap) (n0 : Nat) (v : Option Value) (h : Heap) (L : List Loc) : Prop := v = some (.int 1) ∧ Fr n0 L
theorem pn00 : plainName "com/example/hornbrook/hornbrook/CellsSetPinLaw" = true := by first | (simp [plainName, overriddenIn]; done) | decide +kernel
theorem pd00_0 : parseMethodDescriptor "(I)V" = some ⟨[.int], none⟩ := by decide +kernel
theorem pd00_1 : parseMethodDescriptor "(IBJ[B)V" = some ⟨[.int, .byte, .long, (.array .byte)], none⟩ := by decide +kernel
theorem pd00_2 : parseMethodDescriptor "(I)B" = some ⟨[.int], some .byte⟩ := by decide +kernel
theorem pd00_3 : parseMethodDescriptor "(I)J" = some ⟨[.int], some .long⟩ := by decide +kernel
theorem pd00_4 : parseMethodDescriptor "(I)[B" = some ⟨[.int], some (.array .byte)⟩ := by decide +kernel
theorem ef00 (m : MethodId) (x0 : Int32) (x1 : Int32) (x2 : Int64) (x3 : Int32) (x4 : Int64) (x5 : Int32) : entryFrame m #[(.int x0), (.int x1), (.long x2), (.int x3), (.long x4), (.int x5)] maxLocals = mkF m 0 #[.val (.int x0), .val (.int x1), .val (.long x2), .second, .val (.int x3), .val (.long x4), .second, .val (.int x5), .unset, .unset, .unset, .unset, .unset, .unset, .unset, .unset, .unset, .unset, .unset, .unset] [] := by first | (simp [entryFrame, mkF, argsToLocals, Value.category, maxLocals]; done) | rfl
set_option maxRecDepth 65536 in
set_option maxHeartbeats 40000000 in
theorem rm00 (l : Launch) (Z : State) (a0 : Array Value) (hw : ∀ d ∈ tables_1, d.before a0 Z = true) (ws : List Jvm.Cond) (p0 p1 : Int32) (p2 : Int64) (p3 : Int32) (p4 : Int64) (p5 : Int32) (h0 : Heap) (n0 : Nat) (Z0 : n0 ≤ h0.size) (hat_ : (p0 &&& (1 : Int32)) = (0 : Int32)) :
    MetFree l x (head1 (Jvm.Cond.code x code maxLocals ret :: ws) room_1) (fun aa_ U => aa_ = #[(.int p0), (.int p1), (.long p2), (.int p3), (.long p4), (.int p5)] ∧ Z.Warmed39 U.vm ∧ U.heap = h0) (fun _ _ _ _ _ => True) (fun _ U o U' => ∃ vv_ LL_, o = .returned vv_ ∧ Q0 Z h0 n0 vv_ U'.heap LL_ ∧ FrameEnd U o U' LL_ room_1.cells room_1.slots) := by
  refine MetFree.of_bodySF (plainFor_of_name pn00) hisR ?_
  intro p e s m args below meth c s₁ Bd hml0 hP hK
  obtain ⟨rfl, hZ, hh⟩ := hP
  have hx := Bd.exec
  have hby := Bd.bytes
  have hml : c.maxLocals = 20 := hml0
  have hown : s.vm.findClass "com/example/hornbrook/hornbrook/CellsSetPinLaw" = some m.cls := findClass_of_methodNamed Bd.named
  have hnm := (name_of_methodNamed Bd.named Bd.method).1
  have X0 : Stand p l e room_1 s m #[(.int p0), (.int p1), (.long p2), (.int p3), (.long p4), (.int p5)] below meth c s₁ [] 0 0 := Stand.of_body Bd
  have e0 : s₁.heap = h0 := by rw [← hh, Bd.state]; rfl
  have N0 := Fr.nil n0
  have pre0 : ∀ tg_, Steps p.tables e below (s₁.setTop (mkF m 0 #[.val (.int p0), .val (.int p1), .val (.long p2), .second, .val (.int p3), .val (.long p4), .second, .val (.int p5), .unset, .unset, .unset, .unset, .unset, .unset, .unset, .unset, .unset, .unset, .unset, .unset] [])) tg_ → Steps p.tables e below (s₁.setTop (entryFrame m #[(.int p0), (.int p1), (.long p2), (.int p3), (.long p4), (.int p5)] maxLocals)) tg_ := fun tg_ kt => castTop (ef00 m p0 p1 p2 p3 p4 p5) kt
  obtain ⟨T1, h1, k1, X1, e1, E1, A1, M1, st1⟩ := newPE X0 hx hZ (hw _ (List.mem_of_getElem? (i := 0) rfl)) e0 (g := (mkF m 1 #[.val (.int p0), .val (.int p1), .val (.long p2), .second, .val (.int p3), .val (.long p4), .second, .val (.int p5), .unset, .unset, .unset, .unset, .unset, .unset, .unset, .unset, .unset, .unset, .unset, .unset] [(.int (1 : Int32))])) rfl (hb hby at_1) rfl (by decide) (cap := 1) (by decide) (by decide) (by decide) (by decide) (ad := "[B") (by first | rfl | decide +kernel)
  obtain ⟨b1, g1⟩ : ∃ z, z = h0.size := ⟨_, rfl⟩
  rw [← g1] at A1 M1 st1
  have V1 : Arv Z h1 b1 k1 .byte (1 : Int32) [(.int (0 : Int32))] (.int (0 : Int32)) := (Arv.new A1 (by decide)).pad (pad_rep [] (.int (0 : Int32)) 1)
  have gb_b1 : n0 ≤ b1 := Nat.le_trans Z0 (Nat.le_of_eq g1.symm)
  have sz_b1 : h0.size ≤ b1 := Nat.le_trans (Keep.refl h0 []).1 (Nat.le_of_eq g1.symm)
  have K2 : Keep h0 h1 [] := (Keep.refl h0 []).ext E1
  have Z3 : n0 ≤ h1.size := Nat.le_trans Z0 E1.1
  obtain ⟨T4, h4, k4, X4, e4, E4, A4, M4, st4⟩ := newPE X1 hx hZ (hw _ (List.mem_of_getElem? (i := 0) rfl)) e1 (g := (mkF m 6 #[.val (.int p0), .val (.int p1), .val (.long p2), .second, .val (.int p3), .val (.long p4), .second, .val (.int p5), .val (.ref b1), .unset, .unset, .unset, .unset, .unset, .unset, .unset, .unset, .unset, .unset, .unset] [(.int (2 : Int32))])) rfl (hb hby at_6) rfl (by decide) (cap := 2) (by decide) (by decide) (by decide) (by decide) (ad := "[B") (by first | rfl | decide +kernel)
  obtain ⟨b4, g4⟩ : ∃ z, z = h1.size := ⟨_, rfl⟩
  rw [← g4] at A4 M4 st4
  have V4 : Arv Z h4 b4 k4 .byte (2 : Int32) [(.int (0 : Int32)), (.int (0 : Int32))] (.int (0 : Int32)) := (Arv.new A4 (by decide)).pad (pad_rep [] (.int (0 : Int32)) 2)
  have d_b1_b4 : b1 ≠ b4 := Nat.ne_of_lt (Nat.lt_of_lt_of_le V1.lt (Nat.le_of_eq g4.symm))
  have gb_b4 : n0 ≤ b4 := Nat.le_trans Z3 (Nat.le_of_eq g4.symm)
  have sz_b4 : h0.size ≤ b4 := Nat.le_trans K2.1 (Nat.le_of_eq g4.symm)
  have f4_5 := V1.ext E4
  have f4_6 := M1.ext E4
  have K7 : Keep h0 h4 [] := K2.ext E4
  have Z8 : n0 ≤ h4.size := Nat.le_trans Z3 E4.1
  obtain ⟨T9, h9, k9, X9, e9, E9, A9, M9, st9⟩ := newPE X4 hx hZ (hw _ (List.mem_of_getElem? (i := 0) rfl)) e4 (g := (mkF m 11 #[.val (.int p0), .val (.int p1), .val (.long p2), .second, .val (.int p3), .val (.long p4), .second, .val (.int p5), .val (.ref b1), .val (.ref b4), .unset, .unset, .unset, .unset, .unset, .unset, .unset, .unset, .unset, .unset] [(.int (3 : Int32))])) rfl (hb hby at_11) rfl (by decide) (cap := 3) (by decide) (by decide) (by decide) (by decide) (ad := "[B") (by first | rfl | decide +kernel)
  obtain ⟨b9, g9⟩ : ∃ z, z = h4.size := ⟨_, rfl⟩
  rw [← g9] at A9 M9 st9
  have V9 : Arv Z h9 b9 k9 .byte (3 : Int32) [(.int (0 : Int32)), (.int (0 : Int32)), (.int (0 : Int32))] (.int (0 : Int32)) := (Arv.new A9 (by decide)).pad (pad_rep [] (.int (0 : Int32)) 3)
  have d_b1_b9 : b1 ≠ b9 := Nat.ne_of_lt (Nat.lt_of_lt_of_le f4_5.lt (Nat.le_of_eq g9.symm))
  have d_b4_b9 : b4 ≠ b9 := Nat.ne_of_lt (Nat.lt_of_lt_of_le V4.lt (Nat.le_of_eq g9.symm))
  have gb_b9 : n0 ≤ b9 := Nat.le_trans Z8 (Nat.le_of_eq g9.symm)
  have sz_b9 : h0.size ≤ b9 := Nat.le_trans K7.1 (Nat.le_of_eq g9.symm)
  have f9_10 := f4_5.ext E9
  have f9_11 := f4_6.ext E9
  have f9_12 := V4.ext E9
  have f9_13 := M4.ext E9
  have K14 : Keep h0 h9 [] := K7.ext E9
  have Z15 : n0 ≤ h9.size := Nat.le_trans Z8 E9.1
  obtain ⟨T16, h16, X16, e16, E16, A16, D16, -, st16⟩ := newO X9 hx hZ hown (hw _ (List.mem_of_getElem? (i := 1) rfl)) (hw _ (List.mem_of_getElem? (i := 2) rfl)) (hw _ (List.mem_of_getElem? (i := 3) rfl)) e9 (g := (mkF m 15 #[.val (.int p0), .val (.int p1), .val (.long p2), .second, .val (.int p3), .val (.long p4), .second, .val (.int p5), .val (.ref b1), .val (.ref b4), .val (.ref b9), .unset, .unset, .unset, .unset, .unset, .unset, .unset, .unset, .unset] [])) rfl (hb hby at_15) (by decide) (by decide)
  obtain ⟨b16, g16⟩ : ∃ z, z = h9.size := ⟨_, rfl⟩
  rw [← g16] at A16 D16 st16
  have F16_kinds : Fld Z h16 b16 "com/example/hornbrook/hornbrook/Cells" "kinds" "[B" .null := D16 (Or.inr (hw _ (List.mem_of_getElem? (i := 11) rfl))) (ty := (.array .byte)) (by decide)
  have F16_words : Fld Z h16 b16 "com/example/hornbrook/hornbrook/Cells" "words" "[J" .null := D16 (Or.inr (hw _ (List.mem_of_getElem? (i := 14) rfl))) (ty := (.array .long)) (by decide)
  have F16_bytes : Fld Z h16 b16 "com/example/hornbrook/hornbrook/Cells" "bytes" "[[B" .null := D16 (Or.inr (hw _ (List.mem_of_getElem? (i := 18) rfl))) (ty := (.array (.array .byte))) (by decide)
  have d_b1_b16 : b1 ≠ b16 := Nat.ne_of_lt (Nat.lt_of_lt_of_le f9_10.lt (Nat.le_of_eq g16.symm))
  have d_b4_b16 : b4 ≠ b16 := Nat.ne_of_lt (Nat.lt_of_lt_of_le f9_12.lt (Nat.le_of_eq g16.symm))
  have d_b9_b16 : b9 ≠ b16 := Nat.ne_of_lt (Nat.lt_of_lt_of_le V9.lt (Nat.le_of_eq g16.symm))
  have gb_b16 : n0 ≤ b16 := Nat.le_trans Z15 (Nat.le_of_eq g16.symm)
  have sz_b16 : h0.size ≤ b16 := Nat.le_trans K14.1 (Nat.le_of_eq g16.symm)
  have f16_17 := f9_10.ext E16
  have f16_18 := f9_11.ext E16
  have f16_19 := f9_12.ext E16
  have f16_20 := f9_13.ext E16
  have f16_21 := V9.ext E16
  have f16_22 := M9.ext E16
  have K23 : Keep h0 h16 [] := K14.ext E16
  have Z24 : n0 ≤ h16.size := Nat.le_trans Z15 E16.1
  obtain ⟨_, _, ⟨T25, L25, k25, n25⟩, -, X25, ⟨Lc25, hQ25, l25, y25, z25⟩, st25⟩ := X16.specialBack hx (y := (⟨"com/example/hornbrook/hornbrook/Cells", "<init>", "(I)V"⟩ : MethodName)) rfl hown (mvT hZ (hw _ (List.mem_of_getElem? (i := 4) rfl))) (mvT hZ (hw _ (List.mem_of_getElem? (i := 5) rfl))) (mvT hZ (hw _ (List.mem_of_getElem? (i := 6) rfl))) (by decide) (backOf (W := 1) (rm1 l Z a0 hw [] b16 h16 n0 Z24 A16 F16_kinds F16_words F16_bytes gb_b16) hZ (hw _ (List.mem_of_getElem? (i := 6) rfl)) (hw _ (List.mem_of_getElem? (i := 3) rfl)) (by decide) (by decide)) (g := (mkF m 20 #[.val (.int p0), .val (.int p1), .val (.long p2), .second, .val (.int p3), .val (.long p4), .second, .val (.int p5), .val (.ref b1), .val (.ref b4), .val (.ref b9), .unset, .unset, .unset, .unset, .unset, .unset, .unset, .unset, .unset] [(.int (2 : Int32)), (.ref b16), (.ref b16)])) rfl (by rw [hml]; rfl) (Steps.refl _) (a := b16) (argsL := [(.int (2 : Int32))]) (rest := [(.ref b16)]) (lenOf pd00_0 rfl) rfl (by show 2 * 0 + _ ≤ _; exact Nat.le_of_eq rfl) (hb hby at_20) (fun _ _ => ⟨rfl, e16, (by decide : 4 + 3 ≤ _), (by decide : 9 + 6 ≤ _)⟩)
  dsimp only [Pt.U, Pt.locs, Pt.cells, Pt.slots] at X25 l25 y25 z25 st25 hQ25
  subst l25 y25 z25
  obtain ⟨rfl, N25q, KC25, ka, wa, ba, ck, cw, cb, C25⟩ := hQ25
  have ex0_25 := f16_18.keep KC25
  have ex1_25 := f16_20.keep KC25
  have ex2_25 := f16_22.keep KC25
  have N25 := Fr.app N0 N25q
  have pre26 : ∀ tg_, Steps p.tables e below (T25.setTop (mkF m 40 #[.val (.int p0), .val (.int p1), .val (.long p2), .second, .val (.int p3), .val (.long p4), .second, .val (.int p5), .val (.ref b1), .val (.ref b4), .val (.ref b9), .val (.ref b16), .val (.int (0 : Int32)), .val (.int (1 : Int32)), .unset, .unset, .unset, .unset, .unset, .unset] [(.int (p5 &&& (1 : Int32)))])) tg_ → Steps p.tables e below (s₁.setTop (entryFrame m #[(.int p0), (.int p1), (.long p2), (.int p3), (.long p4), (.int p5)] maxLocals)) tg_ := by
    intro tg_ kt
    refine pre0 _ ?_
    show Steps p.tables e below (s₁.setTop (mkF m 0 #[.val (.int p0), .val (.int p1), .val (.long p2), .second, .val (.int p3), .val (.long p4), .second, .val (.int p5), .unset, .unset, .unset, .unset, .unset, .unset, .unset, .unset, .unset, .unset, .unset, .unset] [])) _
    refine XS.iconst X0.here hx rfl (hb hby at_0) ?_
    show Steps p.tables e below (s₁.setTop (mkF m 1 #[.val (.int p0), .val (.int p1), .val (.long p2), .second, .val (.int p3), .val (.long p4), .second, .val (.int p5), .unset, .unset, .unset, .unset, .unset, .unset, .unset, .unset, .unset, .unset, .unset, .unset] [(.int (1 : Int32))])) _
    refine st1 _ ?_
    show Steps p.tables e below (T1.setTop (mkF m 3 #[.val (.int p0), .val (.int p1), .val (.long p2), .second, .val (.int p3), .val (.long p4), .second, .val (.int p5), .unset, .unset, .unset, .unset, .unset, .unset, .unset, .unset, .unset, .unset, .unset, .unset] [(.ref b1)])) _
    refine XS.astore X1.here hx rfl (hb hby at_3) rfl rfl (l' := #[.val (.int p0), .val (.int p1), .val (.long p2), .second, .val (.int p3), .val (.long p4), .second, .val (.int p5), .val (.ref b1), .unset, .unset, .unset, .unset, .unset, .unset, .unset, .unset, .unset, .unset, .unset]) rfl ?_
    show Steps p.tables e below (T1.setTop (mkF m 5 #[.val (.int p0), .val (.int p1), .val (.long p2), .second, .val (.int p3), .val (.long p4), .second, .val (.int p5), .val (.ref b1), .unset, .unset, .unset, .unset, .unset, .unset, .unset, .unset, .unset, .unset, .unset] [])) _
    refine XS.iconst X1.here hx rfl (hb hby at_5) ?_
    show Steps p.tables e below (T1.setTop (mkF m 6 #[.val (.int p0), .val (.int p1), .val (.long p2), .second, .val (.int p3), .val (.long p4), .second, .val (.int p5), .val (.ref b1), .unset, .unset, .unset, .unset, .unset, .unset, .unset, .unset, .unset, .unset, .unset] [(.int (2 : Int32))])) _
    refine st4 _ ?_
    show Steps p.tables e below (T4.setTop (mkF m 8 #[.val (.int p0), .val (.int p1), .val (.long p2), .second, .val (.int p3), .val (.long p4), .second, .val (.int p5), .val (.ref b1), .unset, .unset, .unset, .unset, .unset, .unset, .unset, .unset, .unset, .unset, .unset] [(.ref b4)])) _
    refine XS.astore X4.here hx rfl (hb hby at_8) rfl rfl (l' := #[.val (.int p0), .val (.int p1), .val (.long p2), .second, .val (.int p3), .val (.long p4), .second, .val (.int p5), .val (.ref b1), .val (.ref b4), .unset, .unset, .unset, .unset, .unset, .unset, .unset, .unset, .unset, .unset]) rfl ?_
    show Steps p.tables e below (T4.setTop (mkF m 10 #[.val (.int p0), .val (.int p1), .val (.long p2), .second, .val (.int p3), .val (.long p4), .second, .val (.int p5), .val (.ref b1), .val (.ref b4), .unset, .unset, .unset, .unset, .unset, .unset, .unset, .unset, .unset, .unset] [])) _
    refine XS.iconst X4.here hx rfl (hb hby at_10) ?_
    show Steps p.tables e below (T4.setTop (mkF m 11 #[.val (.int p0), .val (.int p1), .val (.long p2), .second, .val (.int p3), .val (.long p4), .second, .val (.int p5), .val (.ref b1), .val (.ref b4), .unset, .unset, .unset, .unset, .unset, .unset, .unset, .unset, .unset, .unset] [(.int (3 : Int32))])) _
    refine st9 _ ?_
    show Steps p.tables e below (T9.setTop (mkF m 13 #[.val (.int p0), .val (.int p1), .val (.long p2), .second, .val (.int p3), .val (.long p4), .second, .val (.int p5), .val (.ref b1), .val (.ref b4), .unset, .unset, .unset, .unset, .unset, .unset, .unset, .unset, .unset, .unset] [(.ref b9)])) _
    refine XS.astore X9.here hx rfl (hb hby at_13) rfl rfl (l' := #[.val (.int p0), .val (.int p1), .val (.long p2), .second, .val (.int p3), .val (.long p4), .second, .val (.int p5), .val (.ref b1), .val (.ref b4), .val (.ref b9), .unset, .unset, .unset, .unset, .unset, .unset, .unset, .unset, .unset]) rfl ?_
    show Steps p.tables e below (T9.setTop (mkF m 15 #[.val (.int p0), .val (.int p1), .val (.long p2), .second, .val (.int p3), .val (.long p4), .second, .val (.int p5), .val (.ref b1), .val (.ref b4), .val (.ref b9), .unset, .unset, .unset, .unset, .unset, .unset, .unset, .unset, .unset] [])) _
    refine st16 _ ?_
    show Steps p.tables e below (T16.setTop (mkF m 18 #[.val (.int p0), .val (.int p1), .val (.long p2), .second, .val (.int p3), .val (.long p4), .second, .val (.int p5), .val (.ref b1), .val (.ref b4), .val (.ref b9), .unset, .unset, .unset, .unset, .unset, .unset, .unset, .unset, .unset] [(.ref b16)])) _
    refine XS.dup X16.here hx rfl (hb hby at_18) rfl rfl ?_
    show Steps p.tables e below (T16.setTop (mkF m 19 #[.val (.int p0), .val (.int p1), .val (.long p2), .second, .val (.int p3), .val (.long p4), .second, .val (.int p5), .val (.ref b1), .val (.ref b4), .val (.ref b9), .unset, .unset, .unset, .unset, .unset, .unset, .unset, .unset, .unset] [(.ref b16), (.ref b16)])) _
    refine XS.iconst X16.here hx rfl (hb hby at_19) ?_
    show Steps p.tables e below (T16.setTop (mkF m 20 #[.val (.int p0), .val (.int p1), .val (.long p2), .second, .val (.int p3), .val (.long p4), .second, .val (.int p5), .val (.ref b1), .val (.ref b4), .val (.ref b9), .unset, .unset, .unset, .unset, .unset, .unset, .unset, .unset, .unset] [(.int (2 : Int32)), (.ref b16), (.ref b16)])) _
    refine st25.trans ?_
    show Steps p.tables e below (T25.setTop (mkF m 23 #[.val (.int p0), .val (.int p1), .val (.long p2), .second, .val (.int p3), .val (.long p4), .second, .val (.int p5), .val (.ref b1), .val (.ref b4), .val (.ref b9), .unset, .unset, .unset, .unset, .unset, .unset, .unset, .unset, .unset] [(.ref b16)])) _
    refine XS.astore X25.here hx rfl (hb hby at_23) rfl rfl (l' := #[.val (.int p0), .val (.int p1), .val (.long p2), .second, .val (.int p3), .val (.long p4), .second, .val (.int p5), .val (.ref b1), .val (.ref b4), .val (.ref b9), .val (.ref b16), .unset, .unset, .unset, .unset, .unset, .unset, .unset, .unset]) rfl ?_
    show Steps p.tables e below (T25.setTop (mkF m 25 #[.val (.int p0), .val (.int p1), .val (.long p2), .second, .val (.int p3), .val (.long p4), .second, .val (.int p5), .val (.ref b1), .val (.ref b4), .val (.ref b9), .val (.ref b16), .unset, .unset, .unset, .unset, .unset, .unset, .unset, .unset] [])) _
    refine XS.iloadN X25.here hx rfl (hb hby at_25) rfl ?_
    show Steps p.tables e below (T25.setTop (mkF m 26 #[.val (.int p0), .val (.int p1), .val (.long p2), .second, .val (.int p3), .val (.long p4), .second, .val (.int p5), .val (.ref b1), .val (.ref b4), .val (.ref b9), .val (.ref b16), .unset, .unset, .unset, .unset, .unset, .unset, .unset, .unset] [(.int p0)])) _
    refine XS.iconst X25.here hx rfl (hb hby at_26) ?_
    show Steps p.tables e below (T25.setTop (mkF m 27 #[.val (.int p0), .val (.int p1), .val (.long p2), .second, .val (.int p3), .val (.long p4), .second, .val (.int p5), .val (.ref b1), .val (.ref b4), .val (.ref b9), .val (.ref b16), .unset, .unset, .unset, .unset, .unset, .unset, .unset, .unset] [(.int (1 : Int32)), (.int p0)])) _
    refine XS.iand X25.here hx rfl (hb hby at_27) rfl ?_
    rw [hat_]
    show Steps p.tables e below (T25.setTop (mkF m 28 #[.val (.int p0), .val (.int p1), .val (.long p2), .second, .val (.int p3), .val (.long p4), .second, .val (.int p5), .val (.ref b1), .val (.ref b4), .val (.ref b9), .val (.ref b16), .unset, .unset, .unset, .unset, .unset, .unset, .unset, .unset] [(.int (0 : Int32))])) _
    refine XS.istore X25.here hx rfl (hb hby at_28) rfl (l' := #[.val (.int p0), .val (.int p1), .val (.long p2), .second, .val (.int p3), .val (.long p4), .second, .val (.int p5), .val (.ref b1), .val (.ref b4), .val (.ref b9), .val (.ref b16), .val (.int (0 : Int32)), .unset, .unset, .unset, .unset, .unset, .unset, .unset]) rfl ?_
    show Steps p.tables e below (T25.setTop (mkF m 30 #[.val (.int p0), .val (.int p1), .val (.long p2), .second, .val (.int p3), .val (.long p4), .second, .val (.int p5), .val (.ref b1), .val (.ref b4), .val (.ref b9), .val (.ref b16), .val (.int (0 : Int32)), .unset, .unset, .unset, .unset, .unset, .unset, .unset] [])) _
    refine XS.iconst X25.here hx rfl (hb hby at_30) ?_
    show Steps p.tables e below (T25.setTop (mkF m 31 #[.val (.int p0), .val (.int p1), .val (.long p2), .second, .val (.int p3), .val (.long p4), .second, .val (.int p5), .val (.ref b1), .val (.ref b4), .val (.ref b9), .val (.ref b16), .val (.int (0 : Int32)), .unset, .unset, .unset, .unset, .unset, .unset, .unset] [(.int (1 : Int32))])) _
    refine XS.iload X25.here hx rfl (hb hby at_31) rfl ?_
    show Steps p.tables e below (T25.setTop (mkF m 33 #[.val (.int p0), .val (.int p1), .val (.long p2), .second, .val (.int p3), .val (.long p4), .second, .val (.int p5), .val (.ref b1), .val (.ref b4), .val (.ref b9), .val (.ref b16), .val (.int (0 : Int32)), .unset, .unset, .unset, .unset, .unset, .unset, .unset] [(.int (0 : Int32)), (.int (1 : Int32))])) _
    refine XS.isub X25.here hx rfl (hb hby at_33) rfl ?_
    rw [show ((1 : Int32) - (0 : Int32)) = (1 : Int32) from rfl]
    show Steps p.tables e below (T25.setTop (mkF m 34 #[.val (.int p0), .val (.int p1), .val (.long p2), .second, .val (.int p3), .val (.long p4), .second, .val (.int p5), .val (.ref b1), .val (.ref b4), .val (.ref b9), .val (.ref b16), .val (.int (0 : Int32)), .unset, .unset, .unset, .unset, .unset, .unset, .unset] [(.int (1 : Int32))])) _
    refine XS.istore X25.here hx rfl (hb hby at_34) rfl (l' := #[.val (.int p0), .val (.int p1), .val (.long p2), .second, .val (.int p3), .val (.long p4), .second, .val (.int p5), .val (.ref b1), .val (.ref b4), .val (.ref b9), .val (.ref b16), .val (.int (0 : Int32)), .val (.int (1 : Int32)), .unset, .unset, .unset, .unset, .unset, .unset]) rfl ?_
    show Steps p.tables e below (T25.setTop (mkF m 36 #[.val (.int p0), .val (.int p1), .val (.long p2), .second, .val (.int p3), .val (.long p4), .second, .val (.int p5), .val (.ref b1), .val (.ref b4), .val (.ref b9), .val (.ref b16), .val (.int (0 : Int32)), .val (.int (1 : Int32)), .unset, .unset, .unset, .unset, .unset, .unset] [])) _
    refine XS.iload X25.here hx rfl (hb hby at_36) rfl ?_
    show Steps p.tables e below (T25.setTop (mkF m 38 #[.val (.int p0), .val (.int p1), .val (.long p2), .second, .val (.int p3), .val (.long p4), .second, .val (.int p5), .val (.ref b1), .val (.ref b4), .val (.ref b9), .val (.ref b16), .val (.int (0 : Int32)), .val (.int (1 : Int32)), .unset, .unset, .unset, .unset, .unset, .unset] [(.int p5)])) _
    refine XS.iconst X25.here hx rfl (hb hby at_38) ?_
    show Steps p.tables e below (T25.setTop (mkF m 39 #[.val (.int p0), .val (.int p1), .val (.long p2), .second, .val (.int p3), .val (.long p4), .second, .val (.int p5), .val (.ref b1), .val (.ref b4), .val (.ref b9), .val (.ref b16), .val (.int (0 : Int32)), .val (.int (1 : Int32)), .unset, .unset, .unset, .unset, .unset, .unset] [(.int (1 : Int32)), (.int p5)])) _
    refine XS.iand X25.here hx rfl (hb hby at_39) rfl ?_
    exact kt
  obtain ⟨va, Bva, pre27⟩ : ∃ va : Value, Byt Z T25.heap va ∧ ∀ tg_, Steps p.tables e below (T25.setTop (mkF m 51 #[.val (.int p0), .val (.int p1), .val (.long p2), .second, .val (.int p3), .val (.long p4), .second, .val (.int p5), .val (.ref b1), .val (.ref b4), .val (.ref b9), .val (.ref b16), .val (.int (0 : Int32)), .val (.int (1 : Int32)), .val va, .unset, .unset, .unset, .unset, .unset] [])) tg_ → Steps p.tables e below (s₁.setTop (entryFrame m #[(.int p0), (.int p1), (.long p2), (.int p3), (.long p4), (.int p5)] maxLocals)) tg_ := by
    by_cases hv28 : (p5 &&& (1 : Int32)) = (0 : Int32)
    · refine ⟨.null, Or.inl rfl, fun tg_ kt => ?_⟩
      refine pre26 _ ?_
      show Steps p.tables e below (T25.setTop (mkF m 40 #[.val (.int p0), .val (.int p1), .val (.long p2), .second, .val (.int p3), .val (.long p4), .second, .val (.int p5), .val (.ref b1), .val (.ref b4), .val (.ref b9), .val (.ref b16), .val (.int (0 : Int32)), .val (.int (1 : Int32)), .unset, .unset, .unset, .unset, .unset, .unset] [(.int (p5 &&& (1 : Int32)))])) _
      refine XS.ifYes X25.here hx rfl (pc0 := 40) (pc' := 48) rfl (hb hby at_40) rfl (XT.i0_eq_t hv28) (by decide) (by decide) ?_
      show Steps p.tables e below (T25.setTop (mkF m 48 #[.val (.int p0), .val (.int p1), .val (.long p2), .second, .val (.int p3), .val (.long p4), .second, .val (.int p5), .val (.ref b1), .val (.ref b4), .val (.ref b9), .val (.ref b16), .val (.int (0 : Int32)), .val (.int (1 : Int32)), .unset, .unset, .unset, .unset, .unset, .unset] [])) _
      refine XS.aconstNull X25.here hx rfl (hb hby at_48) ?_
      show Steps p.tables e below (T25.setTop (mkF m 49 #[.val (.int p0), .val (.int p1), .val (.long p2), .second, .val (.int p3), .val (.long p4), .second, .val (.int p5), .val (.ref b1), .val (.ref b4), .val (.ref b9), .val (.ref b16), .val (.int (0 : Int32)), .val (.int (1 : Int32)), .unset, .unset, .unset, .unset, .unset, .unset] [.null])) _
      refine XS.astore X25.here hx rfl (hb hby at_49) rfl rfl (l' := #[.val (.int p0), .val (.int p1), .val (.long p2), .second, .val (.int p3), .val (.long p4), .second, .val (.int p5), .val (.ref b1), .val (.ref b4), .val (.ref b9), .val (.ref b16), .val (.int (0 : Int32)), .val (.int (1 : Int32)), .val .null, .unset, .unset, .unset, .unset, .unset]) rfl ?_
      exact kt
    · refine ⟨(.ref b1), Or.inr ⟨_, rfl, ex0_25⟩, fun tg_ kt => ?_⟩
      refine pre26 _ ?_
      show Steps p.tables e below (T25.setTop (mkF m 40 #[.val (.int p0), .val (.int p1), .val (.long p2), .second, .val (.int p3), .val (.long p4), .second, .val (.int p5), .val (.ref b1), .val (.ref b4), .val (.ref b9), .val (.ref b16), .val (.int (0 : Int32)), .val (.int (1 : Int32)), .unset, .unset, .unset, .unset, .unset, .unset] [(.int (p5 &&& (1 : Int32)))])) _
      refine XS.ifNo X25.here hx rfl (hb hby at_40) rfl (XT.i0_eq_f hv28) ?_
      show Steps p.tables e below (T25.setTop (mkF m 43 #[.val (.int p0), .val (.int p1), .val (.long p2), .second, .val (.int p3), .val (.long p4), .second, .val (.int p5), .val (.ref b1), .val (.ref b4), .val (.ref b9), .val (.ref b16), .val (.int (0 : Int32)), .val (.int (1 : Int32)), .unset, .unset, .unset, .unset, .unset, .unset] [])) _
      refine XS.aload X25.here hx rfl (hb hby at_43) rfl rfl ?_
      show Steps p.tables e below (T25.setTop (mkF m 45 #[.val (.int p0), .val (.int p1), .val (.long p2), .second, .val (.int p3), .val (.long p4), .second, .val (.int p5), .val (.ref b1), .val (.ref b4), .val (.ref b9), .val (.ref b16), .val (.int (0 : Int32)), .val (.int (1 : Int32)), .unset, .unset, .unset, .unset, .unset, .unset] [(.ref b1)])) _
      refine XS.goto X25.here hx rfl (pc0 := 45) (pc' := 49) rfl (hb hby at_45) (by decide) (by decide) ?_
      show Steps p.tables e below (T25.setTop (mkF m 49 #[.val (.int p0), .val (.int p1), .val (.long p2), .second, .val (.int p3), .val (.long p4), .second, .val (.int p5), .val (.ref b1), .val (.ref b4), .val (.ref b9), .val (.ref b16), .val (.int (0 : Int32)), .val (.int (1 : Int32)), .unset, .unset, .unset, .unset, .unset, .unset] [(.ref b1)])) _
      refine XS.astore X25.here hx rfl (hb hby at_49) rfl rfl (l' := #[.val (.int p0), .val (.int p1), .val (.long p2), .second, .val (.int p3), .val (.long p4), .second, .val (.int p5), .val (.ref b1), .val (.ref b4), .val (.ref b9), .val (.ref b16), .val (.int (0 : Int32)), .val (.int (1 : Int32)), .val (.ref b1), .unset, .unset, .unset, .unset, .unset]) rfl ?_
      exact kt
  have pre29 : ∀ tg_, Steps p.tables e below (T25.setTop (mkF m 55 #[.val (.int p0), .val (.int p1), .val (.long p2), .second, .val (.int p3), .val (.long p4), .second, .val (.int p5), .val (.ref b1), .val (.ref b4), .val (.ref b9), .val (.ref b16), .val (.int (0 : Int32)), .val (.int (1 : Int32)), .val va, .unset, .unset, .unset, .unset, .unset] [(.int (p5 &&& (2 : Int32)))])) tg_ → Steps p.tables e below (s₁.setTop (entryFrame m #[(.int p0), (.int p1), (.long p2), (.int p3), (.long p4), (.int p5)] maxLocals)) tg_ := by
    intro tg_ kt
    refine pre27 _ ?_
    show Steps p.tables e below (T25.setTop (mkF m 51 #[.val (.int p0), .val (.int p1), .val (.long p2), .second, .val (.int p3), .val (.long p4), .second, .val (.int p5), .val (.ref b1), .val (.ref b4), .val (.ref b9), .val (.ref b16), .val (.int (0 : Int32)), .val (.int (1 : Int32)), .val va, .unset, .unset, .unset, .unset, .unset] [])) _
    refine XS.iload X25.here hx rfl (hb hby at_51) rfl ?_
    show Steps p.tables e below (T25.setTop (mkF m 53 #[.val (.int p0), .val (.int p1), .val (.long p2), .second, .val (.int p3), .val (.long p4), .second, .val (.int p5), .val (.ref b1), .val (.ref b4), .val (.ref b9), .val (.ref b16), .val (.int (0 : Int32)), .val (.int (1 : Int32)), .val va, .unset, .unset, .unset, .unset, .unset] [(.int p5)])) _
    refine XS.iconst X25.here hx rfl (hb hby at_53) ?_
    show Steps p.tables e below (T25.setTop (mkF m 54 #[.val (.int p0), .val (.int p1), .val (.long p2), .second, .val (.int p3), .val (.long p4), .second, .val (.int p5), .val (.ref b1), .val (.ref b4), .val (.ref b9), .val (.ref b16), .val (.int (0 : Int32)), .val (.int (1 : Int32)), .val va, .unset, .unset, .unset, .unset, .unset] [(.int (2 : Int32)), (.int p5)])) _
    refine XS.iand X25.here hx rfl (hb hby at_54) rfl ?_
    exact kt
  obtain ⟨vb, Bvb, pre30⟩ : ∃ vb : Value, Byt Z T25.heap vb ∧ ∀ tg_, Steps p.tables e below (T25.setTop (mkF m 66 #[.val (.int p0), .val (.int p1), .val (.long p2), .second, .val (.int p3), .val (.long p4), .second, .val (.int p5), .val (.ref b1), .val (.ref b4), .val (.ref b9), .val (.ref b16), .val (.int (0 : Int32)), .val (.int (1 : Int32)), .val va, .val vb, .unset, .unset, .unset, .unset] [])) tg_ → Steps p.tables e below (s₁.setTop (entryFrame m #[(.int p0), (.int p1), (.long p2), (.int p3), (.long p4), (.int p5)] maxLocals)) tg_ := by
    by_cases hv31 : (p5 &&& (2 : Int32)) = (0 : Int32)
    · refine ⟨.null, Or.inl rfl, fun tg_ kt => ?_⟩
      refine pre29 _ ?_
      show Steps p.tables e below (T25.setTop (mkF m 55 #[.val (.int p0), .val (.int p1), .val (.long p2), .second, .val (.int p3), .val (.long p4), .second, .val (.int p5), .val (.ref b1), .val (.ref b4), .val (.ref b9), .val (.ref b16), .val (.int (0 : Int32)), .val (.int (1 : Int32)), .val va, .unset, .unset, .unset, .unset, .unset] [(.int (p5 &&& (2 : Int32)))])) _
      refine XS.ifYes X25.here hx rfl (pc0 := 55) (pc' := 63) rfl (hb hby at_55) rfl (XT.i0_eq_t hv31) (by decide) (by decide) ?_
      show Steps p.tables e below (T25.setTop (mkF m 63 #[.val (.int p0), .val (.int p1), .val (.long p2), .second, .val (.int p3), .val (.long p4), .second, .val (.int p5), .val (.ref b1), .val (.ref b4), .val (.ref b9), .val (.ref b16), .val (.int (0 : Int32)), .val (.int (1 : Int32)), .val va, .unset, .unset, .unset, .unset, .unset] [])) _
      refine XS.aconstNull X25.here hx rfl (hb hby at_63) ?_
      show Steps p.tables e below (T25.setTop (mkF m 64 #[.val (.int p0), .val (.int p1), .val (.long p2), .second, .val (.int p3), .val (.long p4), .second, .val (.int p5), .val (.ref b1), .val (.ref b4), .val (.ref b9), .val (.ref b16), .val (.int (0 : Int32)), .val (.int (1 : Int32)), .val va, .unset, .unset, .unset, .unset, .unset] [.null])) _
      refine XS.astore X25.here hx rfl (hb hby at_64) rfl rfl (l' := #[.val (.int p0), .val (.int p1), .val (.long p2), .second, .val (.int p3), .val (.long p4), .second, .val (.int p5), .val (.ref b1), .val (.ref b4), .val (.ref b9), .val (.ref b16), .val (.int (0 : Int32)), .val (.int (1 : Int32)), .val va, .val .null, .unset, .unset, .unset, .unset]) rfl ?_
      exact kt
    · refine ⟨(.ref b4), Or.inr ⟨_, rfl, ex1_25⟩, fun tg_ kt => ?_⟩
      refine pre29 _ ?_
      show Steps p.tables e below (T25.setTop (mkF m 55 #[.val (.int p0), .val (.int p1), .val (.long p2), .second, .val (.int p3), .val (.long p4), .second, .val (.int p5), .val (.ref b1), .val (.ref b4), .val (.ref b9), .val (.ref b16), .val (.int (0 : Int32)), .val (.int (1 : Int32)), .val va, .unset, .unset, .unset, .unset, .unset] [(.int (p5 &&& (2 : Int32)))])) _
      refine XS.ifNo X25.here hx rfl (hb hby at_55) rfl (XT.i0_eq_f hv31) ?_
      show Steps p.tables e below (T25.setTop (mkF m 58 #[.val (.int p0), .val (.int p1), .val (.long p2), .second, .val (.int p3), .val (.long p4), .second, .val (.int p5), .val (.ref b1), .val (.ref b4), .val (.ref b9), .val (.ref b16), .val (.int (0 : Int32)), .val (.int (1 : Int32)), .val va, .unset, .unset, .unset, .unset, .unset] [])) _
      refine XS.aload X25.here hx rfl (hb hby at_58) rfl rfl ?_
      show Steps p.tables e below (T25.setTop (mkF m 60 #[.val (.int p0), .val (.int p1), .val (.long p2), .second, .val (.int p3), .val (.long p4), .second, .val (.int p5), .val (.ref b1), .val (.ref b4), .val (.ref b9), .val (.ref b16), .val (.int (0 : Int32)), .val (.int (1 : Int32)), .val va, .unset, .unset, .unset, .unset, .unset] [(.ref b4)])) _
      refine XS.goto X25.here hx rfl (pc0 := 60) (pc' := 64) rfl (hb hby at_60) (by decide) (by decide) ?_
      show Steps p.tables e below (T25.setTop (mkF m 64 #[.val (.int p0), .val (.int p1), .val (.long p2), .second, .val (.int p3), .val (.long p4), .second, .val (.int p5), .val (.ref b1), .val (.ref b4), .val (.ref b9), .val (.ref b16), .val (.int (0 : Int32)), .val (.int (1 : Int32)), .val va, .unset, .unset, .unset, .unset, .unset] [(.ref b4)])) _
      refine XS.astore X25.here hx rfl (hb hby at_64) rfl rfl (l' := #[.val (.int p0), .val (.int p1), .val (.long p2), .second, .val (.int p3), .val (.long p4), .second, .val (.int p5), .val (.ref b1), .val (.ref b4), .val (.ref b9), .val (.ref b16), .val (.int (0 : Int32)), .val (.int (1 : Int32)), .val va, .val (.ref b4), .unset, .unset, .unset, .unset]) rfl ?_
      exact kt
  have pre32 : ∀ tg_, Steps p.tables e below (T25.setTop (mkF m 70 #[.val (.int p0), .val (.int p1), .val (.long p2), .second, .val (.int p3), .val (.long p4), .second, .val (.int p5), .val (.ref b1), .val (.ref b4), .val (.ref b9), .val (.ref b16), .val (.int (0 : Int32)), .val (.int (1 : Int32)), .val va, .val vb, .unset, .unset, .unset, .unset] [(.int (p5 &&& (4 : Int32)))])) tg_ → Steps p.tables e below (s₁.setTop (entryFrame m #[(.int p0), (.int p1), (.long p2), (.int p3), (.long p4), (.int p5)] maxLocals)) tg_ := by
    intro tg_ kt
    refine pre30 _ ?_
    show Steps p.tables e below (T25.setTop (mkF m 66 #[.val (.int p0), .val (.int p1), .val (.long p2), .second, .val (.int p3), .val (.long p4), .second, .val (.int p5), .val (.ref b1), .val (.ref b4), .val (.ref b9), .val (.ref b16), .val (.int (0 : Int32)), .val (.int (1 : Int32)), .val va, .val vb, .unset, .unset, .unset, .unset] [])) _
    refine XS.iload X25.here hx rfl (hb hby at_66) rfl ?_
    show Steps p.tables e below (T25.setTop (mkF m 68 #[.val (.int p0), .val (.int p1), .val (.long p2), .second, .val (.int p3), .val (.long p4), .second, .val (.int p5), .val (.ref b1), .val (.ref b4), .val (.ref b9), .val (.ref b16), .val (.int (0 : Int32)), .val (.int (1 : Int32)), .val va, .val vb, .unset, .unset, .unset, .unset] [(.int p5)])) _
    refine XS.iconst X25.here hx rfl (hb hby at_68) ?_
    show Steps p.tables e below (T25.setTop (mkF m 69 #[.val (.int p0), .val (.int p1), .val (.long p2), .second, .val (.int p3), .val (.long p4), .second, .val (.int p5), .val (.ref b1), .val (.ref b4), .val (.ref b9), .val (.ref b16), .val (.int (0 : Int32)), .val (.int (1 : Int32)), .val va, .val vb, .unset, .unset, .unset, .unset] [(.int (4 : Int32)), (.int p5)])) _
    refine XS.iand X25.here hx rfl (hb hby at_69) rfl ?_
    exact kt
  obtain ⟨vc, Bvc, pre33⟩ : ∃ vc : Value, Byt Z T25.heap vc ∧ ∀ tg_, Steps p.tables e below (T25.setTop (mkF m 81 #[.val (.int p0), .val (.int p1), .val (.long p2), .second, .val (.int p3), .val (.long p4), .second, .val (.int p5), .val (.ref b1), .val (.ref b4), .val (.ref b9), .val (.ref b16), .val (.int (0 : Int32)), .val (.int (1 : Int32)), .val va, .val vb, .val vc, .unset, .unset, .unset] [])) tg_ → Steps p.tables e below (s₁.setTop (entryFrame m #[(.int p0), (.int p1), (.long p2), (.int p3), (.long p4), (.int p5)] maxLocals)) tg_ := by
    by_cases hv34 : (p5 &&& (4 : Int32)) = (0 : Int32)
    · refine ⟨.null, Or.inl rfl, fun tg_ kt => ?_⟩
      refine pre32 _ ?_
      show Steps p.tables e below (T25.setTop (mkF m 70 #[.val (.int p0), .val (.int p1), .val (.long p2), .second, .val (.int p3), .val (.long p4), .second, .val (.int p5), .val (.ref b1), .val (.ref b4), .val (.ref b9), .val (.ref b16), .val (.int (0 : Int32)), .val (.int (1 : Int32)), .val va, .val vb, .unset, .unset, .unset, .unset] [(.int (p5 &&& (4 : Int32)))])) _
      refine XS.ifYes X25.here hx rfl (pc0 := 70) (pc' := 78) rfl (hb hby at_70) rfl (XT.i0_eq_t hv34) (by decide) (by decide) ?_
      show Steps p.tables e below (T25.setTop (mkF m 78 #[.val (.int p0), .val (.int p1), .val (.long p2), .second, .val (.int p3), .val (.long p4), .second, .val (.int p5), .val (.ref b1), .val (.ref b4), .val (.ref b9), .val (.ref b16), .val (.int (0 : Int32)), .val (.int (1 : Int32)), .val va, .val vb, .unset, .unset, .unset, .unset] [])) _
      refine XS.aconstNull X25.here hx rfl (hb hby at_78) ?_
      show Steps p.tables e below (T25.setTop (mkF m 79 #[.val (.int p0), .val (.int p1), .val (.long p2), .second, .val (.int p3), .val (.long p4), .second, .val (.int p5), .val (.ref b1), .val (.ref b4), .val (.ref b9), .val (.ref b16), .val (.int (0 : Int32)), .val (.int (1 : Int32)), .val va, .val vb, .unset, .unset, .unset, .unset] [.null])) _
      refine XS.astore X25.here hx rfl (hb hby at_79) rfl rfl (l' := #[.val (.int p0), .val (.int p1), .val (.long p2), .second, .val (.int p3), .val (.long p4), .second, .val (.int p5), .val (.ref b1), .val (.ref b4), .val (.ref b9), .val (.ref b16), .val (.int (0 : Int32)), .val (.int (1 : Int32)), .val va, .val vb, .val .null, .unset, .unset, .unset]) rfl ?_
      exact kt
    · refine ⟨(.ref b9), Or.inr ⟨_, rfl, ex2_25⟩, fun tg_ kt => ?_⟩
      refine pre32 _ ?_
      show Steps p.tables e below (T25.setTop (mkF m 70 #[.val (.int p0), .val (.int p1), .val (.long p2), .second, .val (.int p3), .val (.long p4), .second, .val (.int p5), .val (.ref b1), .val (.ref b4), .val (.ref b9), .val (.ref b16), .val (.int (0 : Int32)), .val (.int (1 : Int32)), .val va, .val vb, .unset, .unset, .unset, .unset] [(.int (p5 &&& (4 : Int32)))])) _
      refine XS.ifNo X25.here hx rfl (hb hby at_70) rfl (XT.i0_eq_f hv34) ?_
      show Steps p.tables e below (T25.setTop (mkF m 73 #[.val (.int p0), .val (.int p1), .val (.long p2), .second, .val (.int p3), .val (.long p4), .second, .val (.int p5), .val (.ref b1), .val (.ref b4), .val (.ref b9), .val (.ref b16), .val (.int (0 : Int32)), .val (.int (1 : Int32)), .val va, .val vb, .unset, .unset, .unset, .unset] [])) _
      refine XS.aload X25.here hx rfl (hb hby at_73) rfl rfl ?_
      show Steps p.tables e below (T25.setTop (mkF m 75 #[.val (.int p0), .val (.int p1), .val (.long p2), .second, .val (.int p3), .val (.long p4), .second, .val (.int p5), .val (.ref b1), .val (.ref b4), .val (.ref b9), .val (.ref b16), .val (.int (0 : Int32)), .val (.int (1 : Int32)), .val va, .val vb, .unset, .unset, .unset, .unset] [(.ref b9)])) _
      refine XS.goto X25.here hx rfl (pc0 := 75) (pc' := 79) rfl (hb hby at_75) (by decide) (by decide) ?_
      show Steps p.tables e below (T25.setTop (mkF m 79 #[.val (.int p0), .val (.int p1), .val (.long p2), .second, .val (.int p3), .val (.long p4), .second, .val (.int p5), .val (.ref b1), .val (.ref b4), .val (.ref b9), .val (.ref b16), .val (.int (0 : Int32)), .val (.int (1 : Int32)), .val va, .val vb, .unset, .unset, .unset, .unset] [(.ref b9)])) _
      refine XS.astore X25.here hx rfl (hb hby at_79) rfl rfl (l' := #[.val (.int p0), .val (.int p1), .val (.long p2), .second, .val (.int p3), .val (.long p4), .second, .val (.int p5), .val (.ref b1), .val (.ref b4), .val (.ref b9), .val (.ref b16), .val (.int (0 : Int32)), .val (.int (1 : Int32)), .val va, .val vb, .val (.ref b9), .unset, .unset, .unset]) rfl ?_
      exact kt
  have pre35 : ∀ tg_, Steps p.tables e below (T25.setTop (mkF m 101 #[.val (.int p0), .val (.int p1), .val (.long p2), .second, .val (.int p3), .val (.long p4), .second, .val (.int p5), .val (.ref b1), .val (.ref b4), .val (.ref b9), .val (.ref b16), .val (.int (0 : Int32)), .val (.int (1 : Int32)), .val va, .val vb, .val vc, .val (.int (p3 ^^^ (-1 : Int32)).toInt8.toInt32), .val (.long (p4 ^^^ (-1 : Int64))), .second] [(.int (p5 &&& (8 : Int32)))])) tg_ → Steps p.tables e below (s₁.setTop (entryFrame m #[(.int p0), (.int p1), (.long p2), (.int p3), (.long p4), (.int p5)] maxLocals)) tg_ := by
    intro tg_ kt
    refine pre33 _ ?_
    show Steps p.tables e below (T25.setTop (mkF m 81 #[.val (.int p0), .val (.int p1), .val (.long p2), .second, .val (.int p3), .val (.long p4), .second, .val (.int p5), .val (.ref b1), .val (.ref b4), .val (.ref b9), .val (.ref b16), .val (.int (0 : Int32)), .val (.int (1 : Int32)), .val va, .val vb, .val vc, .unset, .unset, .unset] [])) _
    refine XS.iload X25.here hx rfl (hb hby at_81) rfl ?_
    show Steps p.tables e below (T25.setTop (mkF m 83 #[.val (.int p0), .val (.int p1), .val (.long p2), .second, .val (.int p3), .val (.long p4), .second, .val (.int p5), .val (.ref b1), .val (.ref b4), .val (.ref b9), .val (.ref b16), .val (.int (0 : Int32)), .val (.int (1 : Int32)), .val va, .val vb, .val vc, .unset, .unset, .unset] [(.int p3)])) _
    refine XS.iconst X25.here hx rfl (hb hby at_83) ?_
    show Steps p.tables e below (T25.setTop (mkF m 84 #[.val (.int p0), .val (.int p1), .val (.long p2), .second, .val (.int p3), .val (.long p4), .second, .val (.int p5), .val (.ref b1), .val (.ref b4), .val (.ref b9), .val (.ref b16), .val (.int (0 : Int32)), .val (.int (1 : Int32)), .val va, .val vb, .val vc, .unset, .unset, .unset] [(.int (-1 : Int32)), (.int p3)])) _
    refine XS.ixor X25.here hx rfl (hb hby at_84) rfl ?_
    show Steps p.tables e below (T25.setTop (mkF m 85 #[.val (.int p0), .val (.int p1), .val (.long p2), .second, .val (.int p3), .val (.long p4), .second, .val (.int p5), .val (.ref b1), .val (.ref b4), .val (.ref b9), .val (.ref b16), .val (.int (0 : Int32)), .val (.int (1 : Int32)), .val va, .val vb, .val vc, .unset, .unset, .unset] [(.int (p3 ^^^ (-1 : Int32)))])) _
    refine XS.i2b X25.here hx rfl (hb hby at_85) rfl ?_
    show Steps p.tables e below (T25.setTop (mkF m 86 #[.val (.int p0), .val (.int p1), .val (.long p2), .second, .val (.int p3), .val (.long p4), .second, .val (.int p5), .val (.ref b1), .val (.ref b4), .val (.ref b9), .val (.ref b16), .val (.int (0 : Int32)), .val (.int (1 : Int32)), .val va, .val vb, .val vc, .unset, .unset, .unset] [(.int (p3 ^^^ (-1 : Int32)).toInt8.toInt32)])) _
    refine XS.istore X25.here hx rfl (hb hby at_86) rfl (l' := #[.val (.int p0), .val (.int p1), .val (.long p2), .second, .val (.int p3), .val (.long p4), .second, .val (.int p5), .val (.ref b1), .val (.ref b4), .val (.ref b9), .val (.ref b16), .val (.int (0 : Int32)), .val (.int (1 : Int32)), .val va, .val vb, .val vc, .val (.int (p3 ^^^ (-1 : Int32)).toInt8.toInt32), .unset, .unset]) rfl ?_
    show Steps p.tables e below (T25.setTop (mkF m 88 #[.val (.int p0), .val (.int p1), .val (.long p2), .second, .val (.int p3), .val (.long p4), .second, .val (.int p5), .val (.ref b1), .val (.ref b4), .val (.ref b9), .val (.ref b16), .val (.int (0 : Int32)), .val (.int (1 : Int32)), .val va, .val vb, .val vc, .val (.int (p3 ^^^ (-1 : Int32)).toInt8.toInt32), .unset, .unset] [])) _
    refine XS.lload X25.here hx rfl (hb hby at_88) rfl ?_
    show Steps p.tables e below (T25.setTop (mkF m 90 #[.val (.int p0), .val (.int p1), .val (.long p2), .second, .val (.int p3), .val (.long p4), .second, .val (.int p5), .val (.ref b1), .val (.ref b4), .val (.ref b9), .val (.ref b16), .val (.int (0 : Int32)), .val (.int (1 : Int32)), .val va, .val vb, .val vc, .val (.int (p3 ^^^ (-1 : Int32)).toInt8.toInt32), .unset, .unset] [(.long p4)])) _
    refine X25.ldc2J hx hown (mvT hZ (hw _ (List.mem_of_getElem? (i := 19) rfl))) (g := (mkF m 90 #[.val (.int p0), .val (.int p1), .val (.long p2), .second, .val (.int p3), .val (.long p4), .second, .val (.int p5), .val (.ref b1), .val (.ref b4), .val (.ref b9), .val (.ref b16), .val (.int (0 : Int32)), .val (.int (1 : Int32)), .val va, .val vb, .val vc, .val (.int (p3 ^^^ (-1 : Int32)).toInt8.toInt32), .unset, .unset] [(.long p4)])) rfl (hb hby at_90) ?_
    show Steps p.tables e below (T25.setTop (mkF m 93 #[.val (.int p0), .val (.int p1), .val (.long p2), .second, .val (.int p3), .val (.long p4), .second, .val (.int p5), .val (.ref b1), .val (.ref b4), .val (.ref b9), .val (.ref b16), .val (.int (0 : Int32)), .val (.int (1 : Int32)), .val va, .val vb, .val vc, .val (.int (p3 ^^^ (-1 : Int32)).toInt8.toInt32), .unset, .unset] [(.long (-1 : Int64)), (.long p4)])) _
    refine XS.lxor X25.here hx rfl (hb hby at_93) rfl ?_
    show Steps p.tables e below (T25.setTop (mkF m 94 #[.val (.int p0), .val (.int p1), .val (.long p2), .second, .val (.int p3), .val (.long p4), .second, .val (.int p5), .val (.ref b1), .val (.ref b4), .val (.ref b9), .val (.ref b16), .val (.int (0 : Int32)), .val (.int (1 : Int32)), .val va, .val vb, .val vc, .val (.int (p3 ^^^ (-1 : Int32)).toInt8.toInt32), .unset, .unset] [(.long (p4 ^^^ (-1 : Int64)))])) _
    refine XS.lstore X25.here hx rfl (hb hby at_94) rfl (l' := #[.val (.int p0), .val (.int p1), .val (.long p2), .second, .val (.int p3), .val (.long p4), .second, .val (.int p5), .val (.ref b1), .val (.ref b4), .val (.ref b9), .val (.ref b16), .val (.int (0 : Int32)), .val (.int (1 : Int32)), .val va, .val vb, .val vc, .val (.int (p3 ^^^ (-1 : Int32)).toInt8.toInt32), .val (.long (p4 ^^^ (-1 : Int64))), .second]) rfl ?_
    show Steps p.tables e below (T25.setTop (mkF m 96 #[.val (.int p0), .val (.int p1), .val (.long p2), .second, .val (.int p3), .val (.long p4), .second, .val (.int p5), .val (.ref b1), .val (.ref b4), .val (.ref b9), .val (.ref b16), .val (.int (0 : Int32)), .val (.int (1 : Int32)), .val va, .val vb, .val vc, .val (.int (p3 ^^^ (-1 : Int32)).toInt8.toInt32), .val (.long (p4 ^^^ (-1 : Int64))), .second] [])) _
    refine XS.iload X25.here hx rfl (hb hby at_96) rfl ?_
    show Steps p.tables e below (T25.setTop (mkF m 98 #[.val (.int p0), .val (.int p1), .val (.long p2), .second, .val (.int p3), .val (.long p4), .second, .val (.int p5), .val (.ref b1), .val (.ref b4), .val (.ref b9), .val (.ref b16), .val (.int (0 : Int32)), .val (.int (1 : Int32)), .val va, .val vb, .val vc, .val (.int (p3 ^^^ (-1 : Int32)).toInt8.toInt32), .val (.long (p4 ^^^ (-1 : Int64))), .second] [(.int p5)])) _
    refine XS.bipush X25.here hx rfl (hb hby at_98) ?_
    show Steps p.tables e below (T25.setTop (mkF m 100 #[.val (.int p0), .val (.int p1), .val (.long p2), .second, .val (.int p3), .val (.long p4), .second, .val (.int p5), .val (.ref b1), .val (.ref b4), .val (.ref b9), .val (.ref b16), .val (.int (0 : Int32)), .val (.int (1 : Int32)), .val va, .val vb, .val vc, .val (.int (p3 ^^^ (-1 : Int32)).toInt8.toInt32), .val (.long (p4 ^^^ (-1 : Int64))), .second] [(.int (8 : Int32)), (.int p5)])) _
    refine XS.iand X25.here hx rfl (hb hby at_100) rfl ?_
    exact kt
  by_cases hc101_36 : (p5 &&& (8 : Int32)) = (0 : Int32)
  · obtain ⟨cq37, kq37, q37a, q37b, q37c⟩ := isOf hZ rfl C25.1
    obtain ⟨_, _, ⟨T37, L37, k37, n37⟩, -, X37, ⟨Lc37, hQ37, l37, y37, z37⟩, st37⟩ := X25.virtualBack hx (y := (⟨"com/example/hornbrook/hornbrook/Cells", "set", "(IBJ[B)V"⟩ : MethodName)) (z := (⟨"com/example/hornbrook/hornbrook/Cells", "set", "(IBJ[B)V"⟩ : MethodName)) hown (mvT hZ (hw _ (List.mem_of_getElem? (i := 20) rfl))) (mvT hZ (hw _ (List.mem_of_getElem? (i := 21) rfl))) (notFace_of_selects (args := #[]) (mvT hZ (hw _ (List.mem_of_getElem? (i := 23) rfl)))) (mvT hZ (hw _ (List.mem_of_getElem? (i := 23) rfl))) (mvT hZ (hw _ (List.mem_of_getElem? (i := 22) rfl))) (by decide) (backOf (W := 0) (rm21 l Z a0 hw [] b16 ka wa ba ck cw cb (0 : Int32) (0 : Int32) (0 : Int64) (0 : Int64) .null .null (p3 ^^^ (-1 : Int32)).toInt8.toInt32 (p4 ^^^ (-1 : Int64)) vc T25.heap n0 (Nat.le_trans Z24 KC25.1) C25 Bvc) hZ (hw _ (List.mem_of_getElem? (i := 24) rfl)) (hw _ (List.mem_of_getElem? (i := 3) rfl)) (by decide) (by decide)) q37a q37c (g := (mkF m 126 #[.val (.int p0), .val (.int p1), .val (.long p2), .second, .val (.int p3), .val (.long p4), .second, .val (.int p5), .val (.ref b1), .val (.ref b4), .val (.ref b9), .val (.ref b16), .val (.int (0 : Int32)), .val (.int (1 : Int32)), .val va, .val vb, .val vc, .val (.int (p3 ^^^ (-1 : Int32)).toInt8.toInt32), .val (.long (p4 ^^^ (-1 : Int64))), .second] [vc, (.long (p4 ^^^ (-1 : Int64))), (.int (p3 ^^^ (-1 : Int32)).toInt8.toInt32), (.int (1 : Int32)), (.ref b16)])) rfl (by rw [hml]; rfl) (Steps.refl _) (argsL := [(.int (1 : Int32)), (.int (p3 ^^^ (-1 : Int32)).toInt8.toInt32), (.long (p4 ^^^ (-1 : Int64))), vc]) (rest := []) (lenOf pd00_1 rfl) rfl (by show 2 * 0 + _ ≤ _; exact Nat.le_of_eq rfl) (hb hby at_126) (fun _ _ => ⟨rfl, rfl, (by decide : 7 + 0 ≤ _), (by decide : 15 + 0 ≤ _)⟩)
    dsimp only [Pt.U, Pt.locs, Pt.cells, Pt.slots] at X37 l37 y37 z37 st37 hQ37
    subst l37 y37 z37
    obtain ⟨rfl, N37q, KC37, C37⟩ := hQ37
    have Bva_37 := Bva.keep KC37
    have Bvb_37 := Bvb.keep KC37
    have Bvc_37 := Bvc.keep KC37
    have N37 := Fr.app N25 N37q
    obtain ⟨cq38, kq38, q38a, q38b, q38c⟩ := isOf hZ rfl C37.1
    obtain ⟨_, _, ⟨T38, L38, k38, n38⟩, -, X38, ⟨Lc38, hQ38, l38, y38, z38⟩, st38⟩ := X37.virtualBack hx (y := (⟨"com/example/hornbrook/hornbrook/Cells", "set", "(IBJ[B)V"⟩ : MethodName)) (z := (⟨"com/example/hornbrook/hornbrook/Cells", "set", "(IBJ[B)V"⟩ : MethodName)) hown (mvT hZ (hw _ (List.mem_of_getElem? (i := 20) rfl))) (mvT hZ (hw _ (List.mem_of_getElem? (i := 21) rfl))) (notFace_of_selects (args := #[]) (mvT hZ (hw _ (List.mem_of_getElem? (i := 23) rfl)))) (mvT hZ (hw _ (List.mem_of_getElem? (i := 23) rfl))) (mvT hZ (hw _ (List.mem_of_getElem? (i := 22) rfl))) (by decide) (backOf (W := 0) (rm20 l Z a0 hw [] b16 ka wa ba ck cw cb (0 : Int32) (nar .byte (p3 ^^^ (-1 : Int32)).toInt8.toInt32) (0 : Int64) (p4 ^^^ (-1 : Int64)) .null vc p3.toInt8.toInt32 p4 vb T37.heap n0 (Nat.le_trans (Nat.le_trans Z24 KC25.1) KC37.1) C37 Bvb_37) hZ (hw _ (List.mem_of_getElem? (i := 24) rfl)) (hw _ (List.mem_of_getElem? (i := 3) rfl)) (by decide) (by decide)) q38a q38c (g := (mkF m 140 #[.val (.int p0), .val (.int p1), .val (.long p2), .second, .val (.int p3), .val (.long p4), .second, .val (.int p5), .val (.ref b1), .val (.ref b4), .val (.ref b9), .val (.ref b16), .val (.int (0 : Int32)), .val (.int (1 : Int32)), .val va, .val vb, .val vc, .val (.int (p3 ^^^ (-1 : Int32)).toInt8.toInt32), .val (.long (p4 ^^^ (-1 : Int64))), .second] [vb, (.long p4), (.int p3.toInt8.toInt32), (.int (0 : Int32)), (.ref b16)])) rfl (by rw [hml]; rfl) (Steps.refl _) (argsL := [(.int (0 : Int32)), (.int p3.toInt8.toInt32), (.long p4), vb]) (rest := []) (lenOf pd00_1 rfl) rfl (by show 2 * 0 + _ ≤ _; exact Nat.le_of_eq rfl) (hb hby at_140) (fun _ _ => ⟨rfl, rfl, (by decide : 7 + 0 ≤ _), (by decide : 15 + 0 ≤ _)⟩)
    dsimp only [Pt.U, Pt.locs, Pt.cells, Pt.slots] at X38 l38 y38 z38 st38 hQ38
    subst l38 y38 z38
    obtain ⟨rfl, N38q, KC38, C38⟩ := hQ38
    have Bva_38 := Bva_37.keep KC38
    have Bvb_38 := Bvb_37.keep KC38
    have Bvc_38 := Bvc_37.keep KC38
    have N38 := Fr.app N37 N38q
    obtain ⟨cq39, kq39, q39a, q39b, q39c⟩ := isOf hZ rfl C38.1
    obtain ⟨_, _, ⟨T39, L39, k39, n39⟩, -, X39, ⟨Lc39, hQ39, l39, y39, z39⟩, st39⟩ := X38.virtualBack hx (y := (⟨"com/example/hornbrook/hornbrook/Cells", "kind", "(I)B"⟩ : MethodName)) (z := (⟨"com/example/hornbrook/hornbrook/Cells", "kind", "(I)B"⟩ : MethodName)) hown (mvT hZ (hw _ (List.mem_of_getElem? (i := 26) rfl))) (mvT hZ (hw _ (List.mem_of_getElem? (i := 27) rfl))) (notFace_of_selects (args := #[]) (mvT hZ (hw _ (List.mem_of_getElem? (i := 29) rfl)))) (mvT hZ (hw _ (List.mem_of_getElem? (i := 29) rfl))) (mvT hZ (hw _ (List.mem_of_getElem? (i := 28) rfl))) (by decide) (backOf (W := 0) (rm30 l Z a0 hw [] b16 ka wa ba ck cw cb (nar .byte p3.toInt8.toInt32) (nar .byte (p3 ^^^ (-1 : Int32)).toInt8.toInt32) p4 (p4 ^^^ (-1 : Int64)) vb vc T38.heap n0 (Nat.le_trans (Nat.le_trans (Nat.le_trans Z24 KC25.1) KC37.1) KC38.1) C38) hZ (hw _ (List.mem_of_getElem? (i := 30) rfl)) (hw _ (List.mem_of_getElem? (i := 3) rfl)) (by decide) (by decide)) q39a q39c (g := (mkF m 147 #[.val (.int p0), .val (.int p1), .val (.long p2), .second, .val (.int p3), .val (.long p4), .second, .val (.int p5), .val (.ref b1), .val (.ref b4), .val (.ref b9), .val (.ref b16), .val (.int (0 : Int32)), .val (.int (1 : Int32)), .val va, .val vb, .val vc, .val (.int (p3 ^^^ (-1 : Int32)).toInt8.toInt32), .val (.long (p4 ^^^ (-1 : Int64))), .second] [(.int (0 : Int32)), (.ref b16)])) rfl (by rw [hml]; rfl) (Steps.refl _) (argsL := [(.int (0 : Int32))]) (rest := []) (lenOf pd00_2 rfl) rfl (by show 2 * 0 + _ ≤ _; exact Nat.le_of_eq rfl) (hb hby at_147) (fun _ _ => ⟨rfl, rfl, (by decide : 7 + 0 ≤ _), (by decide : 15 + 0 ≤ _)⟩)
    dsimp only [Pt.U, Pt.locs, Pt.cells, Pt.slots] at X39 l39 y39 z39 st39 hQ39
    subst l39 y39 z39
    obtain ⟨rfl, N39q, e39⟩ := hQ39
    have N39 := Fr.app N38 N39q
    obtain ⟨cq40, kq40, q40a, q40b, q40c⟩ := isOf hZ e39 C38.1
    obtain ⟨_, _, ⟨T40, L40, k40, n40⟩, -, X40, ⟨Lc40, hQ40, l40, y40, z40⟩, st40⟩ := X39.virtualBack hx (y := (⟨"com/example/hornbrook/hornbrook/Cells", "word", "(I)J"⟩ : MethodName)) (z := (⟨"com/example/hornbrook/hornbrook/Cells", "word", "(I)J"⟩ : MethodName)) hown (mvT hZ (hw _ (List.mem_of_getElem? (i := 31) rfl))) (mvT hZ (hw _ (List.mem_of_getElem? (i := 32) rfl))) (notFace_of_selects (args := #[]) (mvT hZ (hw _ (List.mem_of_getElem? (i := 34) rfl)))) (mvT hZ (hw _ (List.mem_of_getElem? (i := 34) rfl))) (mvT hZ (hw _ (List.mem_of_getElem? (i := 33) rfl))) (by decide) (backOf (W := 0) (rm40 l Z a0 hw [] b16 ka wa ba ck cw cb (nar .byte p3.toInt8.toInt32) (nar .byte (p3 ^^^ (-1 : Int32)).toInt8.toInt32) p4 (p4 ^^^ (-1 : Int64)) vb vc T38.heap n0 (Nat.le_trans (Nat.le_trans (Nat.le_trans Z24 KC25.1) KC37.1) KC38.1) C38) hZ (hw _ (List.mem_of_getElem? (i := 35) rfl)) (hw _ (List.mem_of_getElem? (i := 3) rfl)) (by decide) (by decide)) q40a q40c (g := (mkF m 160 #[.val (.int p0), .val (.int p1), .val (.long p2), .second, .val (.int p3), .val (.long p4), .second, .val (.int p5), .val (.ref b1), .val (.ref b4), .val (.ref b9), .val (.ref b16), .val (.int (0 : Int32)), .val (.int (1 : Int32)), .val va, .val vb, .val vc, .val (.int (p3 ^^^ (-1 : Int32)).toInt8.toInt32), .val (.long (p4 ^^^ (-1 : Int64))), .second] [(.int (0 : Int32)), (.ref b16)])) rfl (by rw [hml]; rfl) (Steps.refl _) (argsL := [(.int (0 : Int32))]) (rest := []) (lenOf pd00_3 rfl) rfl (by show 2 * 0 + _ ≤ _; exact Nat.le_of_eq rfl) (hb hby at_160) (fun _ _ => ⟨rfl, e39, (by decide : 7 + 0 ≤ _), (by decide : 15 + 0 ≤ _)⟩)
    dsimp only [Pt.U, Pt.locs, Pt.cells, Pt.slots] at X40 l40 y40 z40 st40 hQ40
    subst l40 y40 z40
    obtain ⟨rfl, N40q, e40⟩ := hQ40
    have N40 := Fr.app N39 N40q
    obtain ⟨cq41, kq41, q41a, q41b, q41c⟩ := isOf hZ e40 C38.1
    obtain ⟨_, _, ⟨T41, L41, k41, n41⟩, -, X41, ⟨Lc41, hQ41, l41, y41, z41⟩, st41⟩ := X40.virtualBack hx (y := (⟨"com/example/hornbrook/hornbrook/Cells", "bytes", "(I)[B"⟩ : MethodName)) (z := (⟨"com/example/hornbrook/hornbrook/Cells", "bytes", "(I)[B"⟩ : MethodName)) hown (mvT hZ (hw _ (List.mem_of_getElem? (i := 36) rfl))) (mvT hZ (hw _ (List.mem_of_getElem? (i := 37) rfl))) (notFace_of_selects (args := #[]) (mvT hZ (hw _ (List.mem_of_getElem? (i := 39) rfl)))) (mvT hZ (hw _ (List.mem_of_getElem? (i := 39) rfl))) (mvT hZ (hw _ (List.mem_of_getElem? (i := 38) rfl))) (by decide) (backOf (W := 0) (rm50 l Z a0 hw [] b16 ka wa ba ck cw cb (nar .byte p3.toInt8.toInt32) (nar .byte (p3 ^^^ (-1 : Int32)).toInt8.toInt32) p4 (p4 ^^^ (-1 : Int64)) vb vc T38.heap n0 (Nat.le_trans (Nat.le_trans (Nat.le_trans Z24 KC25.1) KC37.1) KC38.1) C38) hZ (hw _ (List.mem_of_getElem? (i := 40) rfl)) (hw _ (List.mem_of_getElem? (i := 3) rfl)) (by decide) (by decide)) q41a q41c (g := (mkF m 173 #[.val (.int p0), .val (.int p1), .val (.long p2), .second, .val (.int p3), .val (.long p4), .second, .val (.int p5), .val (.ref b1), .val (.ref b4), .val (.ref b9), .val (.ref b16), .val (.int (0 : Int32)), .val (.int (1 : Int32)), .val va, .val vb, .val vc, .val (.int (p3 ^^^ (-1 : Int32)).toInt8.toInt32), .val (.long (p4 ^^^ (-1 : Int64))), .second] [(.int (0 : Int32)), (.ref b16)])) rfl (by rw [hml]; rfl) (Steps.refl _) (argsL := [(.int (0 : Int32))]) (rest := []) (lenOf pd00_4 rfl) rfl (by show 2 * 0 + _ ≤ _; exact Nat.le_of_eq rfl) (hb hby at_173) (fun _ _ => ⟨rfl, e40, (by decide : 7 + 0 ≤ _), (by decide : 15 + 0 ≤ _)⟩)
    dsimp only [Pt.U, Pt.locs, Pt.cells, Pt.slots] at X41 l41 y41 z41 st41 hQ41
    subst l41 y41 z41
    obtain ⟨rfl, N41q, e41⟩ := hQ41
    have N41 := Fr.app N40 N41q
    obtain ⟨cq42, kq42, q42a, q42b, q42c⟩ := isOf hZ e41 C38.1
    obtain ⟨_, _, ⟨T42, L42, k42, n42⟩, -, X42, ⟨Lc42, hQ42, l42, y42, z42⟩, st42⟩ := X41.virtualBack hx (y := (⟨"com/example/hornbrook/hornbrook/Cells", "kind", "(I)B"⟩ : MethodName)) (z := (⟨"com/example/hornbrook/hornbrook/Cells", "kind", "(I)B"⟩ : MethodName)) hown (mvT hZ (hw _ (List.mem_of_getElem? (i := 26) rfl))) (mvT hZ (hw _ (List.mem_of_getElem? (i := 27) rfl))) (notFace_of_selects (args := #[]) (mvT hZ (hw _ (List.mem_of_getElem? (i := 29) rfl)))) (mvT hZ (hw _ (List.mem_of_getElem? (i := 29) rfl))) (mvT hZ (hw _ (List.mem_of_getElem? (i := 28) rfl))) (by decide) (backOf (W := 0) (rm31 l Z a0 hw [] b16 ka wa ba ck cw cb (nar .byte p3.toInt8.toInt32) (nar .byte (p3 ^^^ (-1 : Int32)).toInt8.toInt32) p4 (p4 ^^^ (-1 : Int64)) vb vc T38.heap n0 (Nat.le_trans (Nat.le_trans (Nat.le_trans Z24 KC25.1) KC37.1) KC38.1) C38) hZ (hw _ (List.mem_of_getElem? (i := 30) rfl)) (hw _ (List.mem_of_getElem? (i := 3) rfl)) (by decide) (by decide)) q42a q42c (g := (mkF m 185 #[.val (.int p0), .val (.int p1), .val (.long p2), .second, .val (.int p3), .val (.long p4), .second, .val (.int p5), .val (.ref b1), .val (.ref b4), .val (.ref b9), .val (.ref b16), .val (.int (0 : Int32)), .val (.int (1 : Int32)), .val va, .val vb, .val vc, .val (.int (p3 ^^^ (-1 : Int32)).toInt8.toInt32), .val (.long (p4 ^^^ (-1 : Int64))), .second] [(.int (1 : Int32)), (.ref b16)])) rfl (by rw [hml]; rfl) (Steps.refl _) (argsL := [(.int (1 : Int32))]) (rest := []) (lenOf pd00_2 rfl) rfl (by show 2 * 0 + _ ≤ _; exact Nat.le_of_eq rfl) (hb hby at_185) (fun _ _ => ⟨rfl, e41, (by decide : 7 + 0 ≤ _), (by decide : 15 + 0 ≤ _)⟩)
    dsimp only [Pt.U, Pt.locs, Pt.cells, Pt.slots] at X42 l42 y42 z42 st42 hQ42
    subst l42 y42 z42
    obtain ⟨rfl, N42q, e42⟩ := hQ42
    have N42 := Fr.app N41 N42q
    obtain ⟨cq43, kq43, q43a, q43b, q43c⟩ := isOf hZ e42 C38.1
    obtain ⟨_, _, ⟨T43, L43, k43, n43⟩, -, X43, ⟨Lc43, hQ43, l43, y43, z43⟩, st43⟩ := X42.virtualBack hx (y := (⟨"com/example/hornbrook/hornbrook/Cells", "word", "(I)J"⟩ : MethodName)) (z := (⟨"com/example/hornbrook/hornbrook/Cells", "word", "(I)J"⟩ : MethodName)) hown (mvT hZ (hw _ (List.mem_of_getElem? (i := 31) rfl))) (mvT hZ (hw _ (List.mem_of_getElem? (i := 32) rfl))) (notFace_of_selects (args := #[]) (mvT hZ (hw _ (List.mem_of_getElem? (i := 34) rfl)))) (mvT hZ (hw _ (List.mem_of_getElem? (i := 34) rfl))) (mvT hZ (hw _ (List.mem_of_getElem? (i := 33) rfl))) (by decide) (backOf (W := 0) (rm41 l Z a0 hw [] b16 ka wa ba ck cw cb (nar .byte p3.toInt8.toInt32) (nar .byte (p3 ^^^ (-1 : Int32)).toInt8.toInt32) p4 (p4 ^^^ (-1 : Int64)) vb vc T38.heap n0 (Nat.le_trans (Nat.le_trans (Nat.le_trans Z24 KC25.1) KC37.1) KC38.1) C38) hZ (hw _ (List.mem_of_getElem? (i := 35) rfl)) (hw _ (List.mem_of_getElem? (i := 3) rfl)) (by decide) (by decide)) q43a q43c (g := (mkF m 197 #[.val (.int p0), .val (.int p1), .val (.long p2), .second, .val (.int p3), .val (.long p4), .second, .val (.int p5), .val (.ref b1), .val (.ref b4), .val (.ref b9), .val (.ref b16), .val (.int (0 : Int32)), .val (.int (1 : Int32)), .val va, .val vb, .val vc, .val (.int (p3 ^^^ (-1 : Int32)).toInt8.toInt32), .val (.long (p4 ^^^ (-1 : Int64))), .second] [(.int (1 : Int32)), (.ref b16)])) rfl (by rw [hml]; rfl) (Steps.refl _) (argsL := [(.int (1 : Int32))]) (rest := []) (lenOf pd00_3 rfl) rfl (by show 2 * 0 + _ ≤ _; exact Nat.le_of_eq rfl) (hb hby at_197) (fun _ _ => ⟨rfl, e42, (by decide : 7 + 0 ≤ _), (by decide : 15 + 0 ≤ _)⟩)
    dsimp only [Pt.U, Pt.locs, Pt.cells, Pt.slots] at X43 l43 y43 z43 st43 hQ43
    subst l43 y43 z43
    obtain ⟨rfl, N43q, e43⟩ := hQ43
    have N43 := Fr.app N42 N43q
    obtain ⟨cq44, kq44, q44a, q44b, q44c⟩ := isOf hZ e43 C38.1
    obtain ⟨_, _, ⟨T44, L44, k44, n44⟩, -, X44, ⟨Lc44, hQ44, l44, y44, z44⟩, st44⟩ := X43.virtualBack hx (y := (⟨"com/example/hornbrook/hornbrook/Cells", "bytes", "(I)[B"⟩ : MethodName)) (z := (⟨"com/example/hornbrook/hornbrook/Cells", "bytes", "(I)[B"⟩ : MethodName)) hown (mvT hZ (hw _ (List.mem_of_getElem? (i := 36) rfl))) (mvT hZ (hw _ (List.mem_of_getElem? (i := 37) rfl))) (notFace_of_selects (args := #[]) (mvT hZ (hw _ (List.mem_of_getElem? (i := 39) rfl)))) (mvT hZ (hw _ (List.mem_of_getElem? (i := 39) rfl))) (mvT hZ (hw _ (List.mem_of_getElem? (i := 38) rfl))) (by decide) (backOf (W := 0) (rm51 l Z a0 hw [] b16 ka wa ba ck cw cb (nar .byte p3.toInt8.toInt32) (nar .byte (p3 ^^^ (-1 : Int32)).toInt8.toInt32) p4 (p4 ^^^ (-1 : Int64)) vb vc T38.heap n0 (Nat.le_trans (Nat.le_trans (Nat.le_trans Z24 KC25.1) KC37.1) KC38.1) C38) hZ (hw _ (List.mem_of_getElem? (i := 40) rfl)) (hw _ (List.mem_of_getElem? (i := 3) rfl)) (by decide) (by decide)) q44a q44c (g := (mkF m 210 #[.val (.int p0), .val (.int p1), .val (.long p2), .second, .val (.int p3), .val (.long p4), .second, .val (.int p5), .val (.ref b1), .val (.ref b4), .val (.ref b9), .val (.ref b16), .val (.int (0 : Int32)), .val (.int (1 : Int32)), .val va, .val vb, .val vc, .val (.int (p3 ^^^ (-1 : Int32)).toInt8.toInt32), .val (.long (p4 ^^^ (-1 : Int64))), .second] [(.int (1 : Int32)), (.ref b16)])) rfl (by rw [hml]; rfl) (Steps.refl _) (argsL := [(.int (1 : Int32))]) (rest := []) (lenOf pd00_4 rfl) rfl (by show 2 * 0 + _ ≤ _; exact Nat.le_of_eq rfl) (hb hby at_210) (fun _ _ => ⟨rfl, e43, (by decide : 7 + 0 ≤ _), (by decide : 15 + 0 ≤ _)⟩)
    dsimp only [Pt.U, Pt.locs, Pt.cells, Pt.slots] at X44 l44 y44 z44 st44 hQ44
    subst l44 y44 z44
    obtain ⟨rfl, N44q, e44⟩ := hQ44
    have N44 := Fr.app N43 N44q
    have pre45 : ∀ tg_, Steps p.tables e below (T44.setTop (mkF m 223 #[.val (.int p0), .val (.int p1), .val (.long p2), .second, .val (.int p3), .val (.long p4), .second, .val (.int p5), .val (.ref b1), .val (.ref b4), .val (.ref b9), .val (.ref b16), .val (.int (0 : Int32)), .val (.int (1 : Int32)), .val va, .val vb, .val vc, .val (.int (p3 ^^^ (-1 : Int32)).toInt8.toInt32), .val (.long (p4 ^^^ (-1 : Int64))), .second] [(.int (1 : Int32))])) tg_ → Steps p.tables e below (s₁.setTop (entryFrame m #[(.int p0), (.int p1), (.long p2), (.int p3), (.long p4), (.int p5)] maxLocals)) tg_ := by
      intro tg_ kt
      refine pre35 _ ?_
      show Steps p.tables e below (T25.setTop (mkF m 101 #[.val (.int p0), .val (.int p1), .val (.long p2), .second, .val (.int p3), .val (.long p4), .second, .val (.int p5), .val (.ref b1), .val (.ref b4), .val (.ref b9), .val (.ref b16), .val (.int (0 : Int32)), .val (.int (1 : Int32)), .val va, .val vb, .val vc, .val (.int (p3 ^^^ (-1 : Int32)).toInt8.toInt32), .val (.long (p4 ^^^ (-1 : Int64))), .second] [(.int (p5 &&& (8 : Int32)))])) _
      refine XS.ifYes X25.here hx rfl (pc0 := 101) (pc' := 116) rfl (hb hby at_101) rfl (XT.i0_eq_t hc101_36) (by decide) (by decide) ?_
      show Steps p.tables e below (T25.setTop (mkF m 116 #[.val (.int p0), .val (.int p1), .val (.long p2), .second, .val (.int p3), .val (.long p4), .second, .val (.int p5), .val (.ref b1), .val (.ref b4), .val (.ref b9), .val (.ref b16), .val (.int (0 : Int32)), .val (.int (1 : Int32)), .val va, .val vb, .val vc, .val (.int (p3 ^^^ (-1 : Int32)).toInt8.toInt32), .val (.long (p4 ^^^ (-1 : Int64))), .second] [])) _
      refine XS.aload X25.here hx rfl (hb hby at_116) rfl rfl ?_
      show Steps p.tables e below (T25.setTop (mkF m 118 #[.val (.int p0), .val (.int p1), .val (.long p2), .second, .val (.int p3), .val (.long p4), .second, .val (.int p5), .val (.ref b1), .val (.ref b4), .val (.ref b9), .val (.ref b16), .val (.int (0 : Int32)), .val (.int (1 : Int32)), .val va, .val vb, .val vc, .val (.int (p3 ^^^ (-1 : Int32)).toInt8.toInt32), .val (.long (p4 ^^^ (-1 : Int64))), .second] [(.ref b16)])) _
      refine XS.iload X25.here hx rfl (hb hby at_118) rfl ?_
      show Steps p.tables e below (T25.setTop (mkF m 120 #[.val (.int p0), .val (.int p1), .val (.long p2), .second, .val (.int p3), .val (.long p4), .second, .val (.int p5), .val (.ref b1), .val (.ref b4), .val (.ref b9), .val (.ref b16), .val (.int (0 : Int32)), .val (.int (1 : Int32)), .val va, .val vb, .val vc, .val (.int (p3 ^^^ (-1 : Int32)).toInt8.toInt32), .val (.long (p4 ^^^ (-1 : Int64))), .second] [(.int (1 : Int32)), (.ref b16)])) _
      refine XS.iload X25.here hx rfl (hb hby at_120) rfl ?_
      show Steps p.tables e below (T25.setTop (mkF m 122 #[.val (.int p0), .val (.int p1), .val (.long p2), .second, .val (.int p3), .val (.long p4), .second, .val (.int p5), .val (.ref b1), .val (.ref b4), .val (.ref b9), .val (.ref b16), .val (.int (0 : Int32)), .val (.int (1 : Int32)), .val va, .val vb, .val vc, .val (.int (p3 ^^^ (-1 : Int32)).toInt8.toInt32), .val (.long (p4 ^^^ (-1 : Int64))), .second] [(.int (p3 ^^^ (-1 : Int32)).toInt8.toInt32), (.int (1 : Int32)), (.ref b16)])) _
      refine XS.lload X25.here hx rfl (hb hby at_122) rfl ?_
      show Steps p.tables e below (T25.setTop (mkF m 124 #[.val (.int p0), .val (.int p1), .val (.long p2), .second, .val (.int p3), .val (.long p4), .second, .val (.int p5), .val (.ref b1), .val (.ref b4), .val (.ref b9), .val (.ref b16), .val (.int (0 : Int32)), .val (.int (1 : Int32)), .val va, .val vb, .val vc, .val (.int (p3 ^^^ (-1 : Int32)).toInt8.toInt32), .val (.long (p4 ^^^ (-1 : Int64))), .second] [(.long (p4 ^^^ (-1 : Int64))), (.int (p3 ^^^ (-1 : Int32)).toInt8.toInt32), (.int (1 : Int32)), (.ref b16)])) _
      refine XS.aload X25.here hx rfl (hb hby at_124) rfl Bvc.isRef ?_
      show Steps p.tables e below (T25.setTop (mkF m 126 #[.val (.int p0), .val (.int p1), .val (.long p2), .second, .val (.int p3), .val (.long p4), .second, .val (.int p5), .val (.ref b1), .val (.ref b4), .val (.ref b9), .val (.ref b16), .val (.int (0 : Int32)), .val (.int (1 : Int32)), .val va, .val vb, .val vc, .val (.int (p3 ^^^ (-1 : Int32)).toInt8.toInt32), .val (.long (p4 ^^^ (-1 : Int64))), .second] [vc, (.long (p4 ^^^ (-1 : Int64))), (.int (p3 ^^^ (-1 : Int32)).toInt8.toInt32), (.int (1 : Int32)), (.ref b16)])) _
      refine st37.trans ?_
      show Steps p.tables e below (T37.setTop (mkF m 129 #[.val (.int p0), .val (.int p1), .val (.long p2), .second, .val (.int p3), .val (.long p4), .second, .val (.int p5), .val (.ref b1), .val (.ref b4), .val (.ref b9), .val (.ref b16), .val (.int (0 : Int32)), .val (.int (1 : Int32)), .val va, .val vb, .val vc, .val (.int (p3 ^^^ (-1 : Int32)).toInt8.toInt32), .val (.long (p4 ^^^ (-1 : Int64))), .second] [])) _
      refine XS.aload X37.here hx rfl (hb hby at_129) rfl rfl ?_
      show Steps p.tables e below (T37.setTop (mkF m 131 #[.val (.int p0), .val (.int p1), .val (.long p2), .second, .val (.int p3), .val (.long p4), .second, .val (.int p5), .val (.ref b1), .val (.ref b4), .val (.ref b9), .val (.ref b16), .val (.int (0 : Int32)), .val (.int (1 : Int32)), .val va, .val vb, .val vc, .val (.int (p3 ^^^ (-1 : Int32)).toInt8.toInt32), .val (.long (p4 ^^^ (-1 : Int64))), .second] [(.ref b16)])) _
      refine XS.iload X37.here hx rfl (hb hby at_131) rfl ?_
      show Steps p.tables e below (T37.setTop (mkF m 133 #[.val (.int p0), .val (.int p1), .val (.long p2), .second, .val (.int p3), .val (.long p4), .second, .val (.int p5), .val (.ref b1), .val (.ref b4), .val (.ref b9), .val (.ref b16), .val (.int (0 : Int32)), .val (.int (1 : Int32)), .val va, .val vb, .val vc, .val (.int (p3 ^^^ (-1 : Int32)).toInt8.toInt32), .val (.long (p4 ^^^ (-1 : Int64))), .second] [(.int (0 : Int32)), (.ref b16)])) _
      refine XS.iload X37.here hx rfl (hb hby at_133) rfl ?_
      show Steps p.tables e below (T37.setTop (mkF m 135 #[.val (.int p0), .val (.int p1), .val (.long p2), .second, .val (.int p3), .val (.long p4), .second, .val (.int p5), .val (.ref b1), .val (.ref b4), .val (.ref b9), .val (.ref b16), .val (.int (0 : Int32)), .val (.int (1 : Int32)), .val va, .val vb, .val vc, .val (.int (p3 ^^^ (-1 : Int32)).toInt8.toInt32), .val (.long (p4 ^^^ (-1 : Int64))), .second] [(.int p3), (.int (0 : Int32)), (.ref b16)])) _
      refine XS.i2b X37.here hx rfl (hb hby at_135) rfl ?_
      show Steps p.tables e below (T37.setTop (mkF m 136 #[.val (.int p0), .val (.int p1), .val (.long p2), .second, .val (.int p3), .val (.long p4), .second, .val (.int p5), .val (.ref b1), .val (.ref b4), .val (.ref b9), .val (.ref b16), .val (.int (0 : Int32)), .val (.int (1 : Int32)), .val va, .val vb, .val vc, .val (.int (p3 ^^^ (-1 : Int32)).toInt8.toInt32), .val (.long (p4 ^^^ (-1 : Int64))), .second] [(.int p3.toInt8.toInt32), (.int (0 : Int32)), (.ref b16)])) _
      refine XS.lload X37.here hx rfl (hb hby at_136) rfl ?_
      show Steps p.tables e below (T37.setTop (mkF m 138 #[.val (.int p0), .val (.int p1), .val (.long p2), .second, .val (.int p3), .val (.long p4), .second, .val (.int p5), .val (.ref b1), .val (.ref b4), .val (.ref b9), .val (.ref b16), .val (.int (0 : Int32)), .val (.int (1 : Int32)), .val va, .val vb, .val vc, .val (.int (p3 ^^^ (-1 : Int32)).toInt8.toInt32), .val (.long (p4 ^^^ (-1 : Int64))), .second] [(.long p4), (.int p3.toInt8.toInt32), (.int (0 : Int32)), (.ref b16)])) _
      refine XS.aload X37.here hx rfl (hb hby at_138) rfl Bvb.isRef ?_
      show Steps p.tables e below (T37.setTop (mkF m 140 #[.val (.int p0), .val (.int p1), .val (.long p2), .second, .val (.int p3), .val (.long p4), .second, .val (.int p5), .val (.ref b1), .val (.ref b4), .val (.ref b9), .val (.ref b16), .val (.int (0 : Int32)), .val (.int (1 : Int32)), .val va, .val vb, .val vc, .val (.int (p3 ^^^ (-1 : Int32)).toInt8.toInt32), .val (.long (p4 ^^^ (-1 : Int64))), .second] [vb, (.long p4), (.int p3.toInt8.toInt32), (.int (0 : Int32)), (.ref b16)])) _
      refine st38.trans ?_
      show Steps p.tables e below (T38.setTop (mkF m 143 #[.val (.int p0), .val (.int p1), .val (.long p2), .second, .val (.int p3), .val (.long p4), .second, .val (.int p5), .val (.ref b1), .val (.ref b4), .val (.ref b9), .val (.ref b16), .val (.int (0 : Int32)), .val (.int (1 : Int32)), .val va, .val vb, .val vc, .val (.int (p3 ^^^ (-1 : Int32)).toInt8.toInt32), .val (.long (p4 ^^^ (-1 : Int64))), .second] [])) _
      refine XS.aload X38.here hx rfl (hb hby at_143) rfl rfl ?_
      show Steps p.tables e below (T38.setTop (mkF m 145 #[.val (.int p0), .val (.int p1), .val (.long p2), .second, .val (.int p3), .val (.long p4), .second, .val (.int p5), .val (.ref b1), .val (.ref b4), .val (.ref b9), .val (.ref b16), .val (.int (0 : Int32)), .val (.int (1 : Int32)), .val va, .val vb, .val vc, .val (.int (p3 ^^^ (-1 : Int32)).toInt8.toInt32), .val (.long (p4 ^^^ (-1 : Int64))), .second] [(.ref b16)])) _
      refine XS.iload X38.here hx rfl (hb hby at_145) rfl ?_
      show Steps p.tables e below (T38.setTop (mkF m 147 #[.val (.int p0), .val (.int p1), .val (.long p2), .second, .val (.int p3), .val (.long p4), .second, .val (.int p5), .val (.ref b1), .val (.ref b4), .val (.ref b9), .val (.ref b16), .val (.int (0 : Int32)), .val (.int (1 : Int32)), .val va, .val vb, .val vc, .val (.int (p3 ^^^ (-1 : Int32)).toInt8.toInt32), .val (.long (p4 ^^^ (-1 : Int64))), .second] [(.int (0 : Int32)), (.ref b16)])) _
      refine st39.trans ?_
      show Steps p.tables e below (T39.setTop (mkF m 150 #[.val (.int p0), .val (.int p1), .val (.long p2), .second, .val (.int p3), .val (.long p4), .second, .val (.int p5), .val (.ref b1), .val (.ref b4), .val (.ref b9), .val (.ref b16), .val (.int (0 : Int32)), .val (.int (1 : Int32)), .val va, .val vb, .val vc, .val (.int (p3 ^^^ (-1 : Int32)).toInt8.toInt32), .val (.long (p4 ^^^ (-1 : Int64))), .second] [(.int (nar .byte (nar .byte p3.toInt8.toInt32)))])) _
      refine XS.iload X39.here hx rfl (hb hby at_150) rfl ?_
      show Steps p.tables e below (T39.setTop (mkF m 152 #[.val (.int p0), .val (.int p1), .val (.long p2), .second, .val (.int p3), .val (.long p4), .second, .val (.int p5), .val (.ref b1), .val (.ref b4), .val (.ref b9), .val (.ref b16), .val (.int (0 : Int32)), .val (.int (1 : Int32)), .val va, .val vb, .val vc, .val (.int (p3 ^^^ (-1 : Int32)).toInt8.toInt32), .val (.long (p4 ^^^ (-1 : Int64))), .second] [(.int p3), (.int (nar .byte (nar .byte p3.toInt8.toInt32)))])) _
      refine XS.i2b X39.here hx rfl (hb hby at_152) rfl ?_
      show Steps p.tables e below (T39.setTop (mkF m 153 #[.val (.int p0), .val (.int p1), .val (.long p2), .second, .val (.int p3), .val (.long p4), .second, .val (.int p5), .val (.ref b1), .val (.ref b4), .val (.ref b9), .val (.ref b16), .val (.int (0 : Int32)), .val (.int (1 : Int32)), .val va, .val vb, .val vc, .val (.int (p3 ^^^ (-1 : Int32)).toInt8.toInt32), .val (.long (p4 ^^^ (-1 : Int64))), .second] [(.int p3.toInt8.toInt32), (.int (nar .byte (nar .byte p3.toInt8.toInt32)))])) _
      refine XS.icmpNo X39.here hx rfl (hb hby at_153) rfl (XT.ii_ne_f (by simp only [own_nb])) ?_
      show Steps p.tables e below (T39.setTop (mkF m 156 #[.val (.int p0), .val (.int p1), .val (.long p2), .second, .val (.int p3), .val (.long p4), .second, .val (.int p5), .val (.ref b1), .val (.ref b4), .val (.ref b9), .val (.ref b16), .val (.int (0 : Int32)), .val (.int (1 : Int32)), .val va, .val vb, .val vc, .val (.int (p3 ^^^ (-1 : Int32)).toInt8.toInt32), .val (.long (p4 ^^^ (-1 : Int64))), .second] [])) _
      refine XS.aload X39.here hx rfl (hb hby at_156) rfl rfl ?_
      show Steps p.tables e below (T39.setTop (mkF m 158 #[.val (.int p0), .val (.int p1), .val (.long p2), .second, .val (.int p3), .val (.long p4), .second, .val (.int p5), .val (.ref b1), .val (.ref b4), .val (.ref b9), .val (.ref b16), .val (.int (0 : Int32)), .val (.int (1 : Int32)), .val va, .val vb, .val vc, .val (.int (p3 ^^^ (-1 : Int32)).toInt8.toInt32), .val (.long (p4 ^^^ (-1 : Int64))), .second] [(.ref b16)])) _
      refine XS.iload X39.here hx rfl (hb hby at_158) rfl ?_
      show Steps p.tables e below (T39.setTop (mkF m 160 #[.val (.int p0), .val (.int p1), .val (.long p2), .second, .val (.int p3), .val (.long p4), .second, .val (.int p5), .val (.ref b1), .val (.ref b4), .val (.ref b9), .val (.ref b16), .val (.int (0 : Int32)), .val (.int (1 : Int32)), .val va, .val vb, .val vc, .val (.int (p3 ^^^ (-1 : Int32)).toInt8.toInt32), .val (.long (p4 ^^^ (-1 : Int64))), .second] [(.int (0 : Int32)), (.ref b16)])) _
      refine st40.trans ?_
      show Steps p.tables e below (T40.setTop (mkF m 163 #[.val (.int p0), .val (.int p1), .val (.long p2), .second, .val (.int p3), .val (.long p4), .second, .val (.int p5), .val (.ref b1), .val (.ref b4), .val (.ref b9), .val (.ref b16), .val (.int (0 : Int32)), .val (.int (1 : Int32)), .val va, .val vb, .val vc, .val (.int (p3 ^^^ (-1 : Int32)).toInt8.toInt32), .val (.long (p4 ^^^ (-1 : Int64))), .second] [(.long p4)])) _
      refine XS.lload X40.here hx rfl (hb hby at_163) rfl ?_
      show Steps p.tables e below (T40.setTop (mkF m 165 #[.val (.int p0), .val (.int p1), .val (.long p2), .second, .val (.int p3), .val (.long p4), .second, .val (.int p5), .val (.ref b1), .val (.ref b4), .val (.ref b9), .val (.ref b16), .val (.int (0 : Int32)), .val (.int (1 : Int32)), .val va, .val vb, .val vc, .val (.int (p3 ^^^ (-1 : Int32)).toInt8.toInt32), .val (.long (p4 ^^^ (-1 : Int64))), .second] [(.long p4), (.long p4)])) _
      refine XT.lcmp X40.here hx rfl (hb hby at_165) rfl ?_
      show Steps p.tables e below (T40.setTop (mkF m 166 #[.val (.int p0), .val (.int p1), .val (.long p2), .second, .val (.int p3), .val (.long p4), .second, .val (.int p5), .val (.ref b1), .val (.ref b4), .val (.ref b9), .val (.ref b16), .val (.int (0 : Int32)), .val (.int (1 : Int32)), .val va, .val vb, .val vc, .val (.int (p3 ^^^ (-1 : Int32)).toInt8.toInt32), .val (.long (p4 ^^^ (-1 : Int64))), .second] [(.int (XT.cmpL p4 p4))])) _
      refine XS.ifNo X40.here hx rfl (hb hby at_166) rfl (XT.ll_ne_f rfl) ?_
      show Steps p.tables e below (T40.setTop (mkF m 169 #[.val (.int p0), .val (.int p1), .val (.long p2), .second, .val (.int p3), .val (.long p4), .second, .val (.int p5), .val (.ref b1), .val (.ref b4), .val (.ref b9), .val (.ref b16), .val (.int (0 : Int32)), .val (.int (1 : Int32)), .val va, .val vb, .val vc, .val (.int (p3 ^^^ (-1 : Int32)).toInt8.toInt32), .val (.long (p4 ^^^ (-1 : Int64))), .second] [])) _
      refine XS.aload X40.here hx rfl (hb hby at_169) rfl rfl ?_
      show Steps p.tables e below (T40.setTop (mkF m 171 #[.val (.int p0), .val (.int p1), .val (.long p2), .second, .val (.int p3), .val (.long p4), .second, .val (.int p5), .val (.ref b1), .val (.ref b4), .val (.ref b9), .val (.ref b16), .val (.int (0 : Int32)), .val (.int (1 : Int32)), .val va, .val vb, .val vc, .val (.int (p3 ^^^ (-1 : Int32)).toInt8.toInt32), .val (.long (p4 ^^^ (-1 : Int64))), .second] [(.ref b16)])) _
      refine XS.iload X40.here hx rfl (hb hby at_171) rfl ?_
      show Steps p.tables e below (T40.setTop (mkF m 173 #[.val (.int p0), .val (.int p1), .val (.long p2), .second, .val (.int p3), .val (.long p4), .second, .val (.int p5), .val (.ref b1), .val (.ref b4), .val (.ref b9), .val (.ref b16), .val (.int (0 : Int32)), .val (.int (1 : Int32)), .val va, .val vb, .val vc, .val (.int (p3 ^^^ (-1 : Int32)).toInt8.toInt32), .val (.long (p4 ^^^ (-1 : Int64))), .second] [(.int (0 : Int32)), (.ref b16)])) _
      refine st41.trans ?_
      show Steps p.tables e below (T41.setTop (mkF m 176 #[.val (.int p0), .val (.int p1), .val (.long p2), .second, .val (.int p3), .val (.long p4), .second, .val (.int p5), .val (.ref b1), .val (.ref b4), .val (.ref b9), .val (.ref b16), .val (.int (0 : Int32)), .val (.int (1 : Int32)), .val va, .val vb, .val vc, .val (.int (p3 ^^^ (-1 : Int32)).toInt8.toInt32), .val (.long (p4 ^^^ (-1 : Int64))), .second] [vb])) _
      refine XS.aload X41.here hx rfl (hb hby at_176) rfl Bvb.isRef ?_
      show Steps p.tables e below (T41.setTop (mkF m 178 #[.val (.int p0), .val (.int p1), .val (.long p2), .second, .val (.int p3), .val (.long p4), .second, .val (.int p5), .val (.ref b1), .val (.ref b4), .val (.ref b9), .val (.ref b16), .val (.int (0 : Int32)), .val (.int (1 : Int32)), .val va, .val vb, .val vc, .val (.int (p3 ^^^ (-1 : Int32)).toInt8.toInt32), .val (.long (p4 ^^^ (-1 : Int64))), .second] [vb, vb])) _
      refine XT.acmpNo X41.here hx rfl (hb hby at_178) rfl Bvb.isRef Bvb.isRef (XT.aa_ne_f rfl) ?_
      show Steps p.tables e below (T41.setTop (mkF m 181 #[.val (.int p0), .val (.int p1), .val (.long p2), .second, .val (.int p3), .val (.long p4), .second, .val (.int p5), .val (.ref b1), .val (.ref b4), .val (.ref b9), .val (.ref b16), .val (.int (0 : Int32)), .val (.int (1 : Int32)), .val va, .val vb, .val vc, .val (.int (p3 ^^^ (-1 : Int32)).toInt8.toInt32), .val (.long (p4 ^^^ (-1 : Int64))), .second] [])) _
      refine XS.aload X41.here hx rfl (hb hby at_181) rfl rfl ?_
      show Steps p.tables e below (T41.setTop (mkF m 183 #[.val (.int p0), .val (.int p1), .val (.long p2), .second, .val (.int p3), .val (.long p4), .second, .val (.int p5), .val (.ref b1), .val (.ref b4), .val (.ref b9), .val (.ref b16), .val (.int (0 : Int32)), .val (.int (1 : Int32)), .val va, .val vb, .val vc, .val (.int (p3 ^^^ (-1 : Int32)).toInt8.toInt32), .val (.long (p4 ^^^ (-1 : Int64))), .second] [(.ref b16)])) _
      refine XS.iload X41.here hx rfl (hb hby at_183) rfl ?_
      show Steps p.tables e below (T41.setTop (mkF m 185 #[.val (.int p0), .val (.int p1), .val (.long p2), .second, .val (.int p3), .val (.long p4), .second, .val (.int p5), .val (.ref b1), .val (.ref b4), .val (.ref b9), .val (.ref b16), .val (.int (0 : Int32)), .val (.int (1 : Int32)), .val va, .val vb, .val vc, .val (.int (p3 ^^^ (-1 : Int32)).toInt8.toInt32), .val (.long (p4 ^^^ (-1 : Int64))), .second] [(.int (1 : Int32)), (.ref b16)])) _
      refine st42.trans ?_
      show Steps p.tables e below (T42.setTop (mkF m 188 #[.val (.int p0), .val (.int p1), .val (.long p2), .second, .val (.int p3), .val (.long p4), .second, .val (.int p5), .val (.ref b1), .val (.ref b4), .val (.ref b9), .val (.ref b16), .val (.int (0 : Int32)), .val (.int (1 : Int32)), .val va, .val vb, .val vc, .val (.int (p3 ^^^ (-1 : Int32)).toInt8.toInt32), .val (.long (p4 ^^^ (-1 : Int64))), .second] [(.int (nar .byte (nar .byte (p3 ^^^ (-1 : Int32)).toInt8.toInt32)))])) _
      refine XS.iload X42.here hx rfl (hb hby at_188) rfl ?_
      show Steps p.tables e below (T42.setTop (mkF m 190 #[.val (.int p0), .val (.int p1), .val (.long p2), .second, .val (.int p3), .val (.long p4), .second, .val (.int p5), .val (.ref b1), .val (.ref b4), .val (.ref b9), .val (.ref b16), .val (.int (0 : Int32)), .val (.int (1 : Int32)), .val va, .val vb, .val vc, .val (.int (p3 ^^^ (-1 : Int32)).toInt8.toInt32), .val (.long (p4 ^^^ (-1 : Int64))), .second] [(.int (p3 ^^^ (-1 : Int32)).toInt8.toInt32), (.int (nar .byte (nar .byte (p3 ^^^ (-1 : Int32)).toInt8.toInt32)))])) _
      refine XS.icmpNo X42.here hx rfl (hb hby at_190) rfl (XT.ii_ne_f (by simp only [own_nb])) ?_
      show Steps p.tables e below (T42.setTop (mkF m 193 #[.val (.int p0), .val (.int p1), .val (.long p2), .second, .val (.int p3), .val (.long p4), .second, .val (.int p5), .val (.ref b1), .val (.ref b4), .val (.ref b9), .val (.ref b16), .val (.int (0 : Int32)), .val (.int (1 : Int32)), .val va, .val vb, .val vc, .val (.int (p3 ^^^ (-1 : Int32)).toInt8.toInt32), .val (.long (p4 ^^^ (-1 : Int64))), .second] [])) _
      refine XS.aload X42.here hx rfl (hb hby at_193) rfl rfl ?_
      show Steps p.tables e below (T42.setTop (mkF m 195 #[.val (.int p0), .val (.int p1), .val (.long p2), .second, .val (.int p3), .val (.long p4), .second, .val (.int p5), .val (.ref b1), .val (.ref b4), .val (.ref b9), .val (.ref b16), .val (.int (0 : Int32)), .val (.int (1 : Int32)), .val va, .val vb, .val vc, .val (.int (p3 ^^^ (-1 : Int32)).toInt8.toInt32), .val (.long (p4 ^^^ (-1 : Int64))), .second] [(.ref b16)])) _
      refine XS.iload X42.here hx rfl (hb hby at_195) rfl ?_
      show Steps p.tables e below (T42.setTop (mkF m 197 #[.val (.int p0), .val (.int p1), .val (.long p2), .second, .val (.int p3), .val (.long p4), .second, .val (.int p5), .val (.ref b1), .val (.ref b4), .val (.ref b9), .val (.ref b16), .val (.int (0 : Int32)), .val (.int (1 : Int32)), .val va, .val vb, .val vc, .val (.int (p3 ^^^ (-1 : Int32)).toInt8.toInt32), .val (.long (p4 ^^^ (-1 : Int64))), .second] [(.int (1 : Int32)), (.ref b16)])) _
      refine st43.trans ?_
      show Steps p.tables e below (T43.setTop (mkF m 200 #[.val (.int p0), .val (.int p1), .val (.long p2), .second, .val (.int p3), .val (.long p4), .second, .val (.int p5), .val (.ref b1), .val (.ref b4), .val (.ref b9), .val (.ref b16), .val (.int (0 : Int32)), .val (.int (1 : Int32)), .val va, .val vb, .val vc, .val (.int (p3 ^^^ (-1 : Int32)).toInt8.toInt32), .val (.long (p4 ^^^ (-1 : Int64))), .second] [(.long (p4 ^^^ (-1 : Int64)))])) _
      refine XS.lload X43.here hx rfl (hb hby at_200) rfl ?_
      show Steps p.tables e below (T43.setTop (mkF m 202 #[.val (.int p0), .val (.int p1), .val (.long p2), .second, .val (.int p3), .val (.long p4), .second, .val (.int p5), .val (.ref b1), .val (.ref b4), .val (.ref b9), .val (.ref b16), .val (.int (0 : Int32)), .val (.int (1 : Int32)), .val va, .val vb, .val vc, .val (.int (p3 ^^^ (-1 : Int32)).toInt8.toInt32), .val (.long (p4 ^^^ (-1 : Int64))), .second] [(.long (p4 ^^^ (-1 : Int64))), (.long (p4 ^^^ (-1 : Int64)))])) _
      refine XT.lcmp X43.here hx rfl (hb hby at_202) rfl ?_
      show Steps p.tables e below (T43.setTop (mkF m 203 #[.val (.int p0), .val (.int p1), .val (.long p2), .second, .val (.int p3), .val (.long p4), .second, .val (.int p5), .val (.ref b1), .val (.ref b4), .val (.ref b9), .val (.ref b16), .val (.int (0 : Int32)), .val (.int (1 : Int32)), .val va, .val vb, .val vc, .val (.int (p3 ^^^ (-1 : Int32)).toInt8.toInt32), .val (.long (p4 ^^^ (-1 : Int64))), .second] [(.int (XT.cmpL (p4 ^^^ (-1 : Int64)) (p4 ^^^ (-1 : Int64))))])) _
      refine XS.ifNo X43.here hx rfl (hb hby at_203) rfl (XT.ll_ne_f rfl) ?_
      show Steps p.tables e below (T43.setTop (mkF m 206 #[.val (.int p0), .val (.int p1), .val (.long p2), .second, .val (.int p3), .val (.long p4), .second, .val (.int p5), .val (.ref b1), .val (.ref b4), .val (.ref b9), .val (.ref b16), .val (.int (0 : Int32)), .val (.int (1 : Int32)), .val va, .val vb, .val vc, .val (.int (p3 ^^^ (-1 : Int32)).toInt8.toInt32), .val (.long (p4 ^^^ (-1 : Int64))), .second] [])) _
      refine XS.aload X43.here hx rfl (hb hby at_206) rfl rfl ?_
      show Steps p.tables e below (T43.setTop (mkF m 208 #[.val (.int p0), .val (.int p1), .val (.long p2), .second, .val (.int p3), .val (.long p4), .second, .val (.int p5), .val (.ref b1), .val (.ref b4), .val (.ref b9), .val (.ref b16), .val (.int (0 : Int32)), .val (.int (1 : Int32)), .val va, .val vb, .val vc, .val (.int (p3 ^^^ (-1 : Int32)).toInt8.toInt32), .val (.long (p4 ^^^ (-1 : Int64))), .second] [(.ref b16)])) _
      refine XS.iload X43.here hx rfl (hb hby at_208) rfl ?_
      show Steps p.tables e below (T43.setTop (mkF m 210 #[.val (.int p0), .val (.int p1), .val (.long p2), .second, .val (.int p3), .val (.long p4), .second, .val (.int p5), .val (.ref b1), .val (.ref b4), .val (.ref b9), .val (.ref b16), .val (.int (0 : Int32)), .val (.int (1 : Int32)), .val va, .val vb, .val vc, .val (.int (p3 ^^^ (-1 : Int32)).toInt8.toInt32), .val (.long (p4 ^^^ (-1 : Int64))), .second] [(.int (1 : Int32)), (.ref b16)])) _
      refine st44.trans ?_
      show Steps p.tables e below (T44.setTop (mkF m 213 #[.val (.int p0), .val (.int p1), .val (.long p2), .second, .val (.int p3), .val (.long p4), .second, .val (.int p5), .val (.ref b1), .val (.ref b4), .val (.ref b9), .val (.ref b16), .val (.int (0 : Int32)), .val (.int (1 : Int32)), .val va, .val vb, .val vc, .val (.int (p3 ^^^ (-1 : Int32)).toInt8.toInt32), .val (.long (p4 ^^^ (-1 : Int64))), .second] [vc])) _
      refine XS.aload X44.here hx rfl (hb hby at_213) rfl Bvc.isRef ?_
      show Steps p.tables e below (T44.setTop (mkF m 215 #[.val (.int p0), .val (.int p1), .val (.long p2), .second, .val (.int p3), .val (.long p4), .second, .val (.int p5), .val (.ref b1), .val (.ref b4), .val (.ref b9), .val (.ref b16), .val (.int (0 : Int32)), .val (.int (1 : Int32)), .val va, .val vb, .val vc, .val (.int (p3 ^^^ (-1 : Int32)).toInt8.toInt32), .val (.long (p4 ^^^ (-1 : Int64))), .second] [vc, vc])) _
      refine XT.acmpNo X44.here hx rfl (hb hby at_215) rfl Bvc.isRef Bvc.isRef (XT.aa_ne_f rfl) ?_
      show Steps p.tables e below (T44.setTop (mkF m 218 #[.val (.int p0), .val (.int p1), .val (.long p2), .second, .val (.int p3), .val (.long p4), .second, .val (.int p5), .val (.ref b1), .val (.ref b4), .val (.ref b9), .val (.ref b16), .val (.int (0 : Int32)), .val (.int (1 : Int32)), .val va, .val vb, .val vc, .val (.int (p3 ^^^ (-1 : Int32)).toInt8.toInt32), .val (.long (p4 ^^^ (-1 : Int64))), .second] [])) _
      refine XS.iconst X44.here hx rfl (hb hby at_218) ?_
      show Steps p.tables e below (T44.setTop (mkF m 219 #[.val (.int p0), .val (.int p1), .val (.long p2), .second, .val (.int p3), .val (.long p4), .second, .val (.int p5), .val (.ref b1), .val (.ref b4), .val (.ref b9), .val (.ref b16), .val (.int (0 : Int32)), .val (.int (1 : Int32)), .val va, .val vb, .val vc, .val (.int (p3 ^^^ (-1 : Int32)).toInt8.toInt32), .val (.long (p4 ^^^ (-1 : Int64))), .second] [(.int (1 : Int32))])) _
      refine XS.goto X44.here hx rfl (pc0 := 219) (pc' := 223) rfl (hb hby at_219) (by decide) (by decide) ?_
      exact kt
    obtain ⟨fs, hr, hrun, hended, hW, hsame⟩ := X44.leave (v := some (.int (1 : Int32))) (fun h => by rw [Bd.returns] at h; cases h)
    refine ⟨_, _, pre45 _ ?_, hrun, hended, _, _, rfl, ?_, ⟨_, rfl⟩, hW, hsame.mono (by decide) (by decide)⟩
    · show Steps p.tables e below (T44.setTop (mkF m 223 #[.val (.int p0), .val (.int p1), .val (.long p2), .second, .val (.int p3), .val (.long p4), .second, .val (.int p5), .val (.ref b1), .val (.ref b4), .val (.ref b9), .val (.ref b16), .val (.int (0 : Int32)), .val (.int (1 : Int32)), .val va, .val vb, .val vc, .val (.int (p3 ^^^ (-1 : Int32)).toInt8.toInt32), .val (.long (p4 ^^^ (-1 : Int64))), .second] [(.int (1 : Int32))])) _
      exact retN X44 hx (t := .boolean) Bd.returns (by simp) (hb hby at_223) hr
    · show Q0 Z h0 n0 _ T44.heap _
      exact ⟨rfl, N44⟩
  · obtain ⟨cq46, kq46, q46a, q46b, q46c⟩ := isOf hZ rfl C25.1
    obtain ⟨_, _, ⟨T46, L46, k46, n46⟩, -, X46, ⟨Lc46, hQ46, l46, y46, z46⟩, st46⟩ := X25.virtualBack hx (y := (⟨"com/example/hornbrook/hornbrook/Cells", "set", "(IBJ[B)V"⟩ : MethodName)) (z := (⟨"com/example/hornbrook/hornbrook/Cells", "set", "(IBJ[B)V"⟩ : MethodName)) hown (mvT hZ (hw _ (List.mem_of_getElem? (i := 20) rfl))) (mvT hZ (hw _ (List.mem_of_getElem? (i := 21) rfl))) (notFace_of_selects (args := #[]) (mvT hZ (hw _ (List.mem_of_getElem? (i := 23) rfl)))) (mvT hZ (hw _ (List.mem_of_getElem? (i := 23) rfl))) (mvT hZ (hw _ (List.mem_of_getElem? (i := 22) rfl))) (by decide) (backOf (W := 0) (rm20 l Z a0 hw [] b16 ka wa ba ck cw cb (0 : Int32) (0 : Int32) (0 : Int64) (0 : Int64) .null .null p1.toInt8.toInt32 p2 va T25.heap n0 (Nat.le_trans Z24 KC25.1) C25 Bva) hZ (hw _ (List.mem_of_getElem? (i := 24) rfl)) (hw _ (List.mem_of_getElem? (i := 3) rfl)) (by decide) (by decide)) q46a q46c (g := (mkF m 113 #[.val (.int p0), .val (.int p1), .val (.long p2), .second, .val (.int p3), .val (.long p4), .second, .val (.int p5), .val (.ref b1), .val (.ref b4), .val (.ref b9), .val (.ref b16), .val (.int (0 : Int32)), .val (.int (1 : Int32)), .val va, .val vb, .val vc, .val (.int (p3 ^^^ (-1 : Int32)).toInt8.toInt32), .val (.long (p4 ^^^ (-1 : Int64))), .second] [va, (.long p2), (.int p1.toInt8.toInt32), (.int (0 : Int32)), (.ref b16)])) rfl (by rw [hml]; rfl) (Steps.refl _) (argsL := [(.int (0 : Int32)), (.int p1.toInt8.toInt32), (.long p2), va]) (rest := []) (lenOf pd00_1 rfl) rfl (by show 2 * 0 + _ ≤ _; exact Nat.le_of_eq rfl) (hb hby at_113) (fun _ _ => ⟨rfl, rfl, (by decide : 7 + 0 ≤ _), (by decide : 15 + 0 ≤ _)⟩)
    dsimp only [Pt.U, Pt.locs, Pt.cells, Pt.slots] at X46 l46 y46 z46 st46 hQ46
    subst l46 y46 z46
    obtain ⟨rfl, N46q, KC46, C46⟩ := hQ46
    have Bva_46 := Bva.keep KC46
    have Bvb_46 := Bvb.keep KC46
    have Bvc_46 := Bvc.keep KC46
    have N46 := Fr.app N25 N46q
    obtain ⟨cq47, kq47, q47a, q47b, q47c⟩ := isOf hZ rfl C46.1
    obtain ⟨_, _, ⟨T47, L47, k47, n47⟩, -, X47, ⟨Lc47, hQ47, l47, y47, z47⟩, st47⟩ := X46.virtualBack hx (y := (⟨"com/example/hornbrook/hornbrook/Cells", "set", "(IBJ[B)V"⟩ : MethodName)) (z := (⟨"com/example/hornbrook/hornbrook/Cells", "set", "(IBJ[B)V"⟩ : MethodName)) hown (mvT hZ (hw _ (List.mem_of_getElem? (i := 20) rfl))) (mvT hZ (hw _ (List.mem_of_getElem? (i := 21) rfl))) (notFace_of_selects (args := #[]) (mvT hZ (hw _ (List.mem_of_getElem? (i := 23) rfl)))) (mvT hZ (hw _ (List.mem_of_getElem? (i := 23) rfl))) (mvT hZ (hw _ (List.mem_of_getElem? (i := 22) rfl))) (by decide) (backOf (W := 0) (rm21 l Z a0 hw [] b16 ka wa ba ck cw cb (nar .byte p1.toInt8.toInt32) (0 : Int32) p2 (0 : Int64) va .null (p3 ^^^ (-1 : Int32)).toInt8.toInt32 (p4 ^^^ (-1 : Int64)) vc T46.heap n0 (Nat.le_trans (Nat.le_trans Z24 KC25.1) KC46.1) C46 Bvc_46) hZ (hw _ (List.mem_of_getElem? (i := 24) rfl)) (hw _ (List.mem_of_getElem? (i := 3) rfl)) (by decide) (by decide)) q47a q47c (g := (mkF m 126 #[.val (.int p0), .val (.int p1), .val (.long p2), .second, .val (.int p3), .val (.long p4), .second, .val (.int p5), .val (.ref b1), .val (.ref b4), .val (.ref b9), .val (.ref b16), .val (.int (0 : Int32)), .val (.int (1 : Int32)), .val va, .val vb, .val vc, .val (.int (p3 ^^^ (-1 : Int32)).toInt8.toInt32), .val (.long (p4 ^^^ (-1 : Int64))), .second] [vc, (.long (p4 ^^^ (-1 : Int64))), (.int (p3 ^^^ (-1 : Int32)).toInt8.toInt32), (.int (1 : Int32)), (.ref b16)])) rfl (by rw [hml]; rfl) (Steps.refl _) (argsL := [(.int (1 : Int32)), (.int (p3 ^^^ (-1 : Int32)).toInt8.toInt32), (.long (p4 ^^^ (-1 : Int64))), vc]) (rest := []) (lenOf pd00_1 rfl) rfl (by show 2 * 0 + _ ≤ _; exact Nat.le_of_eq rfl) (hb hby at_126) (fun _ _ => ⟨rfl, rfl, (by decide : 7 + 0 ≤ _), (by decide : 15 + 0 ≤ _)⟩)
    dsimp only [Pt.U, Pt.locs, Pt.cells, Pt.slots] at X47 l47 y47 z47 st47 hQ47
    subst l47 y47 z47
    obtain ⟨rfl, N47q, KC47, C47⟩ := hQ47
    have Bva_47 := Bva_46.keep KC47
    have Bvb_47 := Bvb_46.keep KC47
    have Bvc_47 := Bvc_46.keep KC47
    have N47 := Fr.app N46 N47q
    obtain ⟨cq48, kq48, q48a, q48b, q48c⟩ := isOf hZ rfl C47.1
    obtain ⟨_, _, ⟨T48, L48, k48, n48⟩, -, X48, ⟨Lc48, hQ48, l48, y48, z48⟩, st48⟩ := X47.virtualBack hx (y := (⟨"com/example/hornbrook/hornbrook/Cells", "set", "(IBJ[B)V"⟩ : MethodName)) (z := (⟨"com/example/hornbrook/hornbrook/Cells", "set", "(IBJ[B)V"⟩ : MethodName)) hown (mvT hZ (hw _ (List.mem_of_getElem? (i := 20) rfl))) (mvT hZ (hw _ (List.mem_of_getElem? (i := 21) rfl))) (notFace_of_selects (args := #[]) (mvT hZ (hw _ (List.mem_of_getElem? (i := 23) rfl)))) (mvT hZ (hw _ (List.mem_of_getElem? (i := 23) rfl))) (mvT hZ (hw _ (List.mem_of_getElem? (i := 22) rfl))) (by decide) (backOf (W := 0) (rm20 l Z a0 hw [] b16 ka wa ba ck cw cb (nar .byte p1.toInt8.toInt32) (nar .byte (p3 ^^^ (-1 : Int32)).toInt8.toInt32) p2 (p4 ^^^ (-1 : Int64)) va vc p3.toInt8.toInt32 p4 vb T47.heap n0 (Nat.le_trans (Nat.le_trans (Nat.le_trans Z24 KC25.1) KC46.1) KC47.1) C47 Bvb_47) hZ (hw _ (List.mem_of_getElem? (i := 24) rfl)) (hw _ (List.mem_of_getElem? (i := 3) rfl)) (by decide) (by decide)) q48a q48c (g := (mkF m 140 #[.val (.int p0), .val (.int p1), .val (.long p2), .second, .val (.int p3), .val (.long p4), .second, .val (.int p5), .val (.ref b1), .val (.ref b4), .val (.ref b9), .val (.ref b16), .val (.int (0 : Int32)), .val (.int (1 : Int32)), .val va, .val vb, .val vc, .val (.int (p3 ^^^ (-1 : Int32)).toInt8.toInt32), .val (.long (p4 ^^^ (-1 : Int64))), .second] [vb, (.long p4), (.int p3.toInt8.toInt32), (.int (0 : Int32)), (.ref b16)])) rfl (by rw [hml]; rfl) (Steps.refl _) (argsL := [(.int (0 : Int32)), (.int p3.toInt8.toInt32), (.long p4), vb]) (rest := []) (lenOf pd00_1 rfl) rfl (by show 2 * 0 + _ ≤ _; exact Nat.le_of_eq rfl) (hb hby at_140) (fun _ _ => ⟨rfl, rfl, (by decide : 7 + 0 ≤ _), (by decide : 15 + 0 ≤ _)⟩)
    dsimp only [Pt.U, Pt.locs, Pt.cells, Pt.slots] at X48 l48 y48 z48 st48 hQ48
    subst l48 y48 z48
    obtain ⟨rfl, N48q, KC48, C48⟩ := hQ48
    have Bva_48 := Bva_47.keep KC48
    have Bvb_48 := Bvb_47.keep KC48
    have Bvc_48 := Bvc_47.keep KC48
    have N48 := Fr.app N47 N48q
    obtain ⟨cq49, kq49, q49a, q49b, q49c⟩ := isOf hZ rfl C48.1
    obtain ⟨_, _, ⟨T49, L49, k49, n49⟩, -, X49, ⟨Lc49, hQ49, l49, y49, z49⟩, st49⟩ := X48.virtualBack hx (y := (⟨"com/example/hornbrook/hornbrook/Cells", "kind", "(I)B"⟩ : MethodName)) (z := (⟨"com/example/hornbrook/hornbrook/Cells", "kind", "(I)B"⟩ : MethodName)) hown (mvT hZ (hw _ (List.mem_of_getElem? (i := 26) rfl))) (mvT hZ (hw _ (List.mem_of_getElem? (i := 27) rfl))) (notFace_of_selects (args := #[]) (mvT hZ (hw _ (List.mem_of_getElem? (i := 29) rfl)))) (mvT hZ (hw _ (List.mem_of_getElem? (i := 29) rfl))) (mvT hZ (hw _ (List.mem_of_getElem? (i := 28) rfl))) (by decide) (backOf (W := 0) (rm30 l Z a0 hw [] b16 ka wa ba ck cw cb (nar .byte p3.toInt8.toInt32) (nar .byte (p3 ^^^ (-1 : Int32)).toInt8.toInt32) p4 (p4 ^^^ (-1 : Int64)) vb vc T48.heap n0 (Nat.le_trans (Nat.le_trans (Nat.le_trans (Nat.le_trans Z24 KC25.1) KC46.1) KC47.1) KC48.1) C48) hZ (hw _ (List.mem_of_getElem? (i := 30) rfl)) (hw _ (List.mem_of_getElem? (i := 3) rfl)) (by decide) (by decide)) q49a q49c (g := (mkF m 147 #[.val (.int p0), .val (.int p1), .val (.long p2), .second, .val (.int p3), .val (.long p4), .second, .val (.int p5), .val (.ref b1), .val (.ref b4), .val (.ref b9), .val (.ref b16), .val (.int (0 : Int32)), .val (.int (1 : Int32)), .val va, .val vb, .val vc, .val (.int (p3 ^^^ (-1 : Int32)).toInt8.toInt32), .val (.long (p4 ^^^ (-1 : Int64))), .second] [(.int (0 : Int32)), (.ref b16)])) rfl (by rw [hml]; rfl) (Steps.refl _) (argsL := [(.int (0 : Int32))]) (rest := []) (lenOf pd00_2 rfl) rfl (by show 2 * 0 + _ ≤ _; exact Nat.le_of_eq rfl) (hb hby at_147) (fun _ _ => ⟨rfl, rfl, (by decide : 7 + 0 ≤ _), (by decide : 15 + 0 ≤ _)⟩)
    dsimp only [Pt.U, Pt.locs, Pt.cells, Pt.slots] at X49 l49 y49 z49 st49 hQ49
    subst l49 y49 z49
    obtain ⟨rfl, N49q, e49⟩ := hQ49
    have N49 := Fr.app N48 N49q
    obtain ⟨cq50, kq50, q50a, q50b, q50c⟩ := isOf hZ e49 C48.1
    obtain ⟨_, _, ⟨T50, L50, k50, n50⟩, -, X50, ⟨Lc50, hQ50, l50, y50, z50⟩, st50⟩ := X49.virtualBack hx (y := (⟨"com/example/hornbrook/hornbrook/Cells", "word", "(I)J"⟩ : MethodName)) (z := (⟨"com/example/hornbrook/hornbrook/Cells", "word", "(I)J"⟩ : MethodName)) hown (mvT hZ (hw _ (List.mem_of_getElem? (i := 31) rfl))) (mvT hZ (hw _ (List.mem_of_getElem? (i := 32) rfl))) (notFace_of_selects (args := #[]) (mvT hZ (hw _ (List.mem_of_getElem? (i := 34) rfl)))) (mvT hZ (hw _ (List.mem_of_getElem? (i := 34) rfl))) (mvT hZ (hw _ (List.mem_of_getElem? (i := 33) rfl))) (by decide) (backOf (W := 0) (rm40 l Z a0 hw [] b16 ka wa ba ck cw cb (nar .byte p3.toInt8.toInt32) (nar .byte (p3 ^^^ (-1 : Int32)).toInt8.toInt32) p4 (p4 ^^^ (-1 : Int64)) vb vc T48.heap n0 (Nat.le_trans (Nat.le_trans (Nat.le_trans (Nat.le_trans Z24 KC25.1) KC46.1) KC47.1) KC48.1) C48) hZ (hw _ (List.mem_of_getElem? (i := 35) rfl)) (hw _ (List.mem_of_getElem? (i := 3) rfl)) (by decide) (by decide)) q50a q50c (g := (mkF m 160 #[.val (.int p0), .val (.int p1), .val (.long p2), .second, .val (.int p3), .val (.long p4), .second, .val (.int p5), .val (.ref b1), .val (.ref b4), .val (.ref b9), .val (.ref b16), .val (.int (0 : Int32)), .val (.int (1 : Int32)), .val va, .val vb, .val vc, .val (.int (p3 ^^^ (-1 : Int32)).toInt8.toInt32), .val (.long (p4 ^^^ (-1 : Int64))), .second] [(.int (0 : Int32)), (.ref b16)])) rfl (by rw [hml]; rfl) (Steps.refl _) (argsL := [(.int (0 : Int32))]) (rest := []) (lenOf pd00_3 rfl) rfl (by show 2 * 0 + _ ≤ _; exact Nat.le_of_eq rfl) (hb hby at_160) (fun _ _ => ⟨rfl, e49, (by decide : 7 + 0 ≤ _), (by decide : 15 + 0 ≤ _)⟩)
    dsimp only [Pt.U, Pt.locs, Pt.cells, Pt.slots] at X50 l50 y50 z50 st50 hQ50
    subst l50 y50 z50
    obtain ⟨rfl, N50q, e50⟩ := hQ50
    have N50 := Fr.app N49 N50q
    obtain ⟨cq51, kq51, q51a, q51b, q51c⟩ := isOf hZ e50 C48.1
    obtain ⟨_, _, ⟨T51, L51, k51, n51⟩, -, X51, ⟨Lc51, hQ51, l51, y51, z51⟩, st51⟩ := X50.virtualBack hx (y := (⟨"com/example/hornbrook/hornbrook/Cells", "bytes", "(I)[B"⟩ : MethodName)) (z := (⟨"com/example/hornbrook/hornbrook/Cells", "bytes", "(I)[B"⟩ : MethodName)) hown (mvT hZ (hw _ (List.mem_of_getElem? (i := 36) rfl))) (mvT hZ (hw _ (List.mem_of_getElem? (i := 37) rfl))) (notFace_of_selects (args := #[]) (mvT hZ (hw _ (List.mem_of_getElem? (i := 39) rfl)))) (mvT hZ (hw _ (List.mem_of_getElem? (i := 39) rfl))) (mvT hZ (hw _ (List.mem_of_getElem? (i := 38) rfl))) (by decide) (backOf (W := 0) (rm50 l Z a0 hw [] b16 ka wa ba ck cw cb (nar .byte p3.toInt8.toInt32) (nar .byte (p3 ^^^ (-1 : Int32)).toInt8.toInt32) p4 (p4 ^^^ (-1 : Int64)) vb vc T48.heap n0 (Nat.le_trans (Nat.le_trans (Nat.le_trans (Nat.le_trans Z24 KC25.1) KC46.1) KC47.1) KC48.1) C48) hZ (hw _ (List.mem_of_getElem? (i := 40) rfl)) (hw _ (List.mem_of_getElem? (i := 3) rfl)) (by decide) (by decide)) q51a q51c (g := (mkF m 173 #[.val (.int p0), .val (.int p1), .val (.long p2), .second, .val (.int p3), .val (.long p4), .second, .val (.int p5), .val (.ref b1), .val (.ref b4), .val (.ref b9), .val (.ref b16), .val (.int (0 : Int32)), .val (.int (1 : Int32)), .val va, .val vb, .val vc, .val (.int (p3 ^^^ (-1 : Int32)).toInt8.toInt32), .val (.long (p4 ^^^ (-1 : Int64))), .second] [(.int (0 : Int32)), (.ref b16)])) rfl (by rw [hml]; rfl) (Steps.refl _) (argsL := [(.int (0 : Int32))]) (rest := []) (lenOf pd00_4 rfl) rfl (by show 2 * 0 + _ ≤ _; exact Nat.le_of_eq rfl) (hb hby at_173) (fun _ _ => ⟨rfl, e50, (by decide : 7 + 0 ≤ _), (by decide : 15 + 0 ≤ _)⟩)
    dsimp only [Pt.U, Pt.locs, Pt.cells, Pt.slots] at X51 l51 y51 z51 st51 hQ51
    subst l51 y51 z51
    obtain ⟨rfl, N51q, e51⟩ := hQ51
    have N51 := Fr.app N50 N51q
    obtain ⟨cq52, kq52, q52a, q52b, q52c⟩ := isOf hZ e51 C48.1
    obtain ⟨_, _, ⟨T52, L52, k52, n52⟩, -, X52, ⟨Lc52, hQ52, l52, y52, z52⟩, st52⟩ := X51.virtualBack hx (y := (⟨"com/example/hornbrook/hornbrook/Cells", "kind", "(I)B"⟩ : MethodName)) (z := (⟨"com/example/hornbrook/hornbrook/Cells", "kind", "(I)B"⟩ : MethodName)) hown (mvT hZ (hw _ (List.mem_of_getElem? (i := 26) rfl))) (mvT hZ (hw _ (List.mem_of_getElem? (i := 27) rfl))) (notFace_of_selects (args := #[]) (mvT hZ (hw _ (List.mem_of_getElem? (i := 29) rfl)))) (mvT hZ (hw _ (List.mem_of_getElem? (i := 29) rfl))) (mvT hZ (hw _ (List.mem_of_getElem? (i := 28) rfl))) (by decide) (backOf (W := 0) (rm31 l Z a0 hw [] b16 ka wa ba ck cw cb (nar .byte p3.toInt8.toInt32) (nar .byte (p3 ^^^ (-1 : Int32)).toInt8.toInt32) p4 (p4 ^^^ (-1 : Int64)) vb vc T48.heap n0 (Nat.le_trans (Nat.le_trans (Nat.le_trans (Nat.le_trans Z24 KC25.1) KC46.1) KC47.1) KC48.1) C48) hZ (hw _ (List.mem_of_getElem? (i := 30) rfl)) (hw _ (List.mem_of_getElem? (i := 3) rfl)) (by decide) (by decide)) q52a q52c (g := (mkF m 185 #[.val (.int p0), .val (.int p1), .val (.long p2), .second, .val (.int p3), .val (.long p4), .second, .val (.int p5), .val (.ref b1), .val (.ref b4), .val (.ref b9), .val (.ref b16), .val (.int (0 : Int32)), .val (.int (1 : Int32)), .val va, .val vb, .val vc, .val (.int (p3 ^^^ (-1 : Int32)).toInt8.toInt32), .val (.long (p4 ^^^ (-1 : Int64))), .second] [(.int (1 : Int32)), (.ref b16)])) rfl (by rw [hml]; rfl) (Steps.refl _) (argsL := [(.int (1 : Int32))]) (rest := []) (lenOf pd00_2 rfl) rfl (by show 2 * 0 + _ ≤ _; exact Nat.le_of_eq rfl) (hb hby at_185) (fun _ _ => ⟨rfl, e51, (by decide : 7 + 0 ≤ _), (by decide : 15 + 0 ≤ _)⟩)
    dsimp only [Pt.U, Pt.locs, Pt.cells, Pt.slots] at X52 l52 y52 z52 st52 hQ52
    subst l52 y52 z52
    obtain ⟨rfl, N52q, e52⟩ := hQ52
    have N52 := Fr.app N51 N52q
    obtain ⟨cq53, kq53, q53a, q53b, q53c⟩ := isOf hZ e52 C48.1
    obtain ⟨_, _, ⟨T53, L53, k53, n53⟩, -, X53, ⟨Lc53, hQ53, l53, y53, z53⟩, st53⟩ := X52.virtualBack hx (y := (⟨"com/example/hornbrook/hornbrook/Cells", "word", "(I)J"⟩ : MethodName)) (z := (⟨"com/example/hornbrook/hornbrook/Cells", "word", "(I)J"⟩ : MethodName)) hown (mvT hZ (hw _ (List.mem_of_getElem? (i := 31) rfl))) (mvT hZ (hw _ (List.mem_of_getElem? (i := 32) rfl))) (notFace_of_selects (args := #[]) (mvT hZ (hw _ (List.mem_of_getElem? (i := 34) rfl)))) (mvT hZ (hw _ (List.mem_of_getElem? (i := 34) rfl))) (mvT hZ (hw _ (List.mem_of_getElem? (i := 33) rfl))) (by decide) (backOf (W := 0) (rm41 l Z a0 hw [] b16 ka wa ba ck cw cb (nar .byte p3.toInt8.toInt32) (nar .byte (p3 ^^^ (-1 : Int32)).toInt8.toInt32) p4 (p4 ^^^ (-1 : Int64)) vb vc T48.heap n0 (Nat.le_trans (Nat.le_trans (Nat.le_trans (Nat.le_trans Z24 KC25.1) KC46.1) KC47.1) KC48.1) C48) hZ (hw _ (List.mem_of_getElem? (i := 35) rfl)) (hw _ (List.mem_of_getElem? (i := 3) rfl)) (by decide) (by decide)) q53a q53c (g := (mkF m 197 #[.val (.int p0), .val (.int p1), .val (.long p2), .second, .val (.int p3), .val (.long p4), .second, .val (.int p5), .val (.ref b1), .val (.ref b4), .val (.ref b9), .val (.ref b16), .val (.int (0 : Int32)), .val (.int (1 : Int32)), .val va, .val vb, .val vc, .val (.int (p3 ^^^ (-1 : Int32)).toInt8.toInt32), .val (.long (p4 ^^^ (-1 : Int64))), .second] [(.int (1 : Int32)), (.ref b16)])) rfl (by rw [hml]; rfl) (Steps.refl _) (argsL := [(.int (1 : Int32))]) (rest := []) (lenOf pd00_3 rfl) rfl (by show 2 * 0 + _ ≤ _; exact Nat.le_of_eq rfl) (hb hby at_197) (fun _ _ => ⟨rfl, e52, (by decide : 7 + 0 ≤ _), (by decide : 15 + 0 ≤ _)⟩)
    dsimp only [Pt.U, Pt.locs, Pt.cells, Pt.slots] at X53 l53 y53 z53 st53 hQ53
    subst l53 y53 z53
    obtain ⟨rfl, N53q, e53⟩ := hQ53
    have N53 := Fr.app N52 N53q
    obtain ⟨cq54, kq54, q54a, q54b, q54c⟩ := isOf hZ e53 C48.1
    obtain ⟨_, _, ⟨T54, L54, k54, n54⟩, -, X54, ⟨Lc54, hQ54, l54, y54, z54⟩, st54⟩ := X53.virtualBack hx (y := (⟨"com/example/hornbrook/hornbrook/Cells", "bytes", "(I)[B"⟩ : MethodName)) (z := (⟨"com/example/hornbrook/hornbrook/Cells", "bytes", "(I)[B"⟩ : MethodName)) hown (mvT hZ (hw _ (List.mem_of_getElem? (i := 36) rfl))) (mvT hZ (hw _ (List.mem_of_getElem? (i := 37) rfl))) (notFace_of_selects (args := #[]) (mvT hZ (hw _ (List.mem_of_getElem? (i := 39) rfl)))) (mvT hZ (hw _ (List.mem_of_getElem? (i := 39) rfl))) (mvT hZ (hw _ (List.mem_of_getElem? (i := 38) rfl))) (by decide) (backOf (W := 0) (rm51 l Z a0 hw [] b16 ka wa ba ck cw cb (nar .byte p3.toInt8.toInt32) (nar .byte (p3 ^^^ (-1 : Int32)).toInt8.toInt32) p4 (p4 ^^^ (-1 : Int64)) vb vc T48.heap n0 (Nat.le_trans (Nat.le_trans (Nat.le_trans (Nat.le_trans Z24 KC25.1) KC46.1) KC47.1) KC48.1) C48) hZ (hw _ (List.mem_of_getElem? (i := 40) rfl)) (hw _ (List.mem_of_getElem? (i := 3) rfl)) (by decide) (by decide)) q54a q54c (g := (mkF m 210 #[.val (.int p0), .val (.int p1), .val (.long p2), .second, .val (.int p3), .val (.long p4), .second, .val (.int p5), .val (.ref b1), .val (.ref b4), .val (.ref b9), .val (.ref b16), .val (.int (0 : Int32)), .val (.int (1 : Int32)), .val va, .val vb, .val vc, .val (.int (p3 ^^^ (-1 : Int32)).toInt8.toInt32), .val (.long (p4 ^^^ (-1 : Int64))), .second] [(.int (1 : Int32)), (.ref b16)])) rfl (by rw [hml]; rfl) (Steps.refl _) (argsL := [(.int (1 : Int32))]) (rest := []) (lenOf pd00_4 rfl) rfl (by show 2 * 0 + _ ≤ _; exact Nat.le_of_eq rfl) (hb hby at_210) (fun _ _ => ⟨rfl, e53, (by decide : 7 + 0 ≤ _), (by decide : 15 + 0 ≤ _)⟩)
    dsimp only [Pt.U, Pt.locs, Pt.cells, Pt.slots] at X54 l54 y54 z54 st54 hQ54
    subst l54 y54 z54
    obtain ⟨rfl, N54q, e54⟩ := hQ54
    have N54 := Fr.app N53 N54q
    have pre55 : ∀ tg_, Steps p.tables e below (T54.setTop (mkF m 223 #[.val (.int p0), .val (.int p1), .val (.long p2), .second, .val (.int p3), .val (.long p4), .second, .val (.int p5), .val (.ref b1), .val (.ref b4), .val (.ref b9), .val (.ref b16), .val (.int (0 : Int32)), .val (.int (1 : Int32)), .val va, .val vb, .val vc, .val (.int (p3 ^^^ (-1 : Int32)).toInt8.toInt32), .val (.long (p4 ^^^ (-1 : Int64))), .second] [(.int (1 : Int32))])) tg_ → Steps p.tables e below (s₁.setTop (entryFrame m #[(.int p0), (.int p1), (.long p2), (.int p3), (.long p4), (.int p5)] maxLocals)) tg_ := by
      intro tg_ kt
      refine pre35 _ ?_
      show Steps p.tables e below (T25.setTop (mkF m 101 #[.val (.int p0), .val (.int p1), .val (.long p2), .second, .val (.int p3), .val (.long p4), .second, .val (.int p5), .val (.ref b1), .val (.ref b4), .val (.ref b9), .val (.ref b16), .val (.int (0 : Int32)), .val (.int (1 : Int32)), .val va, .val vb, .val vc, .val (.int (p3 ^^^ (-1 : Int32)).toInt8.toInt32), .val (.long (p4 ^^^ (-1 : Int64))), .second] [(.int (p5 &&& (8 : Int32)))])) _
      refine XS.ifNo X25.here hx rfl (hb hby at_101) rfl (XT.i0_eq_f hc101_36) ?_
      show Steps p.tables e below (T25.setTop (mkF m 104 #[.val (.int p0), .val (.int p1), .val (.long p2), .second, .val (.int p3), .val (.long p4), .second, .val (.int p5), .val (.ref b1), .val (.ref b4), .val (.ref b9), .val (.ref b16), .val (.int (0 : Int32)), .val (.int (1 : Int32)), .val va, .val vb, .val vc, .val (.int (p3 ^^^ (-1 : Int32)).toInt8.toInt32), .val (.long (p4 ^^^ (-1 : Int64))), .second] [])) _
      refine XS.aload X25.here hx rfl (hb hby at_104) rfl rfl ?_
      show Steps p.tables e below (T25.setTop (mkF m 106 #[.val (.int p0), .val (.int p1), .val (.long p2), .second, .val (.int p3), .val (.long p4), .second, .val (.int p5), .val (.ref b1), .val (.ref b4), .val (.ref b9), .val (.ref b16), .val (.int (0 : Int32)), .val (.int (1 : Int32)), .val va, .val vb, .val vc, .val (.int (p3 ^^^ (-1 : Int32)).toInt8.toInt32), .val (.long (p4 ^^^ (-1 : Int64))), .second] [(.ref b16)])) _
      refine XS.iload X25.here hx rfl (hb hby at_106) rfl ?_
      show Steps p.tables e below (T25.setTop (mkF m 108 #[.val (.int p0), .val (.int p1), .val (.long p2), .second, .val (.int p3), .val (.long p4), .second, .val (.int p5), .val (.ref b1), .val (.ref b4), .val (.ref b9), .val (.ref b16), .val (.int (0 : Int32)), .val (.int (1 : Int32)), .val va, .val vb, .val vc, .val (.int (p3 ^^^ (-1 : Int32)).toInt8.toInt32), .val (.long (p4 ^^^ (-1 : Int64))), .second] [(.int (0 : Int32)), (.ref b16)])) _
      refine XS.iloadN X25.here hx rfl (hb hby at_108) rfl ?_
      show Steps p.tables e below (T25.setTop (mkF m 109 #[.val (.int p0), .val (.int p1), .val (.long p2), .second, .val (.int p3), .val (.long p4), .second, .val (.int p5), .val (.ref b1), .val (.ref b4), .val (.ref b9), .val (.ref b16), .val (.int (0 : Int32)), .val (.int (1 : Int32)), .val va, .val vb, .val vc, .val (.int (p3 ^^^ (-1 : Int32)).toInt8.toInt32), .val (.long (p4 ^^^ (-1 : Int64))), .second] [(.int p1), (.int (0 : Int32)), (.ref b16)])) _
      refine XS.i2b X25.here hx rfl (hb hby at_109) rfl ?_
      show Steps p.tables e below (T25.setTop (mkF m 110 #[.val (.int p0), .val (.int p1), .val (.long p2), .second, .val (.int p3), .val (.long p4), .second, .val (.int p5), .val (.ref b1), .val (.ref b4), .val (.ref b9), .val (.ref b16), .val (.int (0 : Int32)), .val (.int (1 : Int32)), .val va, .val vb, .val vc, .val (.int (p3 ^^^ (-1 : Int32)).toInt8.toInt32), .val (.long (p4 ^^^ (-1 : Int64))), .second] [(.int p1.toInt8.toInt32), (.int (0 : Int32)), (.ref b16)])) _
      refine XS.lloadN X25.here hx rfl (hb hby at_110) rfl ?_
      show Steps p.tables e below (T25.setTop (mkF m 111 #[.val (.int p0), .val (.int p1), .val (.long p2), .second, .val (.int p3), .val (.long p4), .second, .val (.int p5), .val (.ref b1), .val (.ref b4), .val (.ref b9), .val (.ref b16), .val (.int (0 : Int32)), .val (.int (1 : Int32)), .val va, .val vb, .val vc, .val (.int (p3 ^^^ (-1 : Int32)).toInt8.toInt32), .val (.long (p4 ^^^ (-1 : Int64))), .second] [(.long p2), (.int p1.toInt8.toInt32), (.int (0 : Int32)), (.ref b16)])) _
      refine XS.aload X25.here hx rfl (hb hby at_111) rfl Bva.isRef ?_
      show Steps p.tables e below (T25.setTop (mkF m 113 #[.val (.int p0), .val (.int p1), .val (.long p2), .second, .val (.int p3), .val (.long p4), .second, .val (.int p5), .val (.ref b1), .val (.ref b4), .val (.ref b9), .val (.ref b16), .val (.int (0 : Int32)), .val (.int (1 : Int32)), .val va, .val vb, .val vc, .val (.int (p3 ^^^ (-1 : Int32)).toInt8.toInt32), .val (.long (p4 ^^^ (-1 : Int64))), .second] [va, (.long p2), (.int p1.toInt8.toInt32), (.int (0 : Int32)), (.ref b16)])) _
      refine st46.trans ?_
      show Steps p.tables e below (T46.setTop (mkF m 116 #[.val (.int p0), .val (.int p1), .val (.long p2), .second, .val (.int p3), .val (.long p4), .second, .val (.int p5), .val (.ref b1), .val (.ref b4), .val (.ref b9), .val (.ref b16), .val (.int (0 : Int32)), .val (.int (1 : Int32)), .val va, .val vb, .val vc, .val (.int (p3 ^^^ (-1 : Int32)).toInt8.toInt32), .val (.long (p4 ^^^ (-1 : Int64))), .second] [])) _
      refine XS.aload X46.here hx rfl (hb hby at_116) rfl rfl ?_
      show Steps p.tables e below (T46.setTop (mkF m 118 #[.val (.int p0), .val (.int p1), .val (.long p2), .second, .val (.int p3), .val (.long p4), .second, .val (.int p5), .val (.ref b1), .val (.ref b4), .val (.ref b9), .val (.ref b16), .val (.int (0 : Int32)), .val (.int (1 : Int32)), .val va, .val vb, .val vc, .val (.int (p3 ^^^ (-1 : Int32)).toInt8.toInt32), .val (.long (p4 ^^^ (-1 : Int64))), .second] [(.ref b16)])) _
      refine XS.iload X46.here hx rfl (hb hby at_118) rfl ?_
      show Steps p.tables e below (T46.setTop (mkF m 120 #[.val (.int p0), .val (.int p1), .val (.long p2), .second, .val (.int p3), .val (.long p4), .second, .val (.int p5), .val (.ref b1), .val (.ref b4), .val (.ref b9), .val (.ref b16), .val (.int (0 : Int32)), .val (.int (1 : Int32)), .val va, .val vb, .val vc, .val (.int (p3 ^^^ (-1 : Int32)).toInt8.toInt32), .val (.long (p4 ^^^ (-1 : Int64))), .second] [(.int (1 : Int32)), (.ref b16)])) _
      refine XS.iload X46.here hx rfl (hb hby at_120) rfl ?_
      show Steps p.tables e below (T46.setTop (mkF m 122 #[.val (.int p0), .val (.int p1), .val (.long p2), .second, .val (.int p3), .val (.long p4), .second, .val (.int p5), .val (.ref b1), .val (.ref b4), .val (.ref b9), .val (.ref b16), .val (.int (0 : Int32)), .val (.int (1 : Int32)), .val va, .val vb, .val vc, .val (.int (p3 ^^^ (-1 : Int32)).toInt8.toInt32), .val (.long (p4 ^^^ (-1 : Int64))), .second] [(.int (p3 ^^^ (-1 : Int32)).toInt8.toInt32), (.int (1 : Int32)), (.ref b16)])) _
      refine XS.lload X46.here hx rfl (hb hby at_122) rfl ?_
      show Steps p.tables e below (T46.setTop (mkF m 124 #[.val (.int p0), .val (.int p1), .val (.long p2), .second, .val (.int p3), .val (.long p4), .second, .val (.int p5), .val (.ref b1), .val (.ref b4), .val (.ref b9), .val (.ref b16), .val (.int (0 : Int32)), .val (.int (1 : Int32)), .val va, .val vb, .val vc, .val (.int (p3 ^^^ (-1 : Int32)).toInt8.toInt32), .val (.long (p4 ^^^ (-1 : Int64))), .second] [(.long (p4 ^^^ (-1 : Int64))), (.int (p3 ^^^ (-1 : Int32)).toInt8.toInt32), (.int (1 : Int32)), (.ref b16)])) _
      refine XS.aload X46.here hx rfl (hb hby at_124) rfl Bvc.isRef ?_
      show Steps p.tables e below (T46.setTop (mkF m 126 #[.val (.int p0), .val (.int p1), .val (.long p2), .second, .val (.int p3), .val (.long p4), .second, .val (.int p5), .val (.ref b1), .val (.ref b4), .val (.ref b9), .val (.ref b16), .val (.int (0 : Int32)), .val (.int (1 : Int32)), .val va, .val vb, .val vc, .val (.int (p3 ^^^ (-1 : Int32)).toInt8.toInt32), .val (.long (p4 ^^^ (-1 : Int64))), .second] [vc, (.long (p4 ^^^ (-1 : Int64))), (.int (p3 ^^^ (-1 : Int32)).toInt8.toInt32), (.int (1 : Int32)), (.ref b16)])) _
      refine st47.trans ?_
      show Steps p.tables e below (T47.setTop (mkF m 129 #[.val (.int p0), .val (.int p1), .val (.long p2), .second, .val (.int p3), .val (.long p4), .second, .val (.int p5), .val (.ref b1), .val (.ref b4), .val (.ref b9), .val (.ref b16), .val (.int (0 : Int32)), .val (.int (1 : Int32)), .val va, .val vb, .val vc, .val (.int (p3 ^^^ (-1 : Int32)).toInt8.toInt32), .val (.long (p4 ^^^ (-1 : Int64))), .second] [])) _
      refine XS.aload X47.here hx rfl (hb hby at_129) rfl rfl ?_
      show Steps p.tables e below (T47.setTop (mkF m 131 #[.val (.int p0), .val (.int p1), .val (.long p2), .second, .val (.int p3), .val (.long p4), .second, .val (.int p5), .val (.ref b1), .val (.ref b4), .val (.ref b9), .val (.ref b16), .val (.int (0 : Int32)), .val (.int (1 : Int32)), .val va, .val vb, .val vc, .val (.int (p3 ^^^ (-1 : Int32)).toInt8.toInt32), .val (.long (p4 ^^^ (-1 : Int64))), .second] [(.ref b16)])) _
      refine XS.iload X47.here hx rfl (hb hby at_131) rfl ?_
      show Steps p.tables e below (T47.setTop (mkF m 133 #[.val (.int p0), .val (.int p1), .val (.long p2), .second, .val (.int p3), .val (.long p4), .second, .val (.int p5), .val (.ref b1), .val (.ref b4), .val (.ref b9), .val (.ref b16), .val (.int (0 : Int32)), .val (.int (1 : Int32)), .val va, .val vb, .val vc, .val (.int (p3 ^^^ (-1 : Int32)).toInt8.toInt32), .val (.long (p4 ^^^ (-1 : Int64))), .second] [(.int (0 : Int32)), (.ref b16)])) _
      refine XS.iload X47.here hx rfl (hb hby at_133) rfl ?_
      show Steps p.tables e below (T47.setTop (mkF m 135 #[.val (.int p0), .val (.int p1), .val (.long p2), .second, .val (.int p3), .val (.long p4), .second, .val (.int p5), .val (.ref b1), .val (.ref b4), .val (.ref b9), .val (.ref b16), .val (.int (0 : Int32)), .val (.int (1 : Int32)), .val va, .val vb, .val vc, .val (.int (p3 ^^^ (-1 : Int32)).toInt8.toInt32), .val (.long (p4 ^^^ (-1 : Int64))), .second] [(.int p3), (.int (0 : Int32)), (.ref b16)])) _
      refine XS.i2b X47.here hx rfl (hb hby at_135) rfl ?_
      show Steps p.tables e below (T47.setTop (mkF m 136 #[.val (.int p0), .val (.int p1), .val (.long p2), .second, .val (.int p3), .val (.long p4), .second, .val (.int p5), .val (.ref b1), .val (.ref b4), .val (.ref b9), .val (.ref b16), .val (.int (0 : Int32)), .val (.int (1 : Int32)), .val va, .val vb, .val vc, .val (.int (p3 ^^^ (-1 : Int32)).toInt8.toInt32), .val (.long (p4 ^^^ (-1 : Int64))), .second] [(.int p3.toInt8.toInt32), (.int (0 : Int32)), (.ref b16)])) _
      refine XS.lload X47.here hx rfl (hb hby at_136) rfl ?_
      show Steps p.tables e below (T47.setTop (mkF m 138 #[.val (.int p0), .val (.int p1), .val (.long p2), .second, .val (.int p3), .val (.long p4), .second, .val (.int p5), .val (.ref b1), .val (.ref b4), .val (.ref b9), .val (.ref b16), .val (.int (0 : Int32)), .val (.int (1 : Int32)), .val va, .val vb, .val vc, .val (.int (p3 ^^^ (-1 : Int32)).toInt8.toInt32), .val (.long (p4 ^^^ (-1 : Int64))), .second] [(.long p4), (.int p3.toInt8.toInt32), (.int (0 : Int32)), (.ref b16)])) _
      refine XS.aload X47.here hx rfl (hb hby at_138) rfl Bvb.isRef ?_
      show Steps p.tables e below (T47.setTop (mkF m 140 #[.val (.int p0), .val (.int p1), .val (.long p2), .second, .val (.int p3), .val (.long p4), .second, .val (.int p5), .val (.ref b1), .val (.ref b4), .val (.ref b9), .val (.ref b16), .val (.int (0 : Int32)), .val (.int (1 : Int32)), .val va, .val vb, .val vc, .val (.int (p3 ^^^ (-1 : Int32)).toInt8.toInt32), .val (.long (p4 ^^^ (-1 : Int64))), .second] [vb, (.long p4), (.int p3.toInt8.toInt32), (.int (0 : Int32)), (.ref b16)])) _
      refine st48.trans ?_
      show Steps p.tables e below (T48.setTop (mkF m 143 #[.val (.int p0), .val (.int p1), .val (.long p2), .second, .val (.int p3), .val (.long p4), .second, .val (.int p5), .val (.ref b1), .val (.ref b4), .val (.ref b9), .val (.ref b16), .val (.int (0 : Int32)), .val (.int (1 : Int32)), .val va, .val vb, .val vc, .val (.int (p3 ^^^ (-1 : Int32)).toInt8.toInt32), .val (.long (p4 ^^^ (-1 : Int64))), .second] [])) _
      refine XS.aload X48.here hx rfl (hb hby at_143) rfl rfl ?_
      show Steps p.tables e below (T48.setTop (mkF m 145 #[.val (.int p0), .val (.int p1), .val (.long p2), .second, .val (.int p3), .val (.long p4), .second, .val (.int p5), .val (.ref b1), .val (.ref b4), .val (.ref b9), .val (.ref b16), .val (.int (0 : Int32)), .val (.int (1 : Int32)), .val va, .val vb, .val vc, .val (.int (p3 ^^^ (-1 : Int32)).toInt8.toInt32), .val (.long (p4 ^^^ (-1 : Int64))), .second] [(.ref b16)])) _
      refine XS.iload X48.here hx rfl (hb hby at_145) rfl ?_
      show Steps p.tables e below (T48.setTop (mkF m 147 #[.val (.int p0), .val (.int p1), .val (.long p2), .second, .val (.int p3), .val (.long p4), .second, .val (.int p5), .val (.ref b1), .val (.ref b4), .val (.ref b9), .val (.ref b16), .val (.int (0 : Int32)), .val (.int (1 : Int32)), .val va, .val vb, .val vc, .val (.int (p3 ^^^ (-1 : Int32)).toInt8.toInt32), .val (.long (p4 ^^^ (-1 : Int64))), .second] [(.int (0 : Int32)), (.ref b16)])) _
      refine st49.trans ?_
      show Steps p.tables e below (T49.setTop (mkF m 150 #[.val (.int p0), .val (.int p1), .val (.long p2), .second, .val (.int p3), .val (.long p4), .second, .val (.int p5), .val (.ref b1), .val (.ref b4), .val (.ref b9), .val (.ref b16), .val (.int (0 : Int32)), .val (.int (1 : Int32)), .val va, .val vb, .val vc, .val (.int (p3 ^^^ (-1 : Int32)).toInt8.toInt32), .val (.long (p4 ^^^ (-1 : Int64))), .second] [(.int (nar .byte (nar .byte p3.toInt8.toInt32)))])) _
      refine XS.iload X49.here hx rfl (hb hby at_150) rfl ?_
      show Steps p.tables e below (T49.setTop (mkF m 152 #[.val (.int p0), .val (.int p1), .val (.long p2), .second, .val (.int p3), .val (.long p4), .second, .val (.int p5), .val (.ref b1), .val (.ref b4), .val (.ref b9), .val (.ref b16), .val (.int (0 : Int32)), .val (.int (1 : Int32)), .val va, .val vb, .val vc, .val (.int (p3 ^^^ (-1 : Int32)).toInt8.toInt32), .val (.long (p4 ^^^ (-1 : Int64))), .second] [(.int p3), (.int (nar .byte (nar .byte p3.toInt8.toInt32)))])) _
      refine XS.i2b X49.here hx rfl (hb hby at_152) rfl ?_
      show Steps p.tables e below (T49.setTop (mkF m 153 #[.val (.int p0), .val (.int p1), .val (.long p2), .second, .val (.int p3), .val (.long p4), .second, .val (.int p5), .val (.ref b1), .val (.ref b4), .val (.ref b9), .val (.ref b16), .val (.int (0 : Int32)), .val (.int (1 : Int32)), .val va, .val vb, .val vc, .val (.int (p3 ^^^ (-1 : Int32)).toInt8.toInt32), .val (.long (p4 ^^^ (-1 : Int64))), .second] [(.int p3.toInt8.toInt32), (.int (nar .byte (nar .byte p3.toInt8.toInt32)))])) _
      refine XS.icmpNo X49.here hx rfl (hb hby at_153) rfl (XT.ii_ne_f (by simp only [own_nb])) ?_
      show Steps p.tables e below (T49.setTop (mkF m 156 #[.val (.int p0), .val (.int p1), .val (.long p2), .second, .val (.int p3), .val (.long p4), .second, .val (.int p5), .val (.ref b1), .val (.ref b4), .val (.ref b9), .val (.ref b16), .val (.int (0 : Int32)), .val (.int (1 : Int32)), .val va, .val vb, .val vc, .val (.int (p3 ^^^ (-1 : Int32)).toInt8.toInt32), .val (.long (p4 ^^^ (-1 : Int64))), .second] [])) _
      refine XS.aload X49.here hx rfl (hb hby at_156) rfl rfl ?_
      show Steps p.tables e below (T49.setTop (mkF m 158 #[.val (.int p0), .val (.int p1), .val (.long p2), .second, .val (.int p3), .val (.long p4), .second, .val (.int p5), .val (.ref b1), .val (.ref b4), .val (.ref b9), .val (.ref b16), .val (.int (0 : Int32)), .val (.int (1 : Int32)), .val va, .val vb, .val vc, .val (.int (p3 ^^^ (-1 : Int32)).toInt8.toInt32), .val (.long (p4 ^^^ (-1 : Int64))), .second] [(.ref b16)])) _
      refine XS.iload X49.here hx rfl (hb hby at_158) rfl ?_
      show Steps p.tables e below (T49.setTop (mkF m 160 #[.val (.int p0), .val (.int p1), .val (.long p2), .second, .val (.int p3), .val (.long p4), .second, .val (.int p5), .val (.ref b1), .val (.ref b4), .val (.ref b9), .val (.ref b16), .val (.int (0 : Int32)), .val (.int (1 : Int32)), .val va, .val vb, .val vc, .val (.int (p3 ^^^ (-1 : Int32)).toInt8.toInt32), .val (.long (p4 ^^^ (-1 : Int64))), .second] [(.int (0 : Int32)), (.ref b16)])) _
      refine st50.trans ?_
      show Steps p.tables e below (T50.setTop (mkF m 163 #[.val (.int p0), .val (.int p1), .val (.long p2), .second, .val (.int p3), .val (.long p4), .second, .val (.int p5), .val (.ref b1), .val (.ref b4), .val (.ref b9), .val (.ref b16), .val (.int (0 : Int32)), .val (.int (1 : Int32)), .val va, .val vb, .val vc, .val (.int (p3 ^^^ (-1 : Int32)).toInt8.toInt32), .val (.long (p4 ^^^ (-1 : Int64))), .second] [(.long p4)])) _
      refine XS.lload X50.here hx rfl (hb hby at_163) rfl ?_
      show Steps p.tables e below (T50.setTop (mkF m 165 #[.val (.int p0), .val (.int p1), .val (.long p2), .second, .val (.int p3), .val (.long p4), .second, .val (.int p5), .val (.ref b1), .val (.ref b4), .val (.ref b9), .val (.ref b16), .val (.int (0 : Int32)), .val (.int (1 : Int32)), .val va, .val vb, .val vc, .val (.int (p3 ^^^ (-1 : Int32)).toInt8.toInt32), .val (.long (p4 ^^^ (-1 : Int64))), .second] [(.long p4), (.long p4)])) _
      refine XT.lcmp X50.here hx rfl (hb hby at_165) rfl ?_
      show Steps p.tables e below (T50.setTop (mkF m 166 #[.val (.int p0), .val (.int p1), .val (.long p2), .second, .val (.int p3), .val (.long p4), .second, .val (.int p5), .val (.ref b1), .val (.ref b4), .val (.ref b9), .val (.ref b16), .val (.int (0 : Int32)), .val (.int (1 : Int32)), .val va, .val vb, .val vc, .val (.int (p3 ^^^ (-1 : Int32)).toInt8.toInt32), .val (.long (p4 ^^^ (-1 : Int64))), .second] [(.int (XT.cmpL p4 p4))])) _
      refine XS.ifNo X50.here hx rfl (hb hby at_166) rfl (XT.ll_ne_f rfl) ?_
      show Steps p.tables e below (T50.setTop (mkF m 169 #[.val (.int p0), .val (.int p1), .val (.long p2), .second, .val (.int p3), .val (.long p4), .second, .val (.int p5), .val (.ref b1), .val (.ref b4), .val (.ref b9), .val (.ref b16), .val (.int (0 : Int32)), .val (.int (1 : Int32)), .val va, .val vb, .val vc, .val (.int (p3 ^^^ (-1 : Int32)).toInt8.toInt32), .val (.long (p4 ^^^ (-1 : Int64))), .second] [])) _
      refine XS.aload X50.here hx rfl (hb hby at_169) rfl rfl ?_
      show Steps p.tables e below (T50.setTop (mkF m 171 #[.val (.int p0), .val (.int p1), .val (.long p2), .second, .val (.int p3), .val (.long p4), .second, .val (.int p5), .val (.ref b1), .val (.ref b4), .val (.ref b9), .val (.ref b16), .val (.int (0 : Int32)), .val (.int (1 : Int32)), .val va, .val vb, .val vc, .val (.int (p3 ^^^ (-1 : Int32)).toInt8.toInt32), .val (.long (p4 ^^^ (-1 : Int64))), .second] [(.ref b16)])) _
      refine XS.iload X50.here hx rfl (hb hby at_171) rfl ?_
      show Steps p.tables e below (T50.setTop (mkF m 173 #[.val (.int p0), .val (.int p1), .val (.long p2), .second, .val (.int p3), .val (.long p4), .second, .val (.int p5), .val (.ref b1), .val (.ref b4), .val (.ref b9), .val (.ref b16), .val (.int (0 : Int32)), .val (.int (1 : Int32)), .val va, .val vb, .val vc, .val (.int (p3 ^^^ (-1 : Int32)).toInt8.toInt32), .val (.long (p4 ^^^ (-1 : Int64))), .second] [(.int (0 : Int32)), (.ref b16)])) _
      refine st51.trans ?_
      show Steps p.tables e below (T51.setTop (mkF m 176 #[.val (.int p0), .val (.int p1), .val (.long p2), .second, .val (.int p3), .val (.long p4), .second, .val (.int p5), .val (.ref b1), .val (.ref b4), .val (.ref b9), .val (.ref b16), .val (.int (0 : Int32)), .val (.int (1 : Int32)), .val va, .val vb, .val vc, .val (.int (p3 ^^^ (-1 : Int32)).toInt8.toInt32), .val (.long (p4 ^^^ (-1 : Int64))), .second] [vb])) _
      refine XS.aload X51.here hx rfl (hb hby at_176) rfl Bvb.isRef ?_
      show Steps p.tables e below (T51.setTop (mkF m 178 #[.val (.int p0), .val (.int p1), .val (.long p2), .second, .val (.int p3), .val (.long p4), .second, .val (.int p5), .val (.ref b1), .val (.ref b4), .val (.ref b9), .val (.ref b16), .val (.int (0 : Int32)), .val (.int (1 : Int32)), .val va, .val vb, .val vc, .val (.int (p3 ^^^ (-1 : Int32)).toInt8.toInt32), .val (.long (p4 ^^^ (-1 : Int64))), .second] [vb, vb])) _
      refine XT.acmpNo X51.here hx rfl (hb hby at_178) rfl Bvb.isRef Bvb.isRef (XT.aa_ne_f rfl) ?_
      show Steps p.tables e below (T51.setTop (mkF m 181 #[.val (.int p0), .val (.int p1), .val (.long p2), .second, .val (.int p3), .val (.long p4), .second, .val (.int p5), .val (.ref b1), .val (.ref b4), .val (.ref b9), .val (.ref b16), .val (.int (0 : Int32)), .val (.int (1 : Int32)), .val va, .val vb, .val vc, .val (.int (p3 ^^^ (-1 : Int32)).toInt8.toInt32), .val (.long (p4 ^^^ (-1 : Int64))), .second] [])) _
      refine XS.aload X51.here hx rfl (hb hby at_181) rfl rfl ?_
      show Steps p.tables e below (T51.setTop (mkF m 183 #[.val (.int p0), .val (.int p1), .val (.long p2), .second, .val (.int p3), .val (.long p4), .second, .val (.int p5), .val (.ref b1), .val (.ref b4), .val (.ref b9), .val (.ref b16), .val (.int (0 : Int32)), .val (.int (1 : Int32)), .val va, .val vb, .val vc, .val (.int (p3 ^^^ (-1 : Int32)).toInt8.toInt32), .val (.long (p4 ^^^ (-1 : Int64))), .second] [(.ref b16)])) _
      refine XS.iload X51.here hx rfl (hb hby at_183) rfl ?_
      show Steps p.tables e below (T51.setTop (mkF m 185 #[.val (.int p0), .val (.int p1), .val (.long p2), .second, .val (.int p3), .val (.long p4), .second, .val (.int p5), .val (.ref b1), .val (.ref b4), .val (.ref b9), .val (.ref b16), .val (.int (0 : Int32)), .val (.int (1 : Int32)), .val va, .val vb, .val vc, .val (.int (p3 ^^^ (-1 : Int32)).toInt8.toInt32), .val (.long (p4 ^^^ (-1 : Int64))), .second] [(.int (1 : Int32)), (.ref b16)])) _
      refine st52.trans ?_
      show Steps p.tables e below (T52.setTop (mkF m 188 #[.val (.int p0), .val (.int p1), .val (.long p2), .second, .val (.int p3), .val (.long p4), .second, .val (.int p5), .val (.ref b1), .val (.ref b4), .val (.ref b9), .val (.ref b16), .val (.int (0 : Int32)), .val (.int (1 : Int32)), .val va, .val vb, .val vc, .val (.int (p3 ^^^ (-1 : Int32)).toInt8.toInt32), .val (.long (p4 ^^^ (-1 : Int64))), .second] [(.int (nar .byte (nar .byte (p3 ^^^ (-1 : Int32)).toInt8.toInt32)))])) _
      refine XS.iload X52.here hx rfl (hb hby at_188) rfl ?_
      show Steps p.tables e below (T52.setTop (mkF m 190 #[.val (.int p0), .val (.int p1), .val (.long p2), .second, .val (.int p3), .val (.long p4), .second, .val (.int p5), .val (.ref b1), .val (.ref b4), .val (.ref b9), .val (.ref b16), .val (.int (0 : Int32)), .val (.int (1 : Int32)), .val va, .val vb, .val vc, .val (.int (p3 ^^^ (-1 : Int32)).toInt8.toInt32), .val (.long (p4 ^^^ (-1 : Int64))), .second] [(.int (p3 ^^^ (-1 : Int32)).toInt8.toInt32), (.int (nar .byte (nar .byte (p3 ^^^ (-1 : Int32)).toInt8.toInt32)))])) _
      refine XS.icmpNo X52.here hx rfl (hb hby at_190) rfl (XT.ii_ne_f (by simp only [own_nb])) ?_
      show Steps p.tables e below (T52.setTop (mkF m 193 #[.val (.int p0), .val (.int p1), .val (.long p2), .second, .val (.int p3), .val (.long p4), .second, .val (.int p5), .val (.ref b1), .val (.ref b4), .val (.ref b9), .val (.ref b16), .val (.int (0 : Int32)), .val (.int (1 : Int32)), .val va, .val vb, .val vc, .val (.int (p3 ^^^ (-1 : Int32)).toInt8.toInt32), .val (.long (p4 ^^^ (-1 : Int64))), .second] [])) _
      refine XS.aload X52.here hx rfl (hb hby at_193) rfl rfl ?_
      show Steps p.tables e below (T52.setTop (mkF m 195 #[.val (.int p0), .val (.int p1), .val (.long p2), .second, .val (.int p3), .val (.long p4), .second, .val (.int p5), .val (.ref b1), .val (.ref b4), .val (.ref b9), .val (.ref b16), .val (.int (0 : Int32)), .val (.int (1 : Int32)), .val va, .val vb, .val vc, .val (.int (p3 ^^^ (-1 : Int32)).toInt8.toInt32), .val (.long (p4 ^^^ (-1 : Int64))), .second] [(.ref b16)])) _
      refine XS.iload X52.here hx rfl (hb hby at_195) rfl ?_
      show Steps p.tables e below (T52.setTop (mkF m 197 #[.val (.int p0), .val (.int p1), .val (.long p2), .second, .val (.int p3), .val (.long p4), .second, .val (.int p5), .val (.ref b1), .val (.ref b4), .val (.ref b9), .val (.ref b16), .val (.int (0 : Int32)), .val (.int (1 : Int32)), .val va, .val vb, .val vc, .val (.int (p3 ^^^ (-1 : Int32)).toInt8.toInt32), .val (.long (p4 ^^^ (-1 : Int64))), .second] [(.int (1 : Int32)), (.ref b16)])) _
      refine st53.trans ?_
      show Steps p.tables e below (T53.setTop (mkF m 200 #[.val (.int p0), .val (.int p1), .val (.long p2), .second, .val (.int p3), .val (.long p4), .second, .val (.int p5), .val (.ref b1), .val (.ref b4), .val (.ref b9), .val (.ref b16), .val (.int (0 : Int32)), .val (.int (1 : Int32)), .val va, .val vb, .val vc, .val (.int (p3 ^^^ (-1 : Int32)).toInt8.toInt32), .val (.long (p4 ^^^ (-1 : Int64))), .second] [(.long (p4 ^^^ (-1 : Int64)))])) _
      refine XS.lload X53.here hx rfl (hb hby at_200) rfl ?_
      show Steps p.tables e below (T53.setTop (mkF m 202 #[.val (.int p0), .val (.int p1), .val (.long p2), .second, .val (.int p3), .val (.long p4), .second, .val (.int p5), .val (.ref b1), .val (.ref b4), .val (.ref b9), .val (.ref b16), .val (.int (0 : Int32)), .val (.int (1 : Int32)), .val va, .val vb, .val vc, .val (.int (p3 ^^^ (-1 : Int32)).toInt8.toInt32), .val (.long (p4 ^^^ (-1 : Int64))), .second] [(.long (p4 ^^^ (-1 : Int64))), (.long (p4 ^^^ (-1 : Int64)))])) _
      refine XT.lcmp X53.here hx rfl (hb hby at_202) rfl ?_
      show Steps p.tables e below (T53.setTop (mkF m 203 #[.val (.int p0), .val (.int p1), .val (.long p2), .second, .val (.int p3), .val (.long p4), .second, .val (.int p5), .val (.ref b1), .val (.ref b4), .val (.ref b9), .val (.ref b16), .val (.int (0 : Int32)), .val (.int (1 : Int32)), .val va, .val vb, .val vc, .val (.int (p3 ^^^ (-1 : Int32)).toInt8.toInt32), .val (.long (p4 ^^^ (-1 : Int64))), .second] [(.int (XT.cmpL (p4 ^^^ (-1 : Int64)) (p4 ^^^ (-1 : Int64))))])) _
      refine XS.ifNo X53.here hx rfl (hb hby at_203) rfl (XT.ll_ne_f rfl) ?_
      show Steps p.tables e below (T53.setTop (mkF m 206 #[.val (.int p0), .val (.int p1), .val (.long p2), .second, .val (.int p3), .val (.long p4), .second, .val (.int p5), .val (.ref b1), .val (.ref b4), .val (.ref b9), .val (.ref b16), .val (.int (0 : Int32)), .val (.int (1 : Int32)), .val va, .val vb, .val vc, .val (.int (p3 ^^^ (-1 : Int32)).toInt8.toInt32), .val (.long (p4 ^^^ (-1 : Int64))), .second] [])) _
      refine XS.aload X53.here hx rfl (hb hby at_206) rfl rfl ?_
      show Steps p.tables e below (T53.setTop (mkF m 208 #[.val (.int p0), .val (.int p1), .val (.long p2), .second, .val (.int p3), .val (.long p4), .second, .val (.int p5), .val (.ref b1), .val (.ref b4), .val (.ref b9), .val (.ref b16), .val (.int (0 : Int32)), .val (.int (1 : Int32)), .val va, .val vb, .val vc, .val (.int (p3 ^^^ (-1 : Int32)).toInt8.toInt32), .val (.long (p4 ^^^ (-1 : Int64))), .second] [(.ref b16)])) _
      refine XS.iload X53.here hx rfl (hb hby at_208) rfl ?_
      show Steps p.tables e below (T53.setTop (mkF m 210 #[.val (.int p0), .val (.int p1), .val (.long p2), .second, .val (.int p3), .val (.long p4), .second, .val (.int p5), .val (.ref b1), .val (.ref b4), .val (.ref b9), .val (.ref b16), .val (.int (0 : Int32)), .val (.int (1 : Int32)), .val va, .val vb, .val vc, .val (.int (p3 ^^^ (-1 : Int32)).toInt8.toInt32), .val (.long (p4 ^^^ (-1 : Int64))), .second] [(.int (1 : Int32)), (.ref b16)])) _
      refine st54.trans ?_
      show Steps p.tables e below (T54.setTop (mkF m 213 #[.val (.int p0), .val (.int p1), .val (.long p2), .second, .val (.int p3), .val (.long p4), .second, .val (.int p5), .val (.ref b1), .val (.ref b4), .val (.ref b9), .val (.ref b16), .val (.int (0 : Int32)), .val (.int (1 : Int32)), .val va, .val vb, .val vc, .val (.int (p3 ^^^ (-1 : Int32)).toInt8.toInt32), .val (.long (p4 ^^^ (-1 : Int64))), .second] [vc])) _
      refine XS.aload X54.here hx rfl (hb hby at_213) rfl Bvc.isRef ?_
      show Steps p.tables e below (T54.setTop (mkF m 215 #[.val (.int p0), .val (.int p1), .val (.long p2), .second, .val (.int p3), .val (.long p4), .second, .val (.int p5), .val (.ref b1), .val (.ref b4), .val (.ref b9), .val (.ref b16), .val (.int (0 : Int32)), .val (.int (1 : Int32)), .val va, .val vb, .val vc, .val (.int (p3 ^^^ (-1 : Int32)).toInt8.toInt32), .val (.long (p4 ^^^ (-1 : Int64))), .second] [vc, vc])) _
      refine XT.acmpNo X54.here hx rfl (hb hby at_215) rfl Bvc.isRef Bvc.isRef (XT.aa_ne_f rfl) ?_
      show Steps p.tables e below (T54.setTop (mkF m 218 #[.val (.int p0), .val (.int p1), .val (.long p2), .second, .val (.int p3), .val (.long p4), .second, .val (.int p5), .val (.ref b1), .val (.ref b4), .val (.ref b9), .val (.ref b16), .val (.int (0 : Int32)), .val (.int (1 : Int32)), .val va, .val vb, .val vc, .val (.int (p3 ^^^ (-1 : Int32)).toInt8.toInt32), .val (.long (p4 ^^^ (-1 : Int64))), .second] [])) _
      refine XS.iconst X54.here hx rfl (hb hby at_218) ?_
      show Steps p.tables e below (T54.setTop (mkF m 219 #[.val (.int p0), .val (.int p1), .val (.long p2), .second, .val (.int p3), .val (.long p4), .second, .val (.int p5), .val (.ref b1), .val (.ref b4), .val (.ref b9), .val (.ref b16), .val (.int (0 : Int32)), .val (.int (1 : Int32)), .val va, .val vb, .val vc, .val (.int (p3 ^^^ (-1 : Int32)).toInt8.toInt32), .val (.long (p4 ^^^ (-1 : Int64))), .second] [(.int (1 : Int32))])) _
      refine XS.goto X54.here hx rfl (pc0 := 219) (pc' := 223) rfl (hb hby at_219) (by decide) (by decide) ?_
      exact kt
    obtain ⟨fs, hr, hrun, hended, hW, hsame⟩ := X54.leave (v := some (.int (1 : Int32))) (fun h => by rw [Bd.returns] at h; cases h)
    refine ⟨_, _, pre55 _ ?_, hrun, hended, _, _, rfl, ?_, ⟨_, rfl⟩, hW, hsame.mono (by decide) (by decide)⟩
    · show Steps p.tables e below (T54.setTop (mkF m 223 #[.val (.int p0), .val (.int p1), .val (.long p2), .second, .val (.int p3), .val (.long p4), .second, .val (.int p5), .val (.ref b1), .val (.ref b4), .val (.ref b9), .val (.ref b16), .val (.int (0 : Int32)), .val (.int (1 : Int32)), .val va, .val vb, .val vc, .val (.int (p3 ^^^ (-1 : Int32)).toInt8.toInt32), .val (.long (p4 ^^^ (-1 : Int64))), .second] [(.int (1 : Int32))])) _
      exact retN X54 hx (t := .boolean) Bd.returns (by simp) (hb hby at_223) hr
    · show Q0 Z h0 n0 _ T54.heap _
      exact ⟨rfl, N54⟩
theorem pn01 : plainName "com/example/hornbrook/hornbrook/CellsSetPinLaw" = true := by first | (simp [plainName, overriddenIn]; done) | decide +kernel
theorem pd01_0 : parseMethodDescriptor "(I)V" = some ⟨[.int], none⟩ := by decide +kernel
theorem pd01_1 : parseMethodDescriptor "(IBJ[B)V" = some ⟨[.int, .byte, .long, (.array .byte)], none⟩ := by decide +kernel
theorem pd01_2 : parseMethodDescriptor "(I)B" = some ⟨[.int], some .byte⟩ := by decide +kernel
theorem pd01_3 : parseMethodDescriptor "(I)J" = some ⟨[.int], some .long⟩ := by decide +kernel
theorem pd01_4 : parseMethodDescriptor "(I)[B" = some ⟨[.int], some (.array .byte)⟩ := by decide +kernel
theorem ef01 (m : MethodId) (x0 : Int32) (x1 : Int32) (x2 : Int64) (x3 : Int32) (x4 : Int64) (x5 : Int32) : entryFrame m #[(.int x0), (.int x1), (.long x2), (.int x3), (.long x4), (.int x5)] maxLocals = mkF m 0 #[.val (.int x0), .val (.int x1), .val (.long x2), .second, .val (.int x3), .val (.long x4), .second, .val (.int x5), .unset, .unset, .unset, .unset, .unset, .unset, .unset, .unset, .unset, .unset, .unset, .unset] [] := by first | (simp [entryFrame, mkF, argsToLocals, Value.category, maxLocals]; done) | rfl
set_option maxRecDepth 65536 in
set_option maxHeartbeats 40000000 in
theorem rm01 (l : Launch) (Z : State) (a0 : Array Value) (hw : ∀ d ∈ tables_1, d.before a0 Z = true) (ws : List Jvm.Cond) (p0 p1 : Int32) (p2 : Int64) (p3 : Int32) (p4 : Int64) (p5 : Int32) (h0 : Heap) (n0 : Nat) (Z0 : n0 ≤ h0.size) (hat_ : (p0 &&& (1 : Int32)) = (1 : Int32)) :
    MetFree l x (head1 (Jvm.Cond.code x code maxLocals ret :: ws) room_1) (fun aa_ U => aa_ = #[(.int p0), (.int p1), (.long p2), (.int p3), (.long p4), (.int p5)] ∧ Z.Warmed39 U.vm ∧ U.heap = h0) (fun _ _ _ _ _ => True) (fun _ U o U' => ∃ vv_ LL_, o = .returned vv_ ∧ Q0 Z h0 n0 vv_ U'.heap LL_ ∧ FrameEnd U o U' LL_ room_1.cells room_1.slots) := by
  refine MetFree.of_bodySF (plainFor_of_name pn01) hisR ?_
  intro p e s m args below meth c s₁ Bd hml0 hP hK
  obtain ⟨rfl, hZ, hh⟩ := hP
  have hx := Bd.exec
  have hby := Bd.bytes
  have hml : c.maxLocals = 20 := hml0
  have hown : s.vm.findClass "com/example/hornbrook/hornbrook/CellsSetPinLaw" = some m.cls := findClass_of_methodNamed Bd.named
  have hnm := (name_of_methodNamed Bd.named Bd.method).1
  have X0 : Stand p l e room_1 s m #[(.int p0), (.int p1), (.long p2), (.int p3), (.long p4), (.int p5)] below meth c s₁ [] 0 0 := Stand.of_body Bd
  have e0 : s₁.heap = h0 := by rw [← hh, Bd.state]; rfl
  have N0 := Fr.nil n0
  have pre0 : ∀ tg_, Steps p.tables e below (s₁.setTop (mkF m 0 #[.val (.int p0), .val (.int p1), .val (.long p2), .second, .val (.int p3), .val (.long p4), .second, .val (.int p5), .unset, .unset, .unset, .unset, .unset, .unset, .unset, .unset, .unset, .unset, .unset, .unset] [])) tg_ → Steps p.tables e below (s₁.setTop (entryFrame m #[(.int p0), (.int p1), (.long p2), (.int p3), (.long p4), (.int p5)] maxLocals)) tg_ := fun tg_ kt => castTop (ef01 m p0 p1 p2 p3 p4 p5) kt
  obtain ⟨T1, h1, k1, X1, e1, E1, A1, M1, st1⟩ := newPE X0 hx hZ (hw _ (List.mem_of_getElem? (i := 0) rfl)) e0 (g := (mkF m 1 #[.val (.int p0), .val (.int p1), .val (.long p2), .second, .val (.int p3), .val (.long p4), .second, .val (.int p5), .unset, .unset, .unset, .unset, .unset, .unset, .unset, .unset, .unset, .unset, .unset, .unset] [(.int (1 : Int32))])) rfl (hb hby at_1) rfl (by decide) (cap := 1) (by decide) (by decide) (by decide) (by decide) (ad := "[B") (by first | rfl | decide +kernel)
  obtain ⟨b1, g1⟩ : ∃ z, z = h0.size := ⟨_, rfl⟩
  rw [← g1] at A1 M1 st1
  have V1 : Arv Z h1 b1 k1 .byte (1 : Int32) [(.int (0 : Int32))] (.int (0 : Int32)) := (Arv.new A1 (by decide)).pad (pad_rep [] (.int (0 : Int32)) 1)
  have gb_b1 : n0 ≤ b1 := Nat.le_trans Z0 (Nat.le_of_eq g1.symm)
  have sz_b1 : h0.size ≤ b1 := Nat.le_trans (Keep.refl h0 []).1 (Nat.le_of_eq g1.symm)
  have K2 : Keep h0 h1 [] := (Keep.refl h0 []).ext E1
  have Z3 : n0 ≤ h1.size := Nat.le_trans Z0 E1.1
  obtain ⟨T4, h4, k4, X4, e4, E4, A4, M4, st4⟩ := newPE X1 hx hZ (hw _ (List.mem_of_getElem? (i := 0) rfl)) e1 (g := (mkF m 6 #[.val (.int p0), .val (.int p1), .val (.long p2), .second, .val (.int p3), .val (.long p4), .second, .val (.int p5), .val (.ref b1), .unset, .unset, .unset, .unset, .unset, .unset, .unset, .unset, .unset, .unset, .unset] [(.int (2 : Int32))])) rfl (hb hby at_6) rfl (by decide) (cap := 2) (by decide) (by decide) (by decide) (by decide) (ad := "[B") (by first | rfl | decide +kernel)
  obtain ⟨b4, g4⟩ : ∃ z, z = h1.size := ⟨_, rfl⟩
  rw [← g4] at A4 M4 st4
  have V4 : Arv Z h4 b4 k4 .byte (2 : Int32) [(.int (0 : Int32)), (.int (0 : Int32))] (.int (0 : Int32)) := (Arv.new A4 (by decide)).pad (pad_rep [] (.int (0 : Int32)) 2)
  have d_b1_b4 : b1 ≠ b4 := Nat.ne_of_lt (Nat.lt_of_lt_of_le V1.lt (Nat.le_of_eq g4.symm))
  have gb_b4 : n0 ≤ b4 := Nat.le_trans Z3 (Nat.le_of_eq g4.symm)
  have sz_b4 : h0.size ≤ b4 := Nat.le_trans K2.1 (Nat.le_of_eq g4.symm)
  have f4_5 := V1.ext E4
  have f4_6 := M1.ext E4
  have K7 : Keep h0 h4 [] := K2.ext E4
  have Z8 : n0 ≤ h4.size := Nat.le_trans Z3 E4.1
  obtain ⟨T9, h9, k9, X9, e9, E9, A9, M9, st9⟩ := newPE X4 hx hZ (hw _ (List.mem_of_getElem? (i := 0) rfl)) e4 (g := (mkF m 11 #[.val (.int p0), .val (.int p1), .val (.long p2), .second, .val (.int p3), .val (.long p4), .second, .val (.int p5), .val (.ref b1), .val (.ref b4), .unset, .unset, .unset, .unset, .unset, .unset, .unset, .unset, .unset, .unset] [(.int (3 : Int32))])) rfl (hb hby at_11) rfl (by decide) (cap := 3) (by decide) (by decide) (by decide) (by decide) (ad := "[B") (by first | rfl | decide +kernel)
  obtain ⟨b9, g9⟩ : ∃ z, z = h4.size := ⟨_, rfl⟩
  rw [← g9] at A9 M9 st9
  have V9 : Arv Z h9 b9 k9 .byte (3 : Int32) [(.int (0 : Int32)), (.int (0 : Int32)), (.int (0 : Int32))] (.int (0 : Int32)) := (Arv.new A9 (by decide)).pad (pad_rep [] (.int (0 : Int32)) 3)
  have d_b1_b9 : b1 ≠ b9 := Nat.ne_of_lt (Nat.lt_of_lt_of_le f4_5.lt (Nat.le_of_eq g9.symm))
  have d_b4_b9 : b4 ≠ b9 := Nat.ne_of_lt (Nat.lt_of_lt_of_le V4.lt (Nat.le_of_eq g9.symm))
  have gb_b9 : n0 ≤ b9 := Nat.le_trans Z8 (Nat.le_of_eq g9.symm)
  have sz_b9 : h0.size ≤ b9 := Nat.le_trans K7.1 (Nat.le_of_eq g9.symm)
  have f9_10 := f4_5.ext E9
  have f9_11 := f4_6.ext E9
  have f9_12 := V4.ext E9
  have f9_13 := M4.ext E9
  have K14 : Keep h0 h9 [] := K7.ext E9
  have Z15 : n0 ≤ h9.size := Nat.le_trans Z8 E9.1
  obtain ⟨T16, h16, X16, e16, E16, A16, D16, -, st16⟩ := newO X9 hx hZ hown (hw _ (List.mem_of_getElem? (i := 1) rfl)) (hw _ (List.mem_of_getElem? (i := 2) rfl)) (hw _ (List.mem_of_getElem? (i := 3) rfl)) e9 (g := (mkF m 15 #[.val (.int p0), .val (.int p1), .val (.long p2), .second, .val (.int p3), .val (.long p4), .second, .val (.int p5), .val (.ref b1), .val (.ref b4), .val (.ref b9), .unset, .unset, .unset, .unset, .unset, .unset, .unset, .unset, .unset] [])) rfl (hb hby at_15) (by decide) (by decide)
  obtain ⟨b16, g16⟩ : ∃ z, z = h9.size := ⟨_, rfl⟩
  rw [← g16] at A16 D16 st16
  have F16_kinds : Fld Z h16 b16 "com/example/hornbrook/hornbrook/Cells" "kinds" "[B" .null := D16 (Or.inr (hw _ (List.mem_of_getElem? (i := 11) rfl))) (ty := (.array .byte)) (by decide)
  have F16_words : Fld Z h16 b16 "com/example/hornbrook/hornbrook/Cells" "words" "[J" .null := D16 (Or.inr (hw _ (List.mem_of_getElem? (i := 14) rfl))) (ty := (.array .long)) (by decide)
  have F16_bytes : Fld Z h16 b16 "com/example/hornbrook/hornbrook/Cells" "bytes" "[[B" .null := D16 (Or.inr (hw _ (List.mem_of_getElem? (i := 18) rfl))) (ty := (.array (.array .byte))) (by decide)
  have d_b1_b16 : b1 ≠ b16 := Nat.ne_of_lt (Nat.lt_of_lt_of_le f9_10.lt (Nat.le_of_eq g16.symm))
  have d_b4_b16 : b4 ≠ b16 := Nat.ne_of_lt (Nat.lt_of_lt_of_le f9_12.lt (Nat.le_of_eq g16.symm))
  have d_b9_b16 : b9 ≠ b16 := Nat.ne_of_lt (Nat.lt_of_lt_of_le V9.lt (Nat.le_of_eq g16.symm))
  have gb_b16 : n0 ≤ b16 := Nat.le_trans Z15 (Nat.le_of_eq g16.symm)
  have sz_b16 : h0.size ≤ b16 := Nat.le_trans K14.1 (Nat.le_of_eq g16.symm)
  have f16_17 := f9_10.ext E16
  have f16_18 := f9_11.ext E16
  have f16_19 := f9_12.ext E16
  have f16_20 := f9_13.ext E16
  have f16_21 := V9.ext E16
  have f16_22 := M9.ext E16
  have K23 : Keep h0 h16 [] := K14.ext E16
  have Z24 : n0 ≤ h16.size := Nat.le_trans Z15 E16.1
  obtain ⟨_, _, ⟨T25, L25, k25, n25⟩, -, X25, ⟨Lc25, hQ25, l25, y25, z25⟩, st25⟩ := X16.specialBack hx (y := (⟨"com/example/hornbrook/hornbrook/Cells", "<init>", "(I)V"⟩ : MethodName)) rfl hown (mvT hZ (hw _ (List.mem_of_getElem? (i := 4) rfl))) (mvT hZ (hw _ (List.mem_of_getElem? (i := 5) rfl))) (mvT hZ (hw _ (List.mem_of_getElem? (i := 6) rfl))) (by decide) (backOf (W := 1) (rm1 l Z a0 hw [] b16 h16 n0 Z24 A16 F16_kinds F16_words F16_bytes gb_b16) hZ (hw _ (List.mem_of_getElem? (i := 6) rfl)) (hw _ (List.mem_of_getElem? (i := 3) rfl)) (by decide) (by decide)) (g := (mkF m 20 #[.val (.int p0), .val (.int p1), .val (.long p2), .second, .val (.int p3), .val (.long p4), .second, .val (.int p5), .val (.ref b1), .val (.ref b4), .val (.ref b9), .unset, .unset, .unset, .unset, .unset, .unset, .unset, .unset, .unset] [(.int (2 : Int32)), (.ref b16), (.ref b16)])) rfl (by rw [hml]; rfl) (Steps.refl _) (a := b16) (argsL := [(.int (2 : Int32))]) (rest := [(.ref b16)]) (lenOf pd01_0 rfl) rfl (by show 2 * 0 + _ ≤ _; exact Nat.le_of_eq rfl) (hb hby at_20) (fun _ _ => ⟨rfl, e16, (by decide : 4 + 3 ≤ _), (by decide : 9 + 6 ≤ _)⟩)
  dsimp only [Pt.U, Pt.locs, Pt.cells, Pt.slots] at X25 l25 y25 z25 st25 hQ25
  subst l25 y25 z25
  obtain ⟨rfl, N25q, KC25, ka, wa, ba, ck, cw, cb, C25⟩ := hQ25
  have ex0_25 := f16_18.keep KC25
  have ex1_25 := f16_20.keep KC25
  have ex2_25 := f16_22.keep KC25
  have N25 := Fr.app N0 N25q
  have pre26 : ∀ tg_, Steps p.tables e below (T25.setTop (mkF m 40 #[.val (.int p0), .val (.int p1), .val (.long p2), .second, .val (.int p3), .val (.long p4), .second, .val (.int p5), .val (.ref b1), .val (.ref b4), .val (.ref b9), .val (.ref b16), .val (.int (1 : Int32)), .val (.int (0 : Int32)), .unset, .unset, .unset, .unset, .unset, .unset] [(.int (p5 &&& (1 : Int32)))])) tg_ → Steps p.tables e below (s₁.setTop (entryFrame m #[(.int p0), (.int p1), (.long p2), (.int p3), (.long p4), (.int p5)] maxLocals)) tg_ := by
    intro tg_ kt
    refine pre0 _ ?_
    show Steps p.tables e below (s₁.setTop (mkF m 0 #[.val (.int p0), .val (.int p1), .val (.long p2), .second, .val (.int p3), .val (.long p4), .second, .val (.int p5), .unset, .unset, .unset, .unset, .unset, .unset, .unset, .unset, .unset, .unset, .unset, .unset] [])) _
    refine XS.iconst X0.here hx rfl (hb hby at_0) ?_
    show Steps p.tables e below (s₁.setTop (mkF m 1 #[.val (.int p0), .val (.int p1), .val (.long p2), .second, .val (.int p3), .val (.long p4), .second, .val (.int p5), .unset, .unset, .unset, .unset, .unset, .unset, .unset, .unset, .unset, .unset, .unset, .unset] [(.int (1 : Int32))])) _
    refine st1 _ ?_
    show Steps p.tables e below (T1.setTop (mkF m 3 #[.val (.int p0), .val (.int p1), .val (.long p2), .second, .val (.int p3), .val (.long p4), .second, .val (.int p5), .unset, .unset, .unset, .unset, .unset, .unset, .unset, .unset, .unset, .unset, .unset, .unset] [(.ref b1)])) _
    refine XS.astore X1.here hx rfl (hb hby at_3) rfl rfl (l' := #[.val (.int p0), .val (.int p1), .val (.long p2), .second, .val (.int p3), .val (.long p4), .second, .val (.int p5), .val (.ref b1), .unset, .unset, .unset, .unset, .unset, .unset, .unset, .unset, .unset, .unset, .unset]) rfl ?_
    show Steps p.tables e below (T1.setTop (mkF m 5 #[.val (.int p0), .val (.int p1), .val (.long p2), .second, .val (.int p3), .val (.long p4), .second, .val (.int p5), .val (.ref b1), .unset, .unset, .unset, .unset, .unset, .unset, .unset, .unset, .unset, .unset, .unset] [])) _
    refine XS.iconst X1.here hx rfl (hb hby at_5) ?_
    show Steps p.tables e below (T1.setTop (mkF m 6 #[.val (.int p0), .val (.int p1), .val (.long p2), .second, .val (.int p3), .val (.long p4), .second, .val (.int p5), .val (.ref b1), .unset, .unset, .unset, .unset, .unset, .unset, .unset, .unset, .unset, .unset, .unset] [(.int (2 : Int32))])) _
    refine st4 _ ?_
    show Steps p.tables e below (T4.setTop (mkF m 8 #[.val (.int p0), .val (.int p1), .val (.long p2), .second, .val (.int p3), .val (.long p4), .second, .val (.int p5), .val (.ref b1), .unset, .unset, .unset, .unset, .unset, .unset, .unset, .unset, .unset, .unset, .unset] [(.ref b4)])) _
    refine XS.astore X4.here hx rfl (hb hby at_8) rfl rfl (l' := #[.val (.int p0), .val (.int p1), .val (.long p2), .second, .val (.int p3), .val (.long p4), .second, .val (.int p5), .val (.ref b1), .val (.ref b4), .unset, .unset, .unset, .unset, .unset, .unset, .unset, .unset, .unset, .unset]) rfl ?_
    show Steps p.tables e below (T4.setTop (mkF m 10 #[.val (.int p0), .val (.int p1), .val (.long p2), .second, .val (.int p3), .val (.long p4), .second, .val (.int p5), .val (.ref b1), .val (.ref b4), .unset, .unset, .unset, .unset, .unset, .unset, .unset, .unset, .unset, .unset] [])) _
    refine XS.iconst X4.here hx rfl (hb hby at_10) ?_
    show Steps p.tables e below (T4.setTop (mkF m 11 #[.val (.int p0), .val (.int p1), .val (.long p2), .second, .val (.int p3), .val (.long p4), .second, .val (.int p5), .val (.ref b1), .val (.ref b4), .unset, .unset, .unset, .unset, .unset, .unset, .unset, .unset, .unset, .unset] [(.int (3 : Int32))])) _
    refine st9 _ ?_
    show Steps p.tables e below (T9.setTop (mkF m 13 #[.val (.int p0), .val (.int p1), .val (.long p2), .second, .val (.int p3), .val (.long p4), .second, .val (.int p5), .val (.ref b1), .val (.ref b4), .unset, .unset, .unset, .unset, .unset, .unset, .unset, .unset, .unset, .unset] [(.ref b9)])) _
    refine XS.astore X9.here hx rfl (hb hby at_13) rfl rfl (l' := #[.val (.int p0), .val (.int p1), .val (.long p2), .second, .val (.int p3), .val (.long p4), .second, .val (.int p5), .val (.ref b1), .val (.ref b4), .val (.ref b9), .unset, .unset, .unset, .unset, .unset, .unset, .unset, .unset, .unset]) rfl ?_
    show Steps p.tables e below (T9.setTop (mkF m 15 #[.val (.int p0), .val (.int p1), .val (.long p2), .second, .val (.int p3), .val (.long p4), .second, .val (.int p5), .val (.ref b1), .val (.ref b4), .val (.ref b9), .unset, .unset, .unset, .unset, .unset, .unset, .unset, .unset, .unset] [])) _
    refine st16 _ ?_
    show Steps p.tables e below (T16.setTop (mkF m 18 #[.val (.int p0), .val (.int p1), .val (.long p2), .second, .val (.int p3), .val (.long p4), .second, .val (.int p5), .val (.ref b1), .val (.ref b4), .val (.ref b9), .unset, .unset, .unset, .unset, .unset, .unset, .unset, .unset, .unset] [(.ref b16)])) _
    refine XS.dup X16.here hx rfl (hb hby at_18) rfl rfl ?_
    show Steps p.tables e below (T16.setTop (mkF m 19 #[.val (.int p0), .val (.int p1), .val (.long p2), .second, .val (.int p3), .val (.long p4), .second, .val (.int p5), .val (.ref b1), .val (.ref b4), .val (.ref b9), .unset, .unset, .unset, .unset, .unset, .unset, .unset, .unset, .unset] [(.ref b16), (.ref b16)])) _
    refine XS.iconst X16.here hx rfl (hb hby at_19) ?_
    show Steps p.tables e below (T16.setTop (mkF m 20 #[.val (.int p0), .val (.int p1), .val (.long p2), .second, .val (.int p3), .val (.long p4), .second, .val (.int p5), .val (.ref b1), .val (.ref b4), .val (.ref b9), .unset, .unset, .unset, .unset, .unset, .unset, .unset, .unset, .unset] [(.int (2 : Int32)), (.ref b16), (.ref b16)])) _
    refine st25.trans ?_
    show Steps p.tables e below (T25.setTop (mkF m 23 #[.val (.int p0), .val (.int p1), .val (.long p2), .second, .val (.int p3), .val (.long p4), .second, .val (.int p5), .val (.ref b1), .val (.ref b4), .val (.ref b9), .unset, .unset, .unset, .unset, .unset, .unset, .unset, .unset, .unset] [(.ref b16)])) _
    refine XS.astore X25.here hx rfl (hb hby at_23) rfl rfl (l' := #[.val (.int p0), .val (.int p1), .val (.long p2), .second, .val (.int p3), .val (.long p4), .second, .val (.int p5), .val (.ref b1), .val (.ref b4), .val (.ref b9), .val (.ref b16), .unset, .unset, .unset, .unset, .unset, .unset, .unset, .unset]) rfl ?_
    show Steps p.tables e below (T25.setTop (mkF m 25 #[.val (.int p0), .val (.int p1), .val (.long p2), .second, .val (.int p3), .val (.long p4), .second, .val (.int p5), .val (.ref b1), .val (.ref b4), .val (.ref b9), .val (.ref b16), .unset, .unset, .unset, .unset, .unset, .unset, .unset, .unset] [])) _
    refine XS.iloadN X25.here hx rfl (hb hby at_25) rfl ?_
    show Steps p.tables e below (T25.setTop (mkF m 26 #[.val (.int p0), .val (.int p1), .val (.long p2), .second, .val (.int p3), .val (.long p4), .second, .val (.int p5), .val (.ref b1), .val (.ref b4), .val (.ref b9), .val (.ref b16), .unset, .unset, .unset, .unset, .unset, .unset, .unset, .unset] [(.int p0)])) _
    refine XS.iconst X25.here hx rfl (hb hby at_26) ?_
    show Steps p.tables e below (T25.setTop (mkF m 27 #[.val (.int p0), .val (.int p1), .val (.long p2), .second, .val (.int p3), .val (.long p4), .second, .val (.int p5), .val (.ref b1), .val (.ref b4), .val (.ref b9), .val (.ref b16), .unset, .unset, .unset, .unset, .unset, .unset, .unset, .unset] [(.int (1 : Int32)), (.int p0)])) _
    refine XS.iand X25.here hx rfl (hb hby at_27) rfl ?_
    rw [hat_]
    show Steps p.tables e below (T25.setTop (mkF m 28 #[.val (.int p0), .val (.int p1), .val (.long p2), .second, .val (.int p3), .val (.long p4), .second, .val (.int p5), .val (.ref b1), .val (.ref b4), .val (.ref b9), .val (.ref b16), .unset, .unset, .unset, .unset, .unset, .unset, .unset, .unset] [(.int (1 : Int32))])) _
    refine XS.istore X25.here hx rfl (hb hby at_28) rfl (l' := #[.val (.int p0), .val (.int p1), .val (.long p2), .second, .val (.int p3), .val (.long p4), .second, .val (.int p5), .val (.ref b1), .val (.ref b4), .val (.ref b9), .val (.ref b16), .val (.int (1 : Int32)), .unset, .unset, .unset, .unset, .unset, .unset, .unset]) rfl ?_
    show Steps p.tables e below (T25.setTop (mkF m 30 #[.val (.int p0), .val (.int p1), .val (.long p2), .second, .val (.int p3), .val (.long p4), .second, .val (.int p5), .val (.ref b1), .val (.ref b4), .val (.ref b9), .val (.ref b16), .val (.int (1 : Int32)), .unset, .unset, .unset, .unset, .unset, .unset, .unset] [])) _
    refine XS.iconst X25.here hx rfl (hb hby at_30) ?_
    show Steps p.tables e below (T25.setTop (mkF m 31 #[.val (.int p0), .val (.int p1), .val (.long p2), .second, .val (.int p3), .val (.long p4), .second, .val (.int p5), .val (.ref b1), .val (.ref b4), .val (.ref b9), .val (.ref b16), .val (.int (1 : Int32)), .unset, .unset, .unset, .unset, .unset, .unset, .unset] [(.int (1 : Int32))])) _
    refine XS.iload X25.here hx rfl (hb hby at_31) rfl ?_
    show Steps p.tables e below (T25.setTop (mkF m 33 #[.val (.int p0), .val (.int p1), .val (.long p2), .second, .val (.int p3), .val (.long p4), .second, .val (.int p5), .val (.ref b1), .val (.ref b4), .val (.ref b9), .val (.ref b16), .val (.int (1 : Int32)), .unset, .unset, .unset, .unset, .unset, .unset, .unset] [(.int (1 : Int32)), (.int (1 : Int32))])) _
    refine XS.isub X25.here hx rfl (hb hby at_33) rfl ?_
    rw [show ((1 : Int32) - (1 : Int32)) = (0 : Int32) from rfl]
    show Steps p.tables e below (T25.setTop (mkF m 34 #[.val (.int p0), .val (.int p1), .val (.long p2), .second, .val (.int p3), .val (.long p4), .second, .val (.int p5), .val (.ref b1), .val (.ref b4), .val (.ref b9), .val (.ref b16), .val (.int (1 : Int32)), .unset, .unset, .unset, .unset, .unset, .unset, .unset] [(.int (0 : Int32))])) _
    refine XS.istore X25.here hx rfl (hb hby at_34) rfl (l' := #[.val (.int p0), .val (.int p1), .val (.long p2), .second, .val (.int p3), .val (.long p4), .second, .val (.int p5), .val (.ref b1), .val (.ref b4), .val (.ref b9), .val (.ref b16), .val (.int (1 : Int32)), .val (.int (0 : Int32)), .unset, .unset, .unset, .unset, .unset, .unset]) rfl ?_
    show Steps p.tables e below (T25.setTop (mkF m 36 #[.val (.int p0), .val (.int p1), .val (.long p2), .second, .val (.int p3), .val (.long p4), .second, .val (.int p5), .val (.ref b1), .val (.ref b4), .val (.ref b9), .val (.ref b16), .val (.int (1 : Int32)), .val (.int (0 : Int32)), .unset, .unset, .unset, .unset, .unset, .unset] [])) _
    refine XS.iload X25.here hx rfl (hb hby at_36) rfl ?_
    show Steps p.tables e below (T25.setTop (mkF m 38 #[.val (.int p0), .val (.int p1), .val (.long p2), .second, .val (.int p3), .val (.long p4), .second, .val (.int p5), .val (.ref b1), .val (.ref b4), .val (.ref b9), .val (.ref b16), .val (.int (1 : Int32)), .val (.int (0 : Int32)), .unset, .unset, .unset, .unset, .unset, .unset] [(.int p5)])) _
    refine XS.iconst X25.here hx rfl (hb hby at_38) ?_
    show Steps p.tables e below (T25.setTop (mkF m 39 #[.val (.int p0), .val (.int p1), .val (.long p2), .second, .val (.int p3), .val (.long p4), .second, .val (.int p5), .val (.ref b1), .val (.ref b4), .val (.ref b9), .val (.ref b16), .val (.int (1 : Int32)), .val (.int (0 : Int32)), .unset, .unset, .unset, .unset, .unset, .unset] [(.int (1 : Int32)), (.int p5)])) _
    refine XS.iand X25.here hx rfl (hb hby at_39) rfl ?_
    exact kt
  obtain ⟨va, Bva, pre27⟩ : ∃ va : Value, Byt Z T25.heap va ∧ ∀ tg_, Steps p.tables e below (T25.setTop (mkF m 51 #[.val (.int p0), .val (.int p1), .val (.long p2), .second, .val (.int p3), .val (.long p4), .second, .val (.int p5), .val (.ref b1), .val (.ref b4), .val (.ref b9), .val (.ref b16), .val (.int (1 : Int32)), .val (.int (0 : Int32)), .val va, .unset, .unset, .unset, .unset, .unset] [])) tg_ → Steps p.tables e below (s₁.setTop (entryFrame m #[(.int p0), (.int p1), (.long p2), (.int p3), (.long p4), (.int p5)] maxLocals)) tg_ := by
    by_cases hv28 : (p5 &&& (1 : Int32)) = (0 : Int32)
    · refine ⟨.null, Or.inl rfl, fun tg_ kt => ?_⟩
      refine pre26 _ ?_
      show Steps p.tables e below (T25.setTop (mkF m 40 #[.val (.int p0), .val (.int p1), .val (.long p2), .second, .val (.int p3), .val (.long p4), .second, .val (.int p5), .val (.ref b1), .val (.ref b4), .val (.ref b9), .val (.ref b16), .val (.int (1 : Int32)), .val (.int (0 : Int32)), .unset, .unset, .unset, .unset, .unset, .unset] [(.int (p5 &&& (1 : Int32)))])) _
      refine XS.ifYes X25.here hx rfl (pc0 := 40) (pc' := 48) rfl (hb hby at_40) rfl (XT.i0_eq_t hv28) (by decide) (by decide) ?_
      show Steps p.tables e below (T25.setTop (mkF m 48 #[.val (.int p0), .val (.int p1), .val (.long p2), .second, .val (.int p3), .val (.long p4), .second, .val (.int p5), .val (.ref b1), .val (.ref b4), .val (.ref b9), .val (.ref b16), .val (.int (1 : Int32)), .val (.int (0 : Int32)), .unset, .unset, .unset, .unset, .unset, .unset] [])) _
      refine XS.aconstNull X25.here hx rfl (hb hby at_48) ?_
      show Steps p.tables e below (T25.setTop (mkF m 49 #[.val (.int p0), .val (.int p1), .val (.long p2), .second, .val (.int p3), .val (.long p4), .second, .val (.int p5), .val (.ref b1), .val (.ref b4), .val (.ref b9), .val (.ref b16), .val (.int (1 : Int32)), .val (.int (0 : Int32)), .unset, .unset, .unset, .unset, .unset, .unset] [.null])) _
      refine XS.astore X25.here hx rfl (hb hby at_49) rfl rfl (l' := #[.val (.int p0), .val (.int p1), .val (.long p2), .second, .val (.int p3), .val (.long p4), .second, .val (.int p5), .val (.ref b1), .val (.ref b4), .val (.ref b9), .val (.ref b16), .val (.int (1 : Int32)), .val (.int (0 : Int32)), .val .null, .unset, .unset, .unset, .unset, .unset]) rfl ?_
      exact kt
    · refine ⟨(.ref b1), Or.inr ⟨_, rfl, ex0_25⟩, fun tg_ kt => ?_⟩
      refine pre26 _ ?_
      show Steps p.tables e below (T25.setTop (mkF m 40 #[.val (.int p0), .val (.int p1), .val (.long p2), .second, .val (.int p3), .val (.long p4), .second, .val (.int p5), .val (.ref b1), .val (.ref b4), .val (.ref b9), .val (.ref b16), .val (.int (1 : Int32)), .val (.int (0 : Int32)), .unset, .unset, .unset, .unset, .unset, .unset] [(.int (p5 &&& (1 : Int32)))])) _
      refine XS.ifNo X25.here hx rfl (hb hby at_40) rfl (XT.i0_eq_f hv28) ?_
      show Steps p.tables e below (T25.setTop (mkF m 43 #[.val (.int p0), .val (.int p1), .val (.long p2), .second, .val (.int p3), .val (.long p4), .second, .val (.int p5), .val (.ref b1), .val (.ref b4), .val (.ref b9), .val (.ref b16), .val (.int (1 : Int32)), .val (.int (0 : Int32)), .unset, .unset, .unset, .unset, .unset, .unset] [])) _
      refine XS.aload X25.here hx rfl (hb hby at_43) rfl rfl ?_
      show Steps p.tables e below (T25.setTop (mkF m 45 #[.val (.int p0), .val (.int p1), .val (.long p2), .second, .val (.int p3), .val (.long p4), .second, .val (.int p5), .val (.ref b1), .val (.ref b4), .val (.ref b9), .val (.ref b16), .val (.int (1 : Int32)), .val (.int (0 : Int32)), .unset, .unset, .unset, .unset, .unset, .unset] [(.ref b1)])) _
      refine XS.goto X25.here hx rfl (pc0 := 45) (pc' := 49) rfl (hb hby at_45) (by decide) (by decide) ?_
      show Steps p.tables e below (T25.setTop (mkF m 49 #[.val (.int p0), .val (.int p1), .val (.long p2), .second, .val (.int p3), .val (.long p4), .second, .val (.int p5), .val (.ref b1), .val (.ref b4), .val (.ref b9), .val (.ref b16), .val (.int (1 : Int32)), .val (.int (0 : Int32)), .unset, .unset, .unset, .unset, .unset, .unset] [(.ref b1)])) _
      refine XS.astore X25.here hx rfl (hb hby at_49) rfl rfl (l' := #[.val (.int p0), .val (.int p1), .val (.long p2), .second, .val (.int p3), .val (.long p4), .second, .val (.int p5), .val (.ref b1), .val (.ref b4), .val (.ref b9), .val (.ref b16), .val (.int (1 : Int32)), .val (.int (0 : Int32)), .val (.ref b1), .unset, .unset, .unset, .unset, .unset]) rfl ?_
      exact kt
  have pre29 : ∀ tg_, Steps p.tables e below (T25.setTop (mkF m 55 #[.val (.int p0), .val (.int p1), .val (.long p2), .second, .val (.int p3), .val (.long p4), .second, .val (.int p5), .val (.ref b1), .val (.ref b4), .val (.ref b9), .val (.ref b16), .val (.int (1 : Int32)), .val (.int (0 : Int32)), .val va, .unset, .unset, .unset, .unset, .unset] [(.int (p5 &&& (2 : Int32)))])) tg_ → Steps p.tables e below (s₁.setTop (entryFrame m #[(.int p0), (.int p1), (.long p2), (.int p3), (.long p4), (.int p5)] maxLocals)) tg_ := by
    intro tg_ kt
    refine pre27 _ ?_
    show Steps p.tables e below (T25.setTop (mkF m 51 #[.val (.int p0), .val (.int p1), .val (.long p2), .second, .val (.int p3), .val (.long p4), .second, .val (.int p5), .val (.ref b1), .val (.ref b4), .val (.ref b9), .val (.ref b16), .val (.int (1 : Int32)), .val (.int (0 : Int32)), .val va, .unset, .unset, .unset, .unset, .unset] [])) _
    refine XS.iload X25.here hx rfl (hb hby at_51) rfl ?_
    show Steps p.tables e below (T25.setTop (mkF m 53 #[.val (.int p0), .val (.int p1), .val (.long p2), .second, .val (.int p3), .val (.long p4), .second, .val (.int p5), .val (.ref b1), .val (.ref b4), .val (.ref b9), .val (.ref b16), .val (.int (1 : Int32)), .val (.int (0 : Int32)), .val va, .unset, .unset, .unset, .unset, .unset] [(.int p5)])) _
    refine XS.iconst X25.here hx rfl (hb hby at_53) ?_
    show Steps p.tables e below (T25.setTop (mkF m 54 #[.val (.int p0), .val (.int p1), .val (.long p2), .second, .val (.int p3), .val (.long p4), .second, .val (.int p5), .val (.ref b1), .val (.ref b4), .val (.ref b9), .val (.ref b16), .val (.int (1 : Int32)), .val (.int (0 : Int32)), .val va, .unset, .unset, .unset, .unset, .unset] [(.int (2 : Int32)), (.int p5)])) _
    refine XS.iand X25.here hx rfl (hb hby at_54) rfl ?_
    exact kt
  obtain ⟨vb, Bvb, pre30⟩ : ∃ vb : Value, Byt Z T25.heap vb ∧ ∀ tg_, Steps p.tables e below (T25.setTop (mkF m 66 #[.val (.int p0), .val (.int p1), .val (.long p2), .second, .val (.int p3), .val (.long p4), .second, .val (.int p5), .val (.ref b1), .val (.ref b4), .val (.ref b9), .val (.ref b16), .val (.int (1 : Int32)), .val (.int (0 : Int32)), .val va, .val vb, .unset, .unset, .unset, .unset] [])) tg_ → Steps p.tables e below (s₁.setTop (entryFrame m #[(.int p0), (.int p1), (.long p2), (.int p3), (.long p4), (.int p5)] maxLocals)) tg_ := by
    by_cases hv31 : (p5 &&& (2 : Int32)) = (0 : Int32)
    · refine ⟨.null, Or.inl rfl, fun tg_ kt => ?_⟩
      refine pre29 _ ?_
      show Steps p.tables e below (T25.setTop (mkF m 55 #[.val (.int p0), .val (.int p1), .val (.long p2), .second, .val (.int p3), .val (.long p4), .second, .val (.int p5), .val (.ref b1), .val (.ref b4), .val (.ref b9), .val (.ref b16), .val (.int (1 : Int32)), .val (.int (0 : Int32)), .val va, .unset, .unset, .unset, .unset, .unset] [(.int (p5 &&& (2 : Int32)))])) _
      refine XS.ifYes X25.here hx rfl (pc0 := 55) (pc' := 63) rfl (hb hby at_55) rfl (XT.i0_eq_t hv31) (by decide) (by decide) ?_
      show Steps p.tables e below (T25.setTop (mkF m 63 #[.val (.int p0), .val (.int p1), .val (.long p2), .second, .val (.int p3), .val (.long p4), .second, .val (.int p5), .val (.ref b1), .val (.ref b4), .val (.ref b9), .val (.ref b16), .val (.int (1 : Int32)), .val (.int (0 : Int32)), .val va, .unset, .unset, .unset, .unset, .unset] [])) _
      refine XS.aconstNull X25.here hx rfl (hb hby at_63) ?_
      show Steps p.tables e below (T25.setTop (mkF m 64 #[.val (.int p0), .val (.int p1), .val (.long p2), .second, .val (.int p3), .val (.long p4), .second, .val (.int p5), .val (.ref b1), .val (.ref b4), .val (.ref b9), .val (.ref b16), .val (.int (1 : Int32)), .val (.int (0 : Int32)), .val va, .unset, .unset, .unset, .unset, .unset] [.null])) _
      refine XS.astore X25.here hx rfl (hb hby at_64) rfl rfl (l' := #[.val (.int p0), .val (.int p1), .val (.long p2), .second, .val (.int p3), .val (.long p4), .second, .val (.int p5), .val (.ref b1), .val (.ref b4), .val (.ref b9), .val (.ref b16), .val (.int (1 : Int32)), .val (.int (0 : Int32)), .val va, .val .null, .unset, .unset, .unset, .unset]) rfl ?_
      exact kt
    · refine ⟨(.ref b4), Or.inr ⟨_, rfl, ex1_25⟩, fun tg_ kt => ?_⟩
      refine pre29 _ ?_
      show Steps p.tables e below (T25.setTop (mkF m 55 #[.val (.int p0), .val (.int p1), .val (.long p2), .second, .val (.int p3), .val (.long p4), .second, .val (.int p5), .val (.ref b1), .val (.ref b4), .val (.ref b9), .val (.ref b16), .val (.int (1 : Int32)), .val (.int (0 : Int32)), .val va, .unset, .unset, .unset, .unset, .unset] [(.int (p5 &&& (2 : Int32)))])) _
      refine XS.ifNo X25.here hx rfl (hb hby at_55) rfl (XT.i0_eq_f hv31) ?_
      show Steps p.tables e below (T25.setTop (mkF m 58 #[.val (.int p0), .val (.int p1), .val (.long p2), .second, .val (.int p3), .val (.long p4), .second, .val (.int p5), .val (.ref b1), .val (.ref b4), .val (.ref b9), .val (.ref b16), .val (.int (1 : Int32)), .val (.int (0 : Int32)), .val va, .unset, .unset, .unset, .unset, .unset] [])) _
      refine XS.aload X25.here hx rfl (hb hby at_58) rfl rfl ?_
      show Steps p.tables e below (T25.setTop (mkF m 60 #[.val (.int p0), .val (.int p1), .val (.long p2), .second, .val (.int p3), .val (.long p4), .second, .val (.int p5), .val (.ref b1), .val (.ref b4), .val (.ref b9), .val (.ref b16), .val (.int (1 : Int32)), .val (.int (0 : Int32)), .val va, .unset, .unset, .unset, .unset, .unset] [(.ref b4)])) _
      refine XS.goto X25.here hx rfl (pc0 := 60) (pc' := 64) rfl (hb hby at_60) (by decide) (by decide) ?_
      show Steps p.tables e below (T25.setTop (mkF m 64 #[.val (.int p0), .val (.int p1), .val (.long p2), .second, .val (.int p3), .val (.long p4), .second, .val (.int p5), .val (.ref b1), .val (.ref b4), .val (.ref b9), .val (.ref b16), .val (.int (1 : Int32)), .val (.int (0 : Int32)), .val va, .unset, .unset, .unset, .unset, .unset] [(.ref b4)])) _
      refine XS.astore X25.here hx rfl (hb hby at_64) rfl rfl (l' := #[.val (.int p0), .val (.int p1), .val (.long p2), .second, .val (.int p3), .val (.long p4), .second, .val (.int p5), .val (.ref b1), .val (.ref b4), .val (.ref b9), .val (.ref b16), .val (.int (1 : Int32)), .val (.int (0 : Int32)), .val va, .val (.ref b4), .unset, .unset, .unset, .unset]) rfl ?_
      exact kt
  have pre32 : ∀ tg_, Steps p.tables e below (T25.setTop (mkF m 70 #[.val (.int p0), .val (.int p1), .val (.long p2), .second, .val (.int p3), .val (.long p4), .second, .val (.int p5), .val (.ref b1), .val (.ref b4), .val (.ref b9), .val (.ref b16), .val (.int (1 : Int32)), .val (.int (0 : Int32)), .val va, .val vb, .unset, .unset, .unset, .unset] [(.int (p5 &&& (4 : Int32)))])) tg_ → Steps p.tables e below (s₁.setTop (entryFrame m #[(.int p0), (.int p1), (.long p2), (.int p3), (.long p4), (.int p5)] maxLocals)) tg_ := by
    intro tg_ kt
    refine pre30 _ ?_
    show Steps p.tables e below (T25.setTop (mkF m 66 #[.val (.int p0), .val (.int p1), .val (.long p2), .second, .val (.int p3), .val (.long p4), .second, .val (.int p5), .val (.ref b1), .val (.ref b4), .val (.ref b9), .val (.ref b16), .val (.int (1 : Int32)), .val (.int (0 : Int32)), .val va, .val vb, .unset, .unset, .unset, .unset] [])) _
    refine XS.iload X25.here hx rfl (hb hby at_66) rfl ?_
    show Steps p.tables e below (T25.setTop (mkF m 68 #[.val (.int p0), .val (.int p1), .val (.long p2), .second, .val (.int p3), .val (.long p4), .second, .val (.int p5), .val (.ref b1), .val (.ref b4), .val (.ref b9), .val (.ref b16), .val (.int (1 : Int32)), .val (.int (0 : Int32)), .val va, .val vb, .unset, .unset, .unset, .unset] [(.int p5)])) _
    refine XS.iconst X25.here hx rfl (hb hby at_68) ?_
    show Steps p.tables e below (T25.setTop (mkF m 69 #[.val (.int p0), .val (.int p1), .val (.long p2), .second, .val (.int p3), .val (.long p4), .second, .val (.int p5), .val (.ref b1), .val (.ref b4), .val (.ref b9), .val (.ref b16), .val (.int (1 : Int32)), .val (.int (0 : Int32)), .val va, .val vb, .unset, .unset, .unset, .unset] [(.int (4 : Int32)), (.int p5)])) _
    refine XS.iand X25.here hx rfl (hb hby at_69) rfl ?_
    exact kt
  obtain ⟨vc, Bvc, pre33⟩ : ∃ vc : Value, Byt Z T25.heap vc ∧ ∀ tg_, Steps p.tables e below (T25.setTop (mkF m 81 #[.val (.int p0), .val (.int p1), .val (.long p2), .second, .val (.int p3), .val (.long p4), .second, .val (.int p5), .val (.ref b1), .val (.ref b4), .val (.ref b9), .val (.ref b16), .val (.int (1 : Int32)), .val (.int (0 : Int32)), .val va, .val vb, .val vc, .unset, .unset, .unset] [])) tg_ → Steps p.tables e below (s₁.setTop (entryFrame m #[(.int p0), (.int p1), (.long p2), (.int p3), (.long p4), (.int p5)] maxLocals)) tg_ := by
    by_cases hv34 : (p5 &&& (4 : Int32)) = (0 : Int32)
    · refine ⟨.null, Or.inl rfl, fun tg_ kt => ?_⟩
      refine pre32 _ ?_
      show Steps p.tables e below (T25.setTop (mkF m 70 #[.val (.int p0), .val (.int p1), .val (.long p2), .second, .val (.int p3), .val (.long p4), .second, .val (.int p5), .val (.ref b1), .val (.ref b4), .val (.ref b9), .val (.ref b16), .val (.int (1 : Int32)), .val (.int (0 : Int32)), .val va, .val vb, .unset, .unset, .unset, .unset] [(.int (p5 &&& (4 : Int32)))])) _
      refine XS.ifYes X25.here hx rfl (pc0 := 70) (pc' := 78) rfl (hb hby at_70) rfl (XT.i0_eq_t hv34) (by decide) (by decide) ?_
      show Steps p.tables e below (T25.setTop (mkF m 78 #[.val (.int p0), .val (.int p1), .val (.long p2), .second, .val (.int p3), .val (.long p4), .second, .val (.int p5), .val (.ref b1), .val (.ref b4), .val (.ref b9), .val (.ref b16), .val (.int (1 : Int32)), .val (.int (0 : Int32)), .val va, .val vb, .unset, .unset, .unset, .unset] [])) _
      refine XS.aconstNull X25.here hx rfl (hb hby at_78) ?_
      show Steps p.tables e below (T25.setTop (mkF m 79 #[.val (.int p0), .val (.int p1), .val (.long p2), .second, .val (.int p3), .val (.long p4), .second, .val (.int p5), .val (.ref b1), .val (.ref b4), .val (.ref b9), .val (.ref b16), .val (.int (1 : Int32)), .val (.int (0 : Int32)), .val va, .val vb, .unset, .unset, .unset, .unset] [.null])) _
      refine XS.astore X25.here hx rfl (hb hby at_79) rfl rfl (l' := #[.val (.int p0), .val (.int p1), .val (.long p2), .second, .val (.int p3), .val (.long p4), .second, .val (.int p5), .val (.ref b1), .val (.ref b4), .val (.ref b9), .val (.ref b16), .val (.int (1 : Int32)), .val (.int (0 : Int32)), .val va, .val vb, .val .null, .unset, .unset, .unset]) rfl ?_
      exact kt
    · refine ⟨(.ref b9), Or.inr ⟨_, rfl, ex2_25⟩, fun tg_ kt => ?_⟩
      refine pre32 _ ?_
      show Steps p.tables e below (T25.setTop (mkF m 70 #[.val (.int p0), .val (.int p1), .val (.long p2), .second, .val (.int p3), .val (.long p4), .second, .val (.int p5), .val (.ref b1), .val (.ref b4), .val (.ref b9), .val (.ref b16), .val (.int (1 : Int32)), .val (.int (0 : Int32)), .val va, .val vb, .unset, .unset, .unset, .unset] [(.int (p5 &&& (4 : Int32)))])) _
      refine XS.ifNo X25.here hx rfl (hb hby at_70) rfl (XT.i0_eq_f hv34) ?_
      show Steps p.tables e below (T25.setTop (mkF m 73 #[.val (.int p0), .val (.int p1), .val (.long p2), .second, .val (.int p3), .val (.long p4), .second, .val (.int p5), .val (.ref b1), .val (.ref b4), .val (.ref b9), .val (.ref b16), .val (.int (1 : Int32)), .val (.int (0 : Int32)), .val va, .val vb, .unset, .unset, .unset, .unset] [])) _
      refine XS.aload X25.here hx rfl (hb hby at_73) rfl rfl ?_
      show Steps p.tables e below (T25.setTop (mkF m 75 #[.val (.int p0), .val (.int p1), .val (.long p2), .second, .val (.int p3), .val (.long p4), .second, .val (.int p5), .val (.ref b1), .val (.ref b4), .val (.ref b9), .val (.ref b16), .val (.int (1 : Int32)), .val (.int (0 : Int32)), .val va, .val vb, .unset, .unset, .unset, .unset] [(.ref b9)])) _
      refine XS.goto X25.here hx rfl (pc0 := 75) (pc' := 79) rfl (hb hby at_75) (by decide) (by decide) ?_
      show Steps p.tables e below (T25.setTop (mkF m 79 #[.val (.int p0), .val (.int p1), .val (.long p2), .second, .val (.int p3), .val (.long p4), .second, .val (.int p5), .val (.ref b1), .val (.ref b4), .val (.ref b9), .val (.ref b16), .val (.int (1 : Int32)), .val (.int (0 : Int32)), .val va, .val vb, .unset, .unset, .unset, .unset] [(.ref b9)])) _
      refine XS.astore X25.here hx rfl (hb hby at_79) rfl rfl (l' := #[.val (.int p0), .val (.int p1), .val (.long p2), .second, .val (.int p3), .val (.long p4), .second, .val (.int p5), .val (.ref b1), .val (.ref b4), .val (.ref b9), .val (.ref b16), .val (.int (1 : Int32)), .val (.int (0 : Int32)), .val va, .val vb, .val (.ref b9), .unset, .unset, .unset]) rfl ?_
      exact kt
  have pre35 : ∀ tg_, Steps p.tables e below (T25.setTop (mkF m 101 #[.val (.int p0), .val (.int p1), .val (.long p2), .second, .val (.int p3), .val (.long p4), .second, .val (.int p5), .val (.ref b1), .val (.ref b4), .val (.ref b9), .val (.ref b16), .val (.int (1 : Int32)), .val (.int (0 : Int32)), .val va, .val vb, .val vc, .val (.int (p3 ^^^ (-1 : Int32)).toInt8.toInt32), .val (.long (p4 ^^^ (-1 : Int64))), .second] [(.int (p5 &&& (8 : Int32)))])) tg_ → Steps p.tables e below (s₁.setTop (entryFrame m #[(.int p0), (.int p1), (.long p2), (.int p3), (.long p4), (.int p5)] maxLocals)) tg_ := by
    intro tg_ kt
    refine pre33 _ ?_
    show Steps p.tables e below (T25.setTop (mkF m 81 #[.val (.int p0), .val (.int p1), .val (.long p2), .second, .val (.int p3), .val (.long p4), .second, .val (.int p5), .val (.ref b1), .val (.ref b4), .val (.ref b9), .val (.ref b16), .val (.int (1 : Int32)), .val (.int (0 : Int32)), .val va, .val vb, .val vc, .unset, .unset, .unset] [])) _
    refine XS.iload X25.here hx rfl (hb hby at_81) rfl ?_
    show Steps p.tables e below (T25.setTop (mkF m 83 #[.val (.int p0), .val (.int p1), .val (.long p2), .second, .val (.int p3), .val (.long p4), .second, .val (.int p5), .val (.ref b1), .val (.ref b4), .val (.ref b9), .val (.ref b16), .val (.int (1 : Int32)), .val (.int (0 : Int32)), .val va, .val vb, .val vc, .unset, .unset, .unset] [(.int p3)])) _
    refine XS.iconst X25.here hx rfl (hb hby at_83) ?_
    show Steps p.tables e below (T25.setTop (mkF m 84 #[.val (.int p0), .val (.int p1), .val (.long p2), .second, .val (.int p3), .val (.long p4), .second, .val (.int p5), .val (.ref b1), .val (.ref b4), .val (.ref b9), .val (.ref b16), .val (.int (1 : Int32)), .val (.int (0 : Int32)), .val va, .val vb, .val vc, .unset, .unset, .unset] [(.int (-1 : Int32)), (.int p3)])) _
    refine XS.ixor X25.here hx rfl (hb hby at_84) rfl ?_
    show Steps p.tables e below (T25.setTop (mkF m 85 #[.val (.int p0), .val (.int p1), .val (.long p2), .second, .val (.int p3), .val (.long p4), .second, .val (.int p5), .val (.ref b1), .val (.ref b4), .val (.ref b9), .val (.ref b16), .val (.int (1 : Int32)), .val (.int (0 : Int32)), .val va, .val vb, .val vc, .unset, .unset, .unset] [(.int (p3 ^^^ (-1 : Int32)))])) _
    refine XS.i2b X25.here hx rfl (hb hby at_85) rfl ?_
    show Steps p.tables e below (T25.setTop (mkF m 86 #[.val (.int p0), .val (.int p1), .val (.long p2), .second, .val (.int p3), .val (.long p4), .second, .val (.int p5), .val (.ref b1), .val (.ref b4), .val (.ref b9), .val (.ref b16), .val (.int (1 : Int32)), .val (.int (0 : Int32)), .val va, .val vb, .val vc, .unset, .unset, .unset] [(.int (p3 ^^^ (-1 : Int32)).toInt8.toInt32)])) _
    refine XS.istore X25.here hx rfl (hb hby at_86) rfl (l' := #[.val (.int p0), .val (.int p1), .val (.long p2), .second, .val (.int p3), .val (.long p4), .second, .val (.int p5), .val (.ref b1), .val (.ref b4), .val (.ref b9), .val (.ref b16), .val (.int (1 : Int32)), .val (.int (0 : Int32)), .val va, .val vb, .val vc, .val (.int (p3 ^^^ (-1 : Int32)).toInt8.toInt32), .unset, .unset]) rfl ?_
    show Steps p.tables e below (T25.setTop (mkF m 88 #[.val (.int p0), .val (.int p1), .val (.long p2), .second, .val (.int p3), .val (.long p4), .second, .val (.int p5), .val (.ref b1), .val (.ref b4), .val (.ref b9), .val (.ref b16), .val (.int (1 : Int32)), .val (.int (0 : Int32)), .val va, .val vb, .val vc, .val (.int (p3 ^^^ (-1 : Int32)).toInt8.toInt32), .unset, .unset] [])) _
    refine XS.lload X25.here hx rfl (hb hby at_88) rfl ?_
    show Steps p.tables e below (T25.setTop (mkF m 90 #[.val (.int p0), .val (.int p1), .val (.long p2), .second, .val (.int p3), .val (.long p4), .second, .val (.int p5), .val (.ref b1), .val (.ref b4), .val (.ref b9), .val (.ref b16), .val (.int (1 : Int32)), .val (.int (0 : Int32)), .val va, .val vb, .val vc, .val (.int (p3 ^^^ (-1 : Int32)).toInt8.toInt32), .unset, .unset] [(.long p4)])) _
    refine X25.ldc2J hx hown (mvT hZ (hw _ (List.mem_of_getElem? (i := 19) rfl))) (g := (mkF m 90 #[.val (.int p0), .val (.int p1), .val (.long p2), .second, .val (.int p3), .val (.long p4), .second, .val (.int p5), .val (.ref b1), .val (.ref b4), .val (.ref b9), .val (.ref b16), .val (.int (1 : Int32)), .val (.int (0 : Int32)), .val va, .val vb, .val vc, .val (.int (p3 ^^^ (-1 : Int32)).toInt8.toInt32), .unset, .unset] [(.long p4)])) rfl (hb hby at_90) ?_
    show Steps p.tables e below (T25.setTop (mkF m 93 #[.val (.int p0), .val (.int p1), .val (.long p2), .second, .val (.int p3), .val (.long p4), .second, .val (.int p5), .val (.ref b1), .val (.ref b4), .val (.ref b9), .val (.ref b16), .val (.int (1 : Int32)), .val (.int (0 : Int32)), .val va, .val vb, .val vc, .val (.int (p3 ^^^ (-1 : Int32)).toInt8.toInt32), .unset, .unset] [(.long (-1 : Int64)), (.long p4)])) _
    refine XS.lxor X25.here hx rfl (hb hby at_93) rfl ?_
    show Steps p.tables e below (T25.setTop (mkF m 94 #[.val (.int p0), .val (.int p1), .val (.long p2), .second, .val (.int p3), .val (.long p4), .second, .val (.int p5), .val (.ref b1), .val (.ref b4), .val (.ref b9), .val (.ref b16), .val (.int (1 : Int32)), .val (.int (0 : Int32)), .val va, .val vb, .val vc, .val (.int (p3 ^^^ (-1 : Int32)).toInt8.toInt32), .unset, .unset] [(.long (p4 ^^^ (-1 : Int64)))])) _
    refine XS.lstore X25.here hx rfl (hb hby at_94) rfl (l' := #[.val (.int p0), .val (.int p1), .val (.long p2), .second, .val (.int p3), .val (.long p4), .second, .val (.int p5), .val (.ref b1), .val (.ref b4), .val (.ref b9), .val (.ref b16), .val (.int (1 : Int32)), .val (.int (0 : Int32)), .val va, .val vb, .val vc, .val (.int (p3 ^^^ (-1 : Int32)).toInt8.toInt32), .val (.long (p4 ^^^ (-1 : Int64))), .second]) rfl ?_
    show Steps p.tables e below (T25.setTop (mkF m 96 #[.val (.int p0), .val (.int p1), .val (.long p2), .second, .val (.int p3), .val (.long p4), .second, .val (.int p5), .val (.ref b1), .val (.ref b4), .val (.ref b9), .val (.ref b16), .val (.int (1 : Int32)), .val (.int (0 : Int32)), .val va, .val vb, .val vc, .val (.int (p3 ^^^ (-1 : Int32)).toInt8.toInt32), .val (.long (p4 ^^^ (-1 : Int64))), .second] [])) _
    refine XS.iload X25.here hx rfl (hb hby at_96) rfl ?_
    show Steps p.tables e below (T25.setTop (mkF m 98 #[.val (.int p0), .val (.int p1), .val (.long p2), .second, .val (.int p3), .val (.long p4), .second, .val (.int p5), .val (.ref b1), .val (.ref b4), .val (.ref b9), .val (.ref b16), .val (.int (1 : Int32)), .val (.int (0 : Int32)), .val va, .val vb, .val vc, .val (.int (p3 ^^^ (-1 : Int32)).toInt8.toInt32), .val (.long (p4 ^^^ (-1 : Int64))), .second] [(.int p5)])) _
    refine XS.bipush X25.here hx rfl (hb hby at_98) ?_
    show Steps p.tables e below (T25.setTop (mkF m 100 #[.val (.int p0), .val (.int p1), .val (.long p2), .second, .val (.int p3), .val (.long p4), .second, .val (.int p5), .val (.ref b1), .val (.ref b4), .val (.ref b9), .val (.ref b16), .val (.int (1 : Int32)), .val (.int (0 : Int32)), .val va, .val vb, .val vc, .val (.int (p3 ^^^ (-1 : Int32)).toInt8.toInt32), .val (.long (p4 ^^^ (-1 : Int64))), .second] [(.int (8 : Int32)), (.int p5)])) _
    refine XS.iand X25.here hx rfl (hb hby at_100) rfl ?_
    exact kt
  by_cases hc101_36 : (p5 &&& (8 : Int32)) = (0 : Int32)
  · obtain ⟨cq37, kq37, q37a, q37b, q37c⟩ := isOf hZ rfl C25.1
    obtain ⟨_, _, ⟨T37, L37, k37, n37⟩, -, X37, ⟨Lc37, hQ37, l37, y37, z37⟩, st37⟩ := X25.virtualBack hx (y := (⟨"com/example/hornbrook/hornbrook/Cells", "set", "(IBJ[B)V"⟩ : MethodName)) (z := (⟨"com/example/hornbrook/hornbrook/Cells", "set", "(IBJ[B)V"⟩ : MethodName)) hown (mvT hZ (hw _ (List.mem_of_getElem? (i := 20) rfl))) (mvT hZ (hw _ (List.mem_of_getElem? (i := 21) rfl))) (notFace_of_selects (args := #[]) (mvT hZ (hw _ (List.mem_of_getElem? (i := 23) rfl)))) (mvT hZ (hw _ (List.mem_of_getElem? (i := 23) rfl))) (mvT hZ (hw _ (List.mem_of_getElem? (i := 22) rfl))) (by decide) (backOf (W := 0) (rm20 l Z a0 hw [] b16 ka wa ba ck cw cb (0 : Int32) (0 : Int32) (0 : Int64) (0 : Int64) .null .null (p3 ^^^ (-1 : Int32)).toInt8.toInt32 (p4 ^^^ (-1 : Int64)) vc T25.heap n0 (Nat.le_trans Z24 KC25.1) C25 Bvc) hZ (hw _ (List.mem_of_getElem? (i := 24) rfl)) (hw _ (List.mem_of_getElem? (i := 3) rfl)) (by decide) (by decide)) q37a q37c (g := (mkF m 126 #[.val (.int p0), .val (.int p1), .val (.long p2), .second, .val (.int p3), .val (.long p4), .second, .val (.int p5), .val (.ref b1), .val (.ref b4), .val (.ref b9), .val (.ref b16), .val (.int (1 : Int32)), .val (.int (0 : Int32)), .val va, .val vb, .val vc, .val (.int (p3 ^^^ (-1 : Int32)).toInt8.toInt32), .val (.long (p4 ^^^ (-1 : Int64))), .second] [vc, (.long (p4 ^^^ (-1 : Int64))), (.int (p3 ^^^ (-1 : Int32)).toInt8.toInt32), (.int (0 : Int32)), (.ref b16)])) rfl (by rw [hml]; rfl) (Steps.refl _) (argsL := [(.int (0 : Int32)), (.int (p3 ^^^ (-1 : Int32)).toInt8.toInt32), (.long (p4 ^^^ (-1 : Int64))), vc]) (rest := []) (lenOf pd01_1 rfl) rfl (by show 2 * 0 + _ ≤ _; exact Nat.le_of_eq rfl) (hb hby at_126) (fun _ _ => ⟨rfl, rfl, (by decide : 7 + 0 ≤ _), (by decide : 15 + 0 ≤ _)⟩)
    dsimp only [Pt.U, Pt.locs, Pt.cells, Pt.slots] at X37 l37 y37 z37 st37 hQ37
    subst l37 y37 z37
    obtain ⟨rfl, N37q, KC37, C37⟩ := hQ37
    have Bva_37 := Bva.keep KC37
    have Bvb_37 := Bvb.keep KC37
    have Bvc_37 := Bvc.keep KC37
    have N37 := Fr.app N25 N37q
    obtain ⟨cq38, kq38, q38a, q38b, q38c⟩ := isOf hZ rfl C37.1
    obtain ⟨_, _, ⟨T38, L38, k38, n38⟩, -, X38, ⟨Lc38, hQ38, l38, y38, z38⟩, st38⟩ := X37.virtualBack hx (y := (⟨"com/example/hornbrook/hornbrook/Cells", "set", "(IBJ[B)V"⟩ : MethodName)) (z := (⟨"com/example/hornbrook/hornbrook/Cells", "set", "(IBJ[B)V"⟩ : MethodName)) hown (mvT hZ (hw _ (List.mem_of_getElem? (i := 20) rfl))) (mvT hZ (hw _ (List.mem_of_getElem? (i := 21) rfl))) (notFace_of_selects (args := #[]) (mvT hZ (hw _ (List.mem_of_getElem? (i := 23) rfl)))) (mvT hZ (hw _ (List.mem_of_getElem? (i := 23) rfl))) (mvT hZ (hw _ (List.mem_of_getElem? (i := 22) rfl))) (by decide) (backOf (W := 0) (rm21 l Z a0 hw [] b16 ka wa ba ck cw cb (nar .byte (p3 ^^^ (-1 : Int32)).toInt8.toInt32) (0 : Int32) (p4 ^^^ (-1 : Int64)) (0 : Int64) vc .null p3.toInt8.toInt32 p4 vb T37.heap n0 (Nat.le_trans (Nat.le_trans Z24 KC25.1) KC37.1) C37 Bvb_37) hZ (hw _ (List.mem_of_getElem? (i := 24) rfl)) (hw _ (List.mem_of_getElem? (i := 3) rfl)) (by decide) (by decide)) q38a q38c (g := (mkF m 140 #[.val (.int p0), .val (.int p1), .val (.long p2), .second, .val (.int p3), .val (.long p4), .second, .val (.int p5), .val (.ref b1), .val (.ref b4), .val (.ref b9), .val (.ref b16), .val (.int (1 : Int32)), .val (.int (0 : Int32)), .val va, .val vb, .val vc, .val (.int (p3 ^^^ (-1 : Int32)).toInt8.toInt32), .val (.long (p4 ^^^ (-1 : Int64))), .second] [vb, (.long p4), (.int p3.toInt8.toInt32), (.int (1 : Int32)), (.ref b16)])) rfl (by rw [hml]; rfl) (Steps.refl _) (argsL := [(.int (1 : Int32)), (.int p3.toInt8.toInt32), (.long p4), vb]) (rest := []) (lenOf pd01_1 rfl) rfl (by show 2 * 0 + _ ≤ _; exact Nat.le_of_eq rfl) (hb hby at_140) (fun _ _ => ⟨rfl, rfl, (by decide : 7 + 0 ≤ _), (by decide : 15 + 0 ≤ _)⟩)
    dsimp only [Pt.U, Pt.locs, Pt.cells, Pt.slots] at X38 l38 y38 z38 st38 hQ38
    subst l38 y38 z38
    obtain ⟨rfl, N38q, KC38, C38⟩ := hQ38
    have Bva_38 := Bva_37.keep KC38
    have Bvb_38 := Bvb_37.keep KC38
    have Bvc_38 := Bvc_37.keep KC38
    have N38 := Fr.app N37 N38q
    obtain ⟨cq39, kq39, q39a, q39b, q39c⟩ := isOf hZ rfl C38.1
    obtain ⟨_, _, ⟨T39, L39, k39, n39⟩, -, X39, ⟨Lc39, hQ39, l39, y39, z39⟩, st39⟩ := X38.virtualBack hx (y := (⟨"com/example/hornbrook/hornbrook/Cells", "kind", "(I)B"⟩ : MethodName)) (z := (⟨"com/example/hornbrook/hornbrook/Cells", "kind", "(I)B"⟩ : MethodName)) hown (mvT hZ (hw _ (List.mem_of_getElem? (i := 26) rfl))) (mvT hZ (hw _ (List.mem_of_getElem? (i := 27) rfl))) (notFace_of_selects (args := #[]) (mvT hZ (hw _ (List.mem_of_getElem? (i := 29) rfl)))) (mvT hZ (hw _ (List.mem_of_getElem? (i := 29) rfl))) (mvT hZ (hw _ (List.mem_of_getElem? (i := 28) rfl))) (by decide) (backOf (W := 0) (rm31 l Z a0 hw [] b16 ka wa ba ck cw cb (nar .byte (p3 ^^^ (-1 : Int32)).toInt8.toInt32) (nar .byte p3.toInt8.toInt32) (p4 ^^^ (-1 : Int64)) p4 vc vb T38.heap n0 (Nat.le_trans (Nat.le_trans (Nat.le_trans Z24 KC25.1) KC37.1) KC38.1) C38) hZ (hw _ (List.mem_of_getElem? (i := 30) rfl)) (hw _ (List.mem_of_getElem? (i := 3) rfl)) (by decide) (by decide)) q39a q39c (g := (mkF m 147 #[.val (.int p0), .val (.int p1), .val (.long p2), .second, .val (.int p3), .val (.long p4), .second, .val (.int p5), .val (.ref b1), .val (.ref b4), .val (.ref b9), .val (.ref b16), .val (.int (1 : Int32)), .val (.int (0 : Int32)), .val va, .val vb, .val vc, .val (.int (p3 ^^^ (-1 : Int32)).toInt8.toInt32), .val (.long (p4 ^^^ (-1 : Int64))), .second] [(.int (1 : Int32)), (.ref b16)])) rfl (by rw [hml]; rfl) (Steps.refl _) (argsL := [(.int (1 : Int32))]) (rest := []) (lenOf pd01_2 rfl) rfl (by show 2 * 0 + _ ≤ _; exact Nat.le_of_eq rfl) (hb hby at_147) (fun _ _ => ⟨rfl, rfl, (by decide : 7 + 0 ≤ _), (by decide : 15 + 0 ≤ _)⟩)
    dsimp only [Pt.U, Pt.locs, Pt.cells, Pt.slots] at X39 l39 y39 z39 st39 hQ39
    subst l39 y39 z39
    obtain ⟨rfl, N39q, e39⟩ := hQ39
    have N39 := Fr.app N38 N39q
    obtain ⟨cq40, kq40, q40a, q40b, q40c⟩ := isOf hZ e39 C38.1
    obtain ⟨_, _, ⟨T40, L40, k40, n40⟩, -, X40, ⟨Lc40, hQ40, l40, y40, z40⟩, st40⟩ := X39.virtualBack hx (y := (⟨"com/example/hornbrook/hornbrook/Cells", "word", "(I)J"⟩ : MethodName)) (z := (⟨"com/example/hornbrook/hornbrook/Cells", "word", "(I)J"⟩ : MethodName)) hown (mvT hZ (hw _ (List.mem_of_getElem? (i := 31) rfl))) (mvT hZ (hw _ (List.mem_of_getElem? (i := 32) rfl))) (notFace_of_selects (args := #[]) (mvT hZ (hw _ (List.mem_of_getElem? (i := 34) rfl)))) (mvT hZ (hw _ (List.mem_of_getElem? (i := 34) rfl))) (mvT hZ (hw _ (List.mem_of_getElem? (i := 33) rfl))) (by decide) (backOf (W := 0) (rm41 l Z a0 hw [] b16 ka wa ba ck cw cb (nar .byte (p3 ^^^ (-1 : Int32)).toInt8.toInt32) (nar .byte p3.toInt8.toInt32) (p4 ^^^ (-1 : Int64)) p4 vc vb T38.heap n0 (Nat.le_trans (Nat.le_trans (Nat.le_trans Z24 KC25.1) KC37.1) KC38.1) C38) hZ (hw _ (List.mem_of_getElem? (i := 35) rfl)) (hw _ (List.mem_of_getElem? (i := 3) rfl)) (by decide) (by decide)) q40a q40c (g := (mkF m 160 #[.val (.int p0), .val (.int p1), .val (.long p2), .second, .val (.int p3), .val (.long p4), .second, .val (.int p5), .val (.ref b1), .val (.ref b4), .val (.ref b9), .val (.ref b16), .val (.int (1 : Int32)), .val (.int (0 : Int32)), .val va, .val vb, .val vc, .val (.int (p3 ^^^ (-1 : Int32)).toInt8.toInt32), .val (.long (p4 ^^^ (-1 : Int64))), .second] [(.int (1 : Int32)), (.ref b16)])) rfl (by rw [hml]; rfl) (Steps.refl _) (argsL := [(.int (1 : Int32))]) (rest := []) (lenOf pd01_3 rfl) rfl (by show 2 * 0 + _ ≤ _; exact Nat.le_of_eq rfl) (hb hby at_160) (fun _ _ => ⟨rfl, e39, (by decide : 7 + 0 ≤ _), (by decide : 15 + 0 ≤ _)⟩)
    dsimp only [Pt.U, Pt.locs, Pt.cells, Pt.slots] at X40 l40 y40 z40 st40 hQ40
    subst l40 y40 z40
    obtain ⟨rfl, N40q, e40⟩ := hQ40
    have N40 := Fr.app N39 N40q
    obtain ⟨cq41, kq41, q41a, q41b, q41c⟩ := isOf hZ e40 C38.1
    obtain ⟨_, _, ⟨T41, L41, k41, n41⟩, -, X41, ⟨Lc41, hQ41, l41, y41, z41⟩, st41⟩ := X40.virtualBack hx (y := (⟨"com/example/hornbrook/hornbrook/Cells", "bytes", "(I)[B"⟩ : MethodName)) (z := (⟨"com/example/hornbrook/hornbrook/Cells", "bytes", "(I)[B"⟩ : MethodName)) hown (mvT hZ (hw _ (List.mem_of_getElem? (i := 36) rfl))) (mvT hZ (hw _ (List.mem_of_getElem? (i := 37) rfl))) (notFace_of_selects (args := #[]) (mvT hZ (hw _ (List.mem_of_getElem? (i := 39) rfl)))) (mvT hZ (hw _ (List.mem_of_getElem? (i := 39) rfl))) (mvT hZ (hw _ (List.mem_of_getElem? (i := 38) rfl))) (by decide) (backOf (W := 0) (rm51 l Z a0 hw [] b16 ka wa ba ck cw cb (nar .byte (p3 ^^^ (-1 : Int32)).toInt8.toInt32) (nar .byte p3.toInt8.toInt32) (p4 ^^^ (-1 : Int64)) p4 vc vb T38.heap n0 (Nat.le_trans (Nat.le_trans (Nat.le_trans Z24 KC25.1) KC37.1) KC38.1) C38) hZ (hw _ (List.mem_of_getElem? (i := 40) rfl)) (hw _ (List.mem_of_getElem? (i := 3) rfl)) (by decide) (by decide)) q41a q41c (g := (mkF m 173 #[.val (.int p0), .val (.int p1), .val (.long p2), .second, .val (.int p3), .val (.long p4), .second, .val (.int p5), .val (.ref b1), .val (.ref b4), .val (.ref b9), .val (.ref b16), .val (.int (1 : Int32)), .val (.int (0 : Int32)), .val va, .val vb, .val vc, .val (.int (p3 ^^^ (-1 : Int32)).toInt8.toInt32), .val (.long (p4 ^^^ (-1 : Int64))), .second] [(.int (1 : Int32)), (.ref b16)])) rfl (by rw [hml]; rfl) (Steps.refl _) (argsL := [(.int (1 : Int32))]) (rest := []) (lenOf pd01_4 rfl) rfl (by show 2 * 0 + _ ≤ _; exact Nat.le_of_eq rfl) (hb hby at_173) (fun _ _ => ⟨rfl, e40, (by decide : 7 + 0 ≤ _), (by decide : 15 + 0 ≤ _)⟩)
    dsimp only [Pt.U, Pt.locs, Pt.cells, Pt.slots] at X41 l41 y41 z41 st41 hQ41
    subst l41 y41 z41
    obtain ⟨rfl, N41q, e41⟩ := hQ41
    have N41 := Fr.app N40 N41q
    obtain ⟨cq42, kq42, q42a, q42b, q42c⟩ := isOf hZ e41 C38.1
    obtain ⟨_, _, ⟨T42, L42, k42, n42⟩, -, X42, ⟨Lc42, hQ42, l42, y42, z42⟩, st42⟩ := X41.virtualBack hx (y := (⟨"com/example/hornbrook/hornbrook/Cells", "kind", "(I)B"⟩ : MethodName)) (z := (⟨"com/example/hornbrook/hornbrook/Cells", "kind", "(I)B"⟩ : MethodName)) hown (mvT hZ (hw _ (List.mem_of_getElem? (i := 26) rfl))) (mvT hZ (hw _ (List.mem_of_getElem? (i := 27) rfl))) (notFace_of_selects (args := #[]) (mvT hZ (hw _ (List.mem_of_getElem? (i := 29) rfl)))) (mvT hZ (hw _ (List.mem_of_getElem? (i := 29) rfl))) (mvT hZ (hw _ (List.mem_of_getElem? (i := 28) rfl))) (by decide) (backOf (W := 0) (rm30 l Z a0 hw [] b16 ka wa ba ck cw cb (nar .byte (p3 ^^^ (-1 : Int32)).toInt8.toInt32) (nar .byte p3.toInt8.toInt32) (p4 ^^^ (-1 : Int64)) p4 vc vb T38.heap n0 (Nat.le_trans (Nat.le_trans (Nat.le_trans Z24 KC25.1) KC37.1) KC38.1) C38) hZ (hw _ (List.mem_of_getElem? (i := 30) rfl)) (hw _ (List.mem_of_getElem? (i := 3) rfl)) (by decide) (by decide)) q42a q42c (g := (mkF m 185 #[.val (.int p0), .val (.int p1), .val (.long p2), .second, .val (.int p3), .val (.long p4), .second, .val (.int p5), .val (.ref b1), .val (.ref b4), .val (.ref b9), .val (.ref b16), .val (.int (1 : Int32)), .val (.int (0 : Int32)), .val va, .val vb, .val vc, .val (.int (p3 ^^^ (-1 : Int32)).toInt8.toInt32), .val (.long (p4 ^^^ (-1 : Int64))), .second] [(.int (0 : Int32)), (.ref b16)])) rfl (by rw [hml]; rfl) (Steps.refl _) (argsL := [(.int (0 : Int32))]) (rest := []) (lenOf pd01_2 rfl) rfl (by show 2 * 0 + _ ≤ _; exact Nat.le_of_eq rfl) (hb hby at_185) (fun _ _ => ⟨rfl, e41, (by decide : 7 + 0 ≤ _), (by decide : 15 + 0 ≤ _)⟩)
    dsimp only [Pt.U, Pt.locs, Pt.cells, Pt.slots] at X42 l42 y42 z42 st42 hQ42
    subst l42 y42 z42
    obtain ⟨rfl, N42q, e42⟩ := hQ42
    have N42 := Fr.app N41 N42q
    obtain ⟨cq43, kq43, q43a, q43b, q43c⟩ := isOf hZ e42 C38.1
    obtain ⟨_, _, ⟨T43, L43, k43, n43⟩, -, X43, ⟨Lc43, hQ43, l43, y43, z43⟩, st43⟩ := X42.virtualBack hx (y := (⟨"com/example/hornbrook/hornbrook/Cells", "word", "(I)J"⟩ : MethodName)) (z := (⟨"com/example/hornbrook/hornbrook/Cells", "word", "(I)J"⟩ : MethodName)) hown (mvT hZ (hw _ (List.mem_of_getElem? (i := 31) rfl))) (mvT hZ (hw _ (List.mem_of_getElem? (i := 32) rfl))) (notFace_of_selects (args := #[]) (mvT hZ (hw _ (List.mem_of_getElem? (i := 34) rfl)))) (mvT hZ (hw _ (List.mem_of_getElem? (i := 34) rfl))) (mvT hZ (hw _ (List.mem_of_getElem? (i := 33) rfl))) (by decide) (backOf (W := 0) (rm40 l Z a0 hw [] b16 ka wa ba ck cw cb (nar .byte (p3 ^^^ (-1 : Int32)).toInt8.toInt32) (nar .byte p3.toInt8.toInt32) (p4 ^^^ (-1 : Int64)) p4 vc vb T38.heap n0 (Nat.le_trans (Nat.le_trans (Nat.le_trans Z24 KC25.1) KC37.1) KC38.1) C38) hZ (hw _ (List.mem_of_getElem? (i := 35) rfl)) (hw _ (List.mem_of_getElem? (i := 3) rfl)) (by decide) (by decide)) q43a q43c (g := (mkF m 197 #[.val (.int p0), .val (.int p1), .val (.long p2), .second, .val (.int p3), .val (.long p4), .second, .val (.int p5), .val (.ref b1), .val (.ref b4), .val (.ref b9), .val (.ref b16), .val (.int (1 : Int32)), .val (.int (0 : Int32)), .val va, .val vb, .val vc, .val (.int (p3 ^^^ (-1 : Int32)).toInt8.toInt32), .val (.long (p4 ^^^ (-1 : Int64))), .second] [(.int (0 : Int32)), (.ref b16)])) rfl (by rw [hml]; rfl) (Steps.refl _) (argsL := [(.int (0 : Int32))]) (rest := []) (lenOf pd01_3 rfl) rfl (by show 2 * 0 + _ ≤ _; exact Nat.le_of_eq rfl) (hb hby at_197) (fun _ _ => ⟨rfl, e42, (by decide : 7 + 0 ≤ _), (by decide : 15 + 0 ≤ _)⟩)
    dsimp only [Pt.U, Pt.locs, Pt.cells, Pt.slots] at X43 l43 y43 z43 st43 hQ43
    subst l43 y43 z43
    obtain ⟨rfl, N43q, e43⟩ := hQ43
    have N43 := Fr.app N42 N43q
    obtain ⟨cq44, kq44, q44a, q44b, q44c⟩ := isOf hZ e43 C38.1
    obtain ⟨_, _, ⟨T44, L44, k44, n44⟩, -, X44, ⟨Lc44, hQ44, l44, y44, z44⟩, st44⟩ := X43.virtualBack hx (y := (⟨"com/example/hornbrook/hornbrook/Cells", "bytes", "(I)[B"⟩ : MethodName)) (z := (⟨"com/example/hornbrook/hornbrook/Cells", "bytes", "(I)[B"⟩ : MethodName)) hown (mvT hZ (hw _ (List.mem_of_getElem? (i := 36) rfl))) (mvT hZ (hw _ (List.mem_of_getElem? (i := 37) rfl))) (notFace_of_selects (args := #[]) (mvT hZ (hw _ (List.mem_of_getElem? (i := 39) rfl)))) (mvT hZ (hw _ (List.mem_of_getElem? (i := 39) rfl))) (mvT hZ (hw _ (List.mem_of_getElem? (i := 38) rfl))) (by decide) (backOf (W := 0) (rm50 l Z a0 hw [] b16 ka wa ba ck cw cb (nar .byte (p3 ^^^ (-1 : Int32)).toInt8.toInt32) (nar .byte p3.toInt8.toInt32) (p4 ^^^ (-1 : Int64)) p4 vc vb T38.heap n0 (Nat.le_trans (Nat.le_trans (Nat.le_trans Z24 KC25.1) KC37.1) KC38.1) C38) hZ (hw _ (List.mem_of_getElem? (i := 40) rfl)) (hw _ (List.mem_of_getElem? (i := 3) rfl)) (by decide) (by decide)) q44a q44c (g := (mkF m 210 #[.val (.int p0), .val (.int p1), .val (.long p2), .second, .val (.int p3), .val (.long p4), .second, .val (.int p5), .val (.ref b1), .val (.ref b4), .val (.ref b9), .val (.ref b16), .val (.int (1 : Int32)), .val (.int (0 : Int32)), .val va, .val vb, .val vc, .val (.int (p3 ^^^ (-1 : Int32)).toInt8.toInt32), .val (.long (p4 ^^^ (-1 : Int64))), .second] [(.int (0 : Int32)), (.ref b16)])) rfl (by rw [hml]; rfl) (Steps.refl _) (argsL := [(.int (0 : Int32))]) (rest := []) (lenOf pd01_4 rfl) rfl (by show 2 * 0 + _ ≤ _; exact Nat.le_of_eq rfl) (hb hby at_210) (fun _ _ => ⟨rfl, e43, (by decide : 7 + 0 ≤ _), (by decide : 15 + 0 ≤ _)⟩)
    dsimp only [Pt.U, Pt.locs, Pt.cells, Pt.slots] at X44 l44 y44 z44 st44 hQ44
    subst l44 y44 z44
    obtain ⟨rfl, N44q, e44⟩ := hQ44
    have N44 := Fr.app N43 N44q
    have pre45 : ∀ tg_, Steps p.tables e below (T44.setTop (mkF m 223 #[.val (.int p0), .val (.int p1), .val (.long p2), .second, .val (.int p3), .val (.long p4), .second, .val (.int p5), .val (.ref b1), .val (.ref b4), .val (.ref b9), .val (.ref b16), .val (.int (1 : Int32)), .val (.int (0 : Int32)), .val va, .val vb, .val vc, .val (.int (p3 ^^^ (-1 : Int32)).toInt8.toInt32), .val (.long (p4 ^^^ (-1 : Int64))), .second] [(.int (1 : Int32))])) tg_ → Steps p.tables e below (s₁.setTop (entryFrame m #[(.int p0), (.int p1), (.long p2), (.int p3), (.long p4), (.int p5)] maxLocals)) tg_ := by
      intro tg_ kt
      refine pre35 _ ?_
      show Steps p.tables e below (T25.setTop (mkF m 101 #[.val (.int p0), .val (.int p1), .val (.long p2), .second, .val (.int p3), .val (.long p4), .second, .val (.int p5), .val (.ref b1), .val (.ref b4), .val (.ref b9), .val (.ref b16), .val (.int (1 : Int32)), .val (.int (0 : Int32)), .val va, .val vb, .val vc, .val (.int (p3 ^^^ (-1 : Int32)).toInt8.toInt32), .val (.long (p4 ^^^ (-1 : Int64))), .second] [(.int (p5 &&& (8 : Int32)))])) _
      refine XS.ifYes X25.here hx rfl (pc0 := 101) (pc' := 116) rfl (hb hby at_101) rfl (XT.i0_eq_t hc101_36) (by decide) (by decide) ?_
      show Steps p.tables e below (T25.setTop (mkF m 116 #[.val (.int p0), .val (.int p1), .val (.long p2), .second, .val (.int p3), .val (.long p4), .second, .val (.int p5), .val (.ref b1), .val (.ref b4), .val (.ref b9), .val (.ref b16), .val (.int (1 : Int32)), .val (.int (0 : Int32)), .val va, .val vb, .val vc, .val (.int (p3 ^^^ (-1 : Int32)).toInt8.toInt32), .val (.long (p4 ^^^ (-1 : Int64))), .second] [])) _
      refine XS.aload X25.here hx rfl (hb hby at_116) rfl rfl ?_
      show Steps p.tables e below (T25.setTop (mkF m 118 #[.val (.int p0), .val (.int p1), .val (.long p2), .second, .val (.int p3), .val (.long p4), .second, .val (.int p5), .val (.ref b1), .val (.ref b4), .val (.ref b9), .val (.ref b16), .val (.int (1 : Int32)), .val (.int (0 : Int32)), .val va, .val vb, .val vc, .val (.int (p3 ^^^ (-1 : Int32)).toInt8.toInt32), .val (.long (p4 ^^^ (-1 : Int64))), .second] [(.ref b16)])) _
      refine XS.iload X25.here hx rfl (hb hby at_118) rfl ?_
      show Steps p.tables e below (T25.setTop (mkF m 120 #[.val (.int p0), .val (.int p1), .val (.long p2), .second, .val (.int p3), .val (.long p4), .second, .val (.int p5), .val (.ref b1), .val (.ref b4), .val (.ref b9), .val (.ref b16), .val (.int (1 : Int32)), .val (.int (0 : Int32)), .val va, .val vb, .val vc, .val (.int (p3 ^^^ (-1 : Int32)).toInt8.toInt32), .val (.long (p4 ^^^ (-1 : Int64))), .second] [(.int (0 : Int32)), (.ref b16)])) _
      refine XS.iload X25.here hx rfl (hb hby at_120) rfl ?_
      show Steps p.tables e below (T25.setTop (mkF m 122 #[.val (.int p0), .val (.int p1), .val (.long p2), .second, .val (.int p3), .val (.long p4), .second, .val (.int p5), .val (.ref b1), .val (.ref b4), .val (.ref b9), .val (.ref b16), .val (.int (1 : Int32)), .val (.int (0 : Int32)), .val va, .val vb, .val vc, .val (.int (p3 ^^^ (-1 : Int32)).toInt8.toInt32), .val (.long (p4 ^^^ (-1 : Int64))), .second] [(.int (p3 ^^^ (-1 : Int32)).toInt8.toInt32), (.int (0 : Int32)), (.ref b16)])) _
      refine XS.lload X25.here hx rfl (hb hby at_122) rfl ?_
      show Steps p.tables e below (T25.setTop (mkF m 124 #[.val (.int p0), .val (.int p1), .val (.long p2), .second, .val (.int p3), .val (.long p4), .second, .val (.int p5), .val (.ref b1), .val (.ref b4), .val (.ref b9), .val (.ref b16), .val (.int (1 : Int32)), .val (.int (0 : Int32)), .val va, .val vb, .val vc, .val (.int (p3 ^^^ (-1 : Int32)).toInt8.toInt32), .val (.long (p4 ^^^ (-1 : Int64))), .second] [(.long (p4 ^^^ (-1 : Int64))), (.int (p3 ^^^ (-1 : Int32)).toInt8.toInt32), (.int (0 : Int32)), (.ref b16)])) _
      refine XS.aload X25.here hx rfl (hb hby at_124) rfl Bvc.isRef ?_
      show Steps p.tables e below (T25.setTop (mkF m 126 #[.val (.int p0), .val (.int p1), .val (.long p2), .second, .val (.int p3), .val (.long p4), .second, .val (.int p5), .val (.ref b1), .val (.ref b4), .val (.ref b9), .val (.ref b16), .val (.int (1 : Int32)), .val (.int (0 : Int32)), .val va, .val vb, .val vc, .val (.int (p3 ^^^ (-1 : Int32)).toInt8.toInt32), .val (.long (p4 ^^^ (-1 : Int64))), .second] [vc, (.long (p4 ^^^ (-1 : Int64))), (.int (p3 ^^^ (-1 : Int32)).toInt8.toInt32), (.int (0 : Int32)), (.ref b16)])) _
      refine st37.trans ?_
      show Steps p.tables e below (T37.setTop (mkF m 129 #[.val (.int p0), .val (.int p1), .val (.long p2), .second, .val (.int p3), .val (.long p4), .second, .val (.int p5), .val (.ref b1), .val (.ref b4), .val (.ref b9), .val (.ref b16), .val (.int (1 : Int32)), .val (.int (0 : Int32)), .val va, .val vb, .val vc, .val (.int (p3 ^^^ (-1 : Int32)).toInt8.toInt32), .val (.long (p4 ^^^ (-1 : Int64))), .second] [])) _
      refine XS.aload X37.here hx rfl (hb hby at_129) rfl rfl ?_
      show Steps p.tables e below (T37.setTop (mkF m 131 #[.val (.int p0), .val (.int p1), .val (.long p2), .second, .val (.int p3), .val (.long p4), .second, .val (.int p5), .val (.ref b1), .val (.ref b4), .val (.ref b9), .val (.ref b16), .val (.int (1 : Int32)), .val (.int (0 : Int32)), .val va, .val vb, .val vc, .val (.int (p3 ^^^ (-1 : Int32)).toInt8.toInt32), .val (.long (p4 ^^^ (-1 : Int64))), .second] [(.ref b16)])) _
      refine XS.iload X37.here hx rfl (hb hby at_131) rfl ?_
      show Steps p.tables e below (T37.setTop (mkF m 133 #[.val (.int p0), .val (.int p1), .val (.long p2), .second, .val (.int p3), .val (.long p4), .second, .val (.int p5), .val (.ref b1), .val (.ref b4), .val (.ref b9), .val (.ref b16), .val (.int (1 : Int32)), .val (.int (0 : Int32)), .val va, .val vb, .val vc, .val (.int (p3 ^^^ (-1 : Int32)).toInt8.toInt32), .val (.long (p4 ^^^ (-1 : Int64))), .second] [(.int (1 : Int32)), (.ref b16)])) _
      refine XS.iload X37.here hx rfl (hb hby at_133) rfl ?_
      show Steps p.tables e below (T37.setTop (mkF m 135 #[.val (.int p0), .val (.int p1), .val (.long p2), .second, .val (.int p3), .val (.long p4), .second, .val (.int p5), .val (.ref b1), .val (.ref b4), .val (.ref b9), .val (.ref b16), .val (.int (1 : Int32)), .val (.int (0 : Int32)), .val va, .val vb, .val vc, .val (.int (p3 ^^^ (-1 : Int32)).toInt8.toInt32), .val (.long (p4 ^^^ (-1 : Int64))), .second] [(.int p3), (.int (1 : Int32)), (.ref b16)])) _
      refine XS.i2b X37.here hx rfl (hb hby at_135) rfl ?_
      show Steps p.tables e below (T37.setTop (mkF m 136 #[.val (.int p0), .val (.int p1), .val (.long p2), .second, .val (.int p3), .val (.long p4), .second, .val (.int p5), .val (.ref b1), .val (.ref b4), .val (.ref b9), .val (.ref b16), .val (.int (1 : Int32)), .val (.int (0 : Int32)), .val va, .val vb, .val vc, .val (.int (p3 ^^^ (-1 : Int32)).toInt8.toInt32), .val (.long (p4 ^^^ (-1 : Int64))), .second] [(.int p3.toInt8.toInt32), (.int (1 : Int32)), (.ref b16)])) _
      refine XS.lload X37.here hx rfl (hb hby at_136) rfl ?_
      show Steps p.tables e below (T37.setTop (mkF m 138 #[.val (.int p0), .val (.int p1), .val (.long p2), .second, .val (.int p3), .val (.long p4), .second, .val (.int p5), .val (.ref b1), .val (.ref b4), .val (.ref b9), .val (.ref b16), .val (.int (1 : Int32)), .val (.int (0 : Int32)), .val va, .val vb, .val vc, .val (.int (p3 ^^^ (-1 : Int32)).toInt8.toInt32), .val (.long (p4 ^^^ (-1 : Int64))), .second] [(.long p4), (.int p3.toInt8.toInt32), (.int (1 : Int32)), (.ref b16)])) _
      refine XS.aload X37.here hx rfl (hb hby at_138) rfl Bvb.isRef ?_
      show Steps p.tables e below (T37.setTop (mkF m 140 #[.val (.int p0), .val (.int p1), .val (.long p2), .second, .val (.int p3), .val (.long p4), .second, .val (.int p5), .val (.ref b1), .val (.ref b4), .val (.ref b9), .val (.ref b16), .val (.int (1 : Int32)), .val (.int (0 : Int32)), .val va, .val vb, .val vc, .val (.int (p3 ^^^ (-1 : Int32)).toInt8.toInt32), .val (.long (p4 ^^^ (-1 : Int64))), .second] [vb, (.long p4), (.int p3.toInt8.toInt32), (.int (1 : Int32)), (.ref b16)])) _
      refine st38.trans ?_
      show Steps p.tables e below (T38.setTop (mkF m 143 #[.val (.int p0), .val (.int p1), .val (.long p2), .second, .val (.int p3), .val (.long p4), .second, .val (.int p5), .val (.ref b1), .val (.ref b4), .val (.ref b9), .val (.ref b16), .val (.int (1 : Int32)), .val (.int (0 : Int32)), .val va, .val vb, .val vc, .val (.int (p3 ^^^ (-1 : Int32)).toInt8.toInt32), .val (.long (p4 ^^^ (-1 : Int64))), .second] [])) _
      refine XS.aload X38.here hx rfl (hb hby at_143) rfl rfl ?_
      show Steps p.tables e below (T38.setTop (mkF m 145 #[.val (.int p0), .val (.int p1), .val (.long p2), .second, .val (.int p3), .val (.long p4), .second, .val (.int p5), .val (.ref b1), .val (.ref b4), .val (.ref b9), .val (.ref b16), .val (.int (1 : Int32)), .val (.int (0 : Int32)), .val va, .val vb, .val vc, .val (.int (p3 ^^^ (-1 : Int32)).toInt8.toInt32), .val (.long (p4 ^^^ (-1 : Int64))), .second] [(.ref b16)])) _
      refine XS.iload X38.here hx rfl (hb hby at_145) rfl ?_
      show Steps p.tables e below (T38.setTop (mkF m 147 #[.val (.int p0), .val (.int p1), .val (.long p2), .second, .val (.int p3), .val (.long p4), .second, .val (.int p5), .val (.ref b1), .val (.ref b4), .val (.ref b9), .val (.ref b16), .val (.int (1 : Int32)), .val (.int (0 : Int32)), .val va, .val vb, .val vc, .val (.int (p3 ^^^ (-1 : Int32)).toInt8.toInt32), .val (.long (p4 ^^^ (-1 : Int64))), .second] [(.int (1 : Int32)), (.ref b16)])) _
      refine st39.trans ?_
      show Steps p.tables e below (T39.setTop (mkF m 150 #[.val (.int p0), .val (.int p1), .val (.long p2), .second, .val (.int p3), .val (.long p4), .second, .val (.int p5), .val (.ref b1), .val (.ref b4), .val (.ref b9), .val (.ref b16), .val (.int (1 : Int32)), .val (.int (0 : Int32)), .val va, .val vb, .val vc, .val (.int (p3 ^^^ (-1 : Int32)).toInt8.toInt32), .val (.long (p4 ^^^ (-1 : Int64))), .second] [(.int (nar .byte (nar .byte p3.toInt8.toInt32)))])) _
      refine XS.iload X39.here hx rfl (hb hby at_150) rfl ?_
      show Steps p.tables e below (T39.setTop (mkF m 152 #[.val (.int p0), .val (.int p1), .val (.long p2), .second, .val (.int p3), .val (.long p4), .second, .val (.int p5), .val (.ref b1), .val (.ref b4), .val (.ref b9), .val (.ref b16), .val (.int (1 : Int32)), .val (.int (0 : Int32)), .val va, .val vb, .val vc, .val (.int (p3 ^^^ (-1 : Int32)).toInt8.toInt32), .val (.long (p4 ^^^ (-1 : Int64))), .second] [(.int p3), (.int (nar .byte (nar .byte p3.toInt8.toInt32)))])) _
      refine XS.i2b X39.here hx rfl (hb hby at_152) rfl ?_
      show Steps p.tables e below (T39.setTop (mkF m 153 #[.val (.int p0), .val (.int p1), .val (.long p2), .second, .val (.int p3), .val (.long p4), .second, .val (.int p5), .val (.ref b1), .val (.ref b4), .val (.ref b9), .val (.ref b16), .val (.int (1 : Int32)), .val (.int (0 : Int32)), .val va, .val vb, .val vc, .val (.int (p3 ^^^ (-1 : Int32)).toInt8.toInt32), .val (.long (p4 ^^^ (-1 : Int64))), .second] [(.int p3.toInt8.toInt32), (.int (nar .byte (nar .byte p3.toInt8.toInt32)))])) _
      refine XS.icmpNo X39.here hx rfl (hb hby at_153) rfl (XT.ii_ne_f (by simp only [own_nb])) ?_
      show Steps p.tables e below (T39.setTop (mkF m 156 #[.val (.int p0), .val (.int p1), .val (.long p2), .second, .val (.int p3), .val (.long p4), .second, .val (.int p5), .val (.ref b1), .val (.ref b4), .val (.ref b9), .val (.ref b16), .val (.int (1 : Int32)), .val (.int (0 : Int32)), .val va, .val vb, .val vc, .val (.int (p3 ^^^ (-1 : Int32)).toInt8.toInt32), .val (.long (p4 ^^^ (-1 : Int64))), .second] [])) _
      refine XS.aload X39.here hx rfl (hb hby at_156) rfl rfl ?_
      show Steps p.tables e below (T39.setTop (mkF m 158 #[.val (.int p0), .val (.int p1), .val (.long p2), .second, .val (.int p3), .val (.long p4), .second, .val (.int p5), .val (.ref b1), .val (.ref b4), .val (.ref b9), .val (.ref b16), .val (.int (1 : Int32)), .val (.int (0 : Int32)), .val va, .val vb, .val vc, .val (.int (p3 ^^^ (-1 : Int32)).toInt8.toInt32), .val (.long (p4 ^^^ (-1 : Int64))), .second] [(.ref b16)])) _
      refine XS.iload X39.here hx rfl (hb hby at_158) rfl ?_
      show Steps p.tables e below (T39.setTop (mkF m 160 #[.val (.int p0), .val (.int p1), .val (.long p2), .second, .val (.int p3), .val (.long p4), .second, .val (.int p5), .val (.ref b1), .val (.ref b4), .val (.ref b9), .val (.ref b16), .val (.int (1 : Int32)), .val (.int (0 : Int32)), .val va, .val vb, .val vc, .val (.int (p3 ^^^ (-1 : Int32)).toInt8.toInt32), .val (.long (p4 ^^^ (-1 : Int64))), .second] [(.int (1 : Int32)), (.ref b16)])) _
      refine st40.trans ?_
      show Steps p.tables e below (T40.setTop (mkF m 163 #[.val (.int p0), .val (.int p1), .val (.long p2), .second, .val (.int p3), .val (.long p4), .second, .val (.int p5), .val (.ref b1), .val (.ref b4), .val (.ref b9), .val (.ref b16), .val (.int (1 : Int32)), .val (.int (0 : Int32)), .val va, .val vb, .val vc, .val (.int (p3 ^^^ (-1 : Int32)).toInt8.toInt32), .val (.long (p4 ^^^ (-1 : Int64))), .second] [(.long p4)])) _
      refine XS.lload X40.here hx rfl (hb hby at_163) rfl ?_
      show Steps p.tables e below (T40.setTop (mkF m 165 #[.val (.int p0), .val (.int p1), .val (.long p2), .second, .val (.int p3), .val (.long p4), .second, .val (.int p5), .val (.ref b1), .val (.ref b4), .val (.ref b9), .val (.ref b16), .val (.int (1 : Int32)), .val (.int (0 : Int32)), .val va, .val vb, .val vc, .val (.int (p3 ^^^ (-1 : Int32)).toInt8.toInt32), .val (.long (p4 ^^^ (-1 : Int64))), .second] [(.long p4), (.long p4)])) _
      refine XT.lcmp X40.here hx rfl (hb hby at_165) rfl ?_
      show Steps p.tables e below (T40.setTop (mkF m 166 #[.val (.int p0), .val (.int p1), .val (.long p2), .second, .val (.int p3), .val (.long p4), .second, .val (.int p5), .val (.ref b1), .val (.ref b4), .val (.ref b9), .val (.ref b16), .val (.int (1 : Int32)), .val (.int (0 : Int32)), .val va, .val vb, .val vc, .val (.int (p3 ^^^ (-1 : Int32)).toInt8.toInt32), .val (.long (p4 ^^^ (-1 : Int64))), .second] [(.int (XT.cmpL p4 p4))])) _
      refine XS.ifNo X40.here hx rfl (hb hby at_166) rfl (XT.ll_ne_f rfl) ?_
      show Steps p.tables e below (T40.setTop (mkF m 169 #[.val (.int p0), .val (.int p1), .val (.long p2), .second, .val (.int p3), .val (.long p4), .second, .val (.int p5), .val (.ref b1), .val (.ref b4), .val (.ref b9), .val (.ref b16), .val (.int (1 : Int32)), .val (.int (0 : Int32)), .val va, .val vb, .val vc, .val (.int (p3 ^^^ (-1 : Int32)).toInt8.toInt32), .val (.long (p4 ^^^ (-1 : Int64))), .second] [])) _
      refine XS.aload X40.here hx rfl (hb hby at_169) rfl rfl ?_
      show Steps p.tables e below (T40.setTop (mkF m 171 #[.val (.int p0), .val (.int p1), .val (.long p2), .second, .val (.int p3), .val (.long p4), .second, .val (.int p5), .val (.ref b1), .val (.ref b4), .val (.ref b9), .val (.ref b16), .val (.int (1 : Int32)), .val (.int (0 : Int32)), .val va, .val vb, .val vc, .val (.int (p3 ^^^ (-1 : Int32)).toInt8.toInt32), .val (.long (p4 ^^^ (-1 : Int64))), .second] [(.ref b16)])) _
      refine XS.iload X40.here hx rfl (hb hby at_171) rfl ?_
      show Steps p.tables e below (T40.setTop (mkF m 173 #[.val (.int p0), .val (.int p1), .val (.long p2), .second, .val (.int p3), .val (.long p4), .second, .val (.int p5), .val (.ref b1), .val (.ref b4), .val (.ref b9), .val (.ref b16), .val (.int (1 : Int32)), .val (.int (0 : Int32)), .val va, .val vb, .val vc, .val (.int (p3 ^^^ (-1 : Int32)).toInt8.toInt32), .val (.long (p4 ^^^ (-1 : Int64))), .second] [(.int (1 : Int32)), (.ref b16)])) _
      refine st41.trans ?_
      show Steps p.tables e below (T41.setTop (mkF m 176 #[.val (.int p0), .val (.int p1), .val (.long p2), .second, .val (.int p3), .val (.long p4), .second, .val (.int p5), .val (.ref b1), .val (.ref b4), .val (.ref b9), .val (.ref b16), .val (.int (1 : Int32)), .val (.int (0 : Int32)), .val va, .val vb, .val vc, .val (.int (p3 ^^^ (-1 : Int32)).toInt8.toInt32), .val (.long (p4 ^^^ (-1 : Int64))), .second] [vb])) _
      refine XS.aload X41.here hx rfl (hb hby at_176) rfl Bvb.isRef ?_
      show Steps p.tables e below (T41.setTop (mkF m 178 #[.val (.int p0), .val (.int p1), .val (.long p2), .second, .val (.int p3), .val (.long p4), .second, .val (.int p5), .val (.ref b1), .val (.ref b4), .val (.ref b9), .val (.ref b16), .val (.int (1 : Int32)), .val (.int (0 : Int32)), .val va, .val vb, .val vc, .val (.int (p3 ^^^ (-1 : Int32)).toInt8.toInt32), .val (.long (p4 ^^^ (-1 : Int64))), .second] [vb, vb])) _
      refine XT.acmpNo X41.here hx rfl (hb hby at_178) rfl Bvb.isRef Bvb.isRef (XT.aa_ne_f rfl) ?_
      show Steps p.tables e below (T41.setTop (mkF m 181 #[.val (.int p0), .val (.int p1), .val (.long p2), .second, .val (.int p3), .val (.long p4), .second, .val (.int p5), .val (.ref b1), .val (.ref b4), .val (.ref b9), .val (.ref b16), .val (.int (1 : Int32)), .val (.int (0 : Int32)), .val va, .val vb, .val vc, .val (.int (p3 ^^^ (-1 : Int32)).toInt8.toInt32), .val (.long (p4 ^^^ (-1 : Int64))), .second] [])) _
      refine XS.aload X41.here hx rfl (hb hby at_181) rfl rfl ?_
      show Steps p.tables e below (T41.setTop (mkF m 183 #[.val (.int p0), .val (.int p1), .val (.long p2), .second, .val (.int p3), .val (.long p4), .second, .val (.int p5), .val (.ref b1), .val (.ref b4), .val (.ref b9), .val (.ref b16), .val (.int (1 : Int32)), .val (.int (0 : Int32)), .val va, .val vb, .val vc, .val (.int (p3 ^^^ (-1 : Int32)).toInt8.toInt32), .val (.long (p4 ^^^ (-1 : Int64))), .second] [(.ref b16)])) _
      refine XS.iload X41.here hx rfl (hb hby at_183) rfl ?_
      show Steps p.tables e below (T41.setTop (mkF m 185 #[.val (.int p0), .val (.int p1), .val (.long p2), .second, .val (.int p3), .val (.long p4), .second, .val (.int p5), .val (.ref b1), .val (.ref b4), .val (.ref b9), .val (.ref b16), .val (.int (1 : Int32)), .val (.int (0 : Int32)), .val va, .val vb, .val vc, .val (.int (p3 ^^^ (-1 : Int32)).toInt8.toInt32), .val (.long (p4 ^^^ (-1 : Int64))), .second] [(.int (0 : Int32)), (.ref b16)])) _
      refine st42.trans ?_
      show Steps p.tables e below (T42.setTop (mkF m 188 #[.val (.int p0), .val (.int p1), .val (.long p2), .second, .val (.int p3), .val (.long p4), .second, .val (.int p5), .val (.ref b1), .val (.ref b4), .val (.ref b9), .val (.ref b16), .val (.int (1 : Int32)), .val (.int (0 : Int32)), .val va, .val vb, .val vc, .val (.int (p3 ^^^ (-1 : Int32)).toInt8.toInt32), .val (.long (p4 ^^^ (-1 : Int64))), .second] [(.int (nar .byte (nar .byte (p3 ^^^ (-1 : Int32)).toInt8.toInt32)))])) _
      refine XS.iload X42.here hx rfl (hb hby at_188) rfl ?_
      show Steps p.tables e below (T42.setTop (mkF m 190 #[.val (.int p0), .val (.int p1), .val (.long p2), .second, .val (.int p3), .val (.long p4), .second, .val (.int p5), .val (.ref b1), .val (.ref b4), .val (.ref b9), .val (.ref b16), .val (.int (1 : Int32)), .val (.int (0 : Int32)), .val va, .val vb, .val vc, .val (.int (p3 ^^^ (-1 : Int32)).toInt8.toInt32), .val (.long (p4 ^^^ (-1 : Int64))), .second] [(.int (p3 ^^^ (-1 : Int32)).toInt8.toInt32), (.int (nar .byte (nar .byte (p3 ^^^ (-1 : Int32)).toInt8.toInt32)))])) _
      refine XS.icmpNo X42.here hx rfl (hb hby at_190) rfl (XT.ii_ne_f (by simp only [own_nb])) ?_
      show Steps p.tables e below (T42.setTop (mkF m 193 #[.val (.int p0), .val (.int p1), .val (.long p2), .second, .val (.int p3), .val (.long p4), .second, .val (.int p5), .val (.ref b1), .val (.ref b4), .val (.ref b9), .val (.ref b16), .val (.int (1 : Int32)), .val (.int (0 : Int32)), .val va, .val vb, .val vc, .val (.int (p3 ^^^ (-1 : Int32)).toInt8.toInt32), .val (.long (p4 ^^^ (-1 : Int64))), .second] [])) _
      refine XS.aload X42.here hx rfl (hb hby at_193) rfl rfl ?_
      show Steps p.tables e below (T42.setTop (mkF m 195 #[.val (.int p0), .val (.int p1), .val (.long p2), .second, .val (.int p3), .val (.long p4), .second, .val (.int p5), .val (.ref b1), .val (.ref b4), .val (.ref b9), .val (.ref b16), .val (.int (1 : Int32)), .val (.int (0 : Int32)), .val va, .val vb, .val vc, .val (.int (p3 ^^^ (-1 : Int32)).toInt8.toInt32), .val (.long (p4 ^^^ (-1 : Int64))), .second] [(.ref b16)])) _
      refine XS.iload X42.here hx rfl (hb hby at_195) rfl ?_
      show Steps p.tables e below (T42.setTop (mkF m 197 #[.val (.int p0), .val (.int p1), .val (.long p2), .second, .val (.int p3), .val (.long p4), .second, .val (.int p5), .val (.ref b1), .val (.ref b4), .val (.ref b9), .val (.ref b16), .val (.int (1 : Int32)), .val (.int (0 : Int32)), .val va, .val vb, .val vc, .val (.int (p3 ^^^ (-1 : Int32)).toInt8.toInt32), .val (.long (p4 ^^^ (-1 : Int64))), .second] [(.int (0 : Int32)), (.ref b16)])) _
      refine st43.trans ?_
      show Steps p.tables e below (T43.setTop (mkF m 200 #[.val (.int p0), .val (.int p1), .val (.long p2), .second, .val (.int p3), .val (.long p4), .second, .val (.int p5), .val (.ref b1), .val (.ref b4), .val (.ref b9), .val (.ref b16), .val (.int (1 : Int32)), .val (.int (0 : Int32)), .val va, .val vb, .val vc, .val (.int (p3 ^^^ (-1 : Int32)).toInt8.toInt32), .val (.long (p4 ^^^ (-1 : Int64))), .second] [(.long (p4 ^^^ (-1 : Int64)))])) _
      refine XS.lload X43.here hx rfl (hb hby at_200) rfl ?_
      show Steps p.tables e below (T43.setTop (mkF m 202 #[.val (.int p0), .val (.int p1), .val (.long p2), .second, .val (.int p3), .val (.long p4), .second, .val (.int p5), .val (.ref b1), .val (.ref b4), .val (.ref b9), .val (.ref b16), .val (.int (1 : Int32)), .val (.int (0 : Int32)), .val va, .val vb, .val vc, .val (.int (p3 ^^^ (-1 : Int32)).toInt8.toInt32), .val (.long (p4 ^^^ (-1 : Int64))), .second] [(.long (p4 ^^^ (-1 : Int64))), (.long (p4 ^^^ (-1 : Int64)))])) _
      refine XT.lcmp X43.here hx rfl (hb hby at_202) rfl ?_
      show Steps p.tables e below (T43.setTop (mkF m 203 #[.val (.int p0), .val (.int p1), .val (.long p2), .second, .val (.int p3), .val (.long p4), .second, .val (.int p5), .val (.ref b1), .val (.ref b4), .val (.ref b9), .val (.ref b16), .val (.int (1 : Int32)), .val (.int (0 : Int32)), .val va, .val vb, .val vc, .val (.int (p3 ^^^ (-1 : Int32)).toInt8.toInt32), .val (.long (p4 ^^^ (-1 : Int64))), .second] [(.int (XT.cmpL (p4 ^^^ (-1 : Int64)) (p4 ^^^ (-1 : Int64))))])) _
      refine XS.ifNo X43.here hx rfl (hb hby at_203) rfl (XT.ll_ne_f rfl) ?_
      show Steps p.tables e below (T43.setTop (mkF m 206 #[.val (.int p0), .val (.int p1), .val (.long p2), .second, .val (.int p3), .val (.long p4), .second, .val (.int p5), .val (.ref b1), .val (.ref b4), .val (.ref b9), .val (.ref b16), .val (.int (1 : Int32)), .val (.int (0 : Int32)), .val va, .val vb, .val vc, .val (.int (p3 ^^^ (-1 : Int32)).toInt8.toInt32), .val (.long (p4 ^^^ (-1 : Int64))), .second] [])) _
      refine XS.aload X43.here hx rfl (hb hby at_206) rfl rfl ?_
      show Steps p.tables e below (T43.setTop (mkF m 208 #[.val (.int p0), .val (.int p1), .val (.long p2), .second, .val (.int p3), .val (.long p4), .second, .val (.int p5), .val (.ref b1), .val (.ref b4), .val (.ref b9), .val (.ref b16), .val (.int (1 : Int32)), .val (.int (0 : Int32)), .val va, .val vb, .val vc, .val (.int (p3 ^^^ (-1 : Int32)).toInt8.toInt32), .val (.long (p4 ^^^ (-1 : Int64))), .second] [(.ref b16)])) _
      refine XS.iload X43.here hx rfl (hb hby at_208) rfl ?_
      show Steps p.tables e below (T43.setTop (mkF m 210 #[.val (.int p0), .val (.int p1), .val (.long p2), .second, .val (.int p3), .val (.long p4), .second, .val (.int p5), .val (.ref b1), .val (.ref b4), .val (.ref b9), .val (.ref b16), .val (.int (1 : Int32)), .val (.int (0 : Int32)), .val va, .val vb, .val vc, .val (.int (p3 ^^^ (-1 : Int32)).toInt8.toInt32), .val (.long (p4 ^^^ (-1 : Int64))), .second] [(.int (0 : Int32)), (.ref b16)])) _
      refine st44.trans ?_
      show Steps p.tables e below (T44.setTop (mkF m 213 #[.val (.int p0), .val (.int p1), .val (.long p2), .second, .val (.int p3), .val (.long p4), .second, .val (.int p5), .val (.ref b1), .val (.ref b4), .val (.ref b9), .val (.ref b16), .val (.int (1 : Int32)), .val (.int (0 : Int32)), .val va, .val vb, .val vc, .val (.int (p3 ^^^ (-1 : Int32)).toInt8.toInt32), .val (.long (p4 ^^^ (-1 : Int64))), .second] [vc])) _
      refine XS.aload X44.here hx rfl (hb hby at_213) rfl Bvc.isRef ?_
      show Steps p.tables e below (T44.setTop (mkF m 215 #[.val (.int p0), .val (.int p1), .val (.long p2), .second, .val (.int p3), .val (.long p4), .second, .val (.int p5), .val (.ref b1), .val (.ref b4), .val (.ref b9), .val (.ref b16), .val (.int (1 : Int32)), .val (.int (0 : Int32)), .val va, .val vb, .val vc, .val (.int (p3 ^^^ (-1 : Int32)).toInt8.toInt32), .val (.long (p4 ^^^ (-1 : Int64))), .second] [vc, vc])) _
      refine XT.acmpNo X44.here hx rfl (hb hby at_215) rfl Bvc.isRef Bvc.isRef (XT.aa_ne_f rfl) ?_
      show Steps p.tables e below (T44.setTop (mkF m 218 #[.val (.int p0), .val (.int p1), .val (.long p2), .second, .val (.int p3), .val (.long p4), .second, .val (.int p5), .val (.ref b1), .val (.ref b4), .val (.ref b9), .val (.ref b16), .val (.int (1 : Int32)), .val (.int (0 : Int32)), .val va, .val vb, .val vc, .val (.int (p3 ^^^ (-1 : Int32)).toInt8.toInt32), .val (.long (p4 ^^^ (-1 : Int64))), .second] [])) _
      refine XS.iconst X44.here hx rfl (hb hby at_218) ?_
      show Steps p.tables e below (T44.setTop (mkF m 219 #[.val (.int p0), .val (.int p1), .val (.long p2), .second, .val (.int p3), .val (.long p4), .second, .val (.int p5), .val (.ref b1), .val (.ref b4), .val (.ref b9), .val (.ref b16), .val (.int (1 : Int32)), .val (.int (0 : Int32)), .val va, .val vb, .val vc, .val (.int (p3 ^^^ (-1 : Int32)).toInt8.toInt32), .val (.long (p4 ^^^ (-1 : Int64))), .second] [(.int (1 : Int32))])) _
      refine XS.goto X44.here hx rfl (pc0 := 219) (pc' := 223) rfl (hb hby at_219) (by decide) (by decide) ?_
      exact kt
    obtain ⟨fs, hr, hrun, hended, hW, hsame⟩ := X44.leave (v := some (.int (1 : Int32))) (fun h => by rw [Bd.returns] at h; cases h)
    refine ⟨_, _, pre45 _ ?_, hrun, hended, _, _, rfl, ?_, ⟨_, rfl⟩, hW, hsame.mono (by decide) (by decide)⟩
    · show Steps p.tables e below (T44.setTop (mkF m 223 #[.val (.int p0), .val (.int p1), .val (.long p2), .second, .val (.int p3), .val (.long p4), .second, .val (.int p5), .val (.ref b1), .val (.ref b4), .val (.ref b9), .val (.ref b16), .val (.int (1 : Int32)), .val (.int (0 : Int32)), .val va, .val vb, .val vc, .val (.int (p3 ^^^ (-1 : Int32)).toInt8.toInt32), .val (.long (p4 ^^^ (-1 : Int64))), .second] [(.int (1 : Int32))])) _
      exact retN X44 hx (t := .boolean) Bd.returns (by simp) (hb hby at_223) hr
    · show Q0 Z h0 n0 _ T44.heap _
      exact ⟨rfl, N44⟩
  · obtain ⟨cq46, kq46, q46a, q46b, q46c⟩ := isOf hZ rfl C25.1
    obtain ⟨_, _, ⟨T46, L46, k46, n46⟩, -, X46, ⟨Lc46, hQ46, l46, y46, z46⟩, st46⟩ := X25.virtualBack hx (y := (⟨"com/example/hornbrook/hornbrook/Cells", "set", "(IBJ[B)V"⟩ : MethodName)) (z := (⟨"com/example/hornbrook/hornbrook/Cells", "set", "(IBJ[B)V"⟩ : MethodName)) hown (mvT hZ (hw _ (List.mem_of_getElem? (i := 20) rfl))) (mvT hZ (hw _ (List.mem_of_getElem? (i := 21) rfl))) (notFace_of_selects (args := #[]) (mvT hZ (hw _ (List.mem_of_getElem? (i := 23) rfl)))) (mvT hZ (hw _ (List.mem_of_getElem? (i := 23) rfl))) (mvT hZ (hw _ (List.mem_of_getElem? (i := 22) rfl))) (by decide) (backOf (W := 0) (rm21 l Z a0 hw [] b16 ka wa ba ck cw cb (0 : Int32) (0 : Int32) (0 : Int64) (0 : Int64) .null .null p1.toInt8.toInt32 p2 va T25.heap n0 (Nat.le_trans Z24 KC25.1) C25 Bva) hZ (hw _ (List.mem_of_getElem? (i := 24) rfl)) (hw _ (List.mem_of_getElem? (i := 3) rfl)) (by decide) (by decide)) q46a q46c (g := (mkF m 113 #[.val (.int p0), .val (.int p1), .val (.long p2), .second, .val (.int p3), .val (.long p4), .second, .val (.int p5), .val (.ref b1), .val (.ref b4), .val (.ref b9), .val (.ref b16), .val (.int (1 : Int32)), .val (.int (0 : Int32)), .val va, .val vb, .val vc, .val (.int (p3 ^^^ (-1 : Int32)).toInt8.toInt32), .val (.long (p4 ^^^ (-1 : Int64))), .second] [va, (.long p2), (.int p1.toInt8.toInt32), (.int (1 : Int32)), (.ref b16)])) rfl (by rw [hml]; rfl) (Steps.refl _) (argsL := [(.int (1 : Int32)), (.int p1.toInt8.toInt32), (.long p2), va]) (rest := []) (lenOf pd01_1 rfl) rfl (by show 2 * 0 + _ ≤ _; exact Nat.le_of_eq rfl) (hb hby at_113) (fun _ _ => ⟨rfl, rfl, (by decide : 7 + 0 ≤ _), (by decide : 15 + 0 ≤ _)⟩)
    dsimp only [Pt.U, Pt.locs, Pt.cells, Pt.slots] at X46 l46 y46 z46 st46 hQ46
    subst l46 y46 z46
    obtain ⟨rfl, N46q, KC46, C46⟩ := hQ46
    have Bva_46 := Bva.keep KC46
    have Bvb_46 := Bvb.keep KC46
    have Bvc_46 := Bvc.keep KC46
    have N46 := Fr.app N25 N46q
    obtain ⟨cq47, kq47, q47a, q47b, q47c⟩ := isOf hZ rfl C46.1
    obtain ⟨_, _, ⟨T47, L47, k47, n47⟩, -, X47, ⟨Lc47, hQ47, l47, y47, z47⟩, st47⟩ := X46.virtualBack hx (y := (⟨"com/example/hornbrook/hornbrook/Cells", "set", "(IBJ[B)V"⟩ : MethodName)) (z := (⟨"com/example/hornbrook/hornbrook/Cells", "set", "(IBJ[B)V"⟩ : MethodName)) hown (mvT hZ (hw _ (List.mem_of_getElem? (i := 20) rfl))) (mvT hZ (hw _ (List.mem_of_getElem? (i := 21) rfl))) (notFace_of_selects (args := #[]) (mvT hZ (hw _ (List.mem_of_getElem? (i := 23) rfl)))) (mvT hZ (hw _ (List.mem_of_getElem? (i := 23) rfl))) (mvT hZ (hw _ (List.mem_of_getElem? (i := 22) rfl))) (by decide) (backOf (W := 0) (rm20 l Z a0 hw [] b16 ka wa ba ck cw cb (0 : Int32) (nar .byte p1.toInt8.toInt32) (0 : Int64) p2 .null va (p3 ^^^ (-1 : Int32)).toInt8.toInt32 (p4 ^^^ (-1 : Int64)) vc T46.heap n0 (Nat.le_trans (Nat.le_trans Z24 KC25.1) KC46.1) C46 Bvc_46) hZ (hw _ (List.mem_of_getElem? (i := 24) rfl)) (hw _ (List.mem_of_getElem? (i := 3) rfl)) (by decide) (by decide)) q47a q47c (g := (mkF m 126 #[.val (.int p0), .val (.int p1), .val (.long p2), .second, .val (.int p3), .val (.long p4), .second, .val (.int p5), .val (.ref b1), .val (.ref b4), .val (.ref b9), .val (.ref b16), .val (.int (1 : Int32)), .val (.int (0 : Int32)), .val va, .val vb, .val vc, .val (.int (p3 ^^^ (-1 : Int32)).toInt8.toInt32), .val (.long (p4 ^^^ (-1 : Int64))), .second] [vc, (.long (p4 ^^^ (-1 : Int64))), (.int (p3 ^^^ (-1 : Int32)).toInt8.toInt32), (.int (0 : Int32)), (.ref b16)])) rfl (by rw [hml]; rfl) (Steps.refl _) (argsL := [(.int (0 : Int32)), (.int (p3 ^^^ (-1 : Int32)).toInt8.toInt32), (.long (p4 ^^^ (-1 : Int64))), vc]) (rest := []) (lenOf pd01_1 rfl) rfl (by show 2 * 0 + _ ≤ _; exact Nat.le_of_eq rfl) (hb hby at_126) (fun _ _ => ⟨rfl, rfl, (by decide : 7 + 0 ≤ _), (by decide : 15 + 0 ≤ _)⟩)
    dsimp only [Pt.U, Pt.locs, Pt.cells, Pt.slots] at X47 l47 y47 z47 st47 hQ47
    subst l47 y47 z47
    obtain ⟨rfl, N47q, KC47, C47⟩ := hQ47
    have Bva_47 := Bva_46.keep KC47
    have Bvb_47 := Bvb_46.keep KC47
    have Bvc_47 := Bvc_46.keep KC47
    have N47 := Fr.app N46 N47q
    obtain ⟨cq48, kq48, q48a, q48b, q48c⟩ := isOf hZ rfl C47.1
    obtain ⟨_, _, ⟨T48, L48, k48, n48⟩, -, X48, ⟨Lc48, hQ48, l48, y48, z48⟩, st48⟩ := X47.virtualBack hx (y := (⟨"com/example/hornbrook/hornbrook/Cells", "set", "(IBJ[B)V"⟩ : MethodName)) (z := (⟨"com/example/hornbrook/hornbrook/Cells", "set", "(IBJ[B)V"⟩ : MethodName)) hown (mvT hZ (hw _ (List.mem_of_getElem? (i := 20) rfl))) (mvT hZ (hw _ (List.mem_of_getElem? (i := 21) rfl))) (notFace_of_selects (args := #[]) (mvT hZ (hw _ (List.mem_of_getElem? (i := 23) rfl)))) (mvT hZ (hw _ (List.mem_of_getElem? (i := 23) rfl))) (mvT hZ (hw _ (List.mem_of_getElem? (i := 22) rfl))) (by decide) (backOf (W := 0) (rm21 l Z a0 hw [] b16 ka wa ba ck cw cb (nar .byte (p3 ^^^ (-1 : Int32)).toInt8.toInt32) (nar .byte p1.toInt8.toInt32) (p4 ^^^ (-1 : Int64)) p2 vc va p3.toInt8.toInt32 p4 vb T47.heap n0 (Nat.le_trans (Nat.le_trans (Nat.le_trans Z24 KC25.1) KC46.1) KC47.1) C47 Bvb_47) hZ (hw _ (List.mem_of_getElem? (i := 24) rfl)) (hw _ (List.mem_of_getElem? (i := 3) rfl)) (by decide) (by decide)) q48a q48c (g := (mkF m 140 #[.val (.int p0), .val (.int p1), .val (.long p2), .second, .val (.int p3), .val (.long p4), .second, .val (.int p5), .val (.ref b1), .val (.ref b4), .val (.ref b9), .val (.ref b16), .val (.int (1 : Int32)), .val (.int (0 : Int32)), .val va, .val vb, .val vc, .val (.int (p3 ^^^ (-1 : Int32)).toInt8.toInt32), .val (.long (p4 ^^^ (-1 : Int64))), .second] [vb, (.long p4), (.int p3.toInt8.toInt32), (.int (1 : Int32)), (.ref b16)])) rfl (by rw [hml]; rfl) (Steps.refl _) (argsL := [(.int (1 : Int32)), (.int p3.toInt8.toInt32), (.long p4), vb]) (rest := []) (lenOf pd01_1 rfl) rfl (by show 2 * 0 + _ ≤ _; exact Nat.le_of_eq rfl) (hb hby at_140) (fun _ _ => ⟨rfl, rfl, (by decide : 7 + 0 ≤ _), (by decide : 15 + 0 ≤ _)⟩)
    dsimp only [Pt.U, Pt.locs, Pt.cells, Pt.slots] at X48 l48 y48 z48 st48 hQ48
    subst l48 y48 z48
    obtain ⟨rfl, N48q, KC48, C48⟩ := hQ48
    have Bva_48 := Bva_47.keep KC48
    have Bvb_48 := Bvb_47.keep KC48
    have Bvc_48 := Bvc_47.keep KC48
    have N48 := Fr.app N47 N48q
    obtain ⟨cq49, kq49, q49a, q49b, q49c⟩ := isOf hZ rfl C48.1
    obtain ⟨_, _, ⟨T49, L49, k49, n49⟩, -, X49, ⟨Lc49, hQ49, l49, y49, z49⟩, st49⟩ := X48.virtualBack hx (y := (⟨"com/example/hornbrook/hornbrook/Cells", "kind", "(I)B"⟩ : MethodName)) (z := (⟨"com/example/hornbrook/hornbrook/Cells", "kind", "(I)B"⟩ : MethodName)) hown (mvT hZ (hw _ (List.mem_of_getElem? (i := 26) rfl))) (mvT hZ (hw _ (List.mem_of_getElem? (i := 27) rfl))) (notFace_of_selects (args := #[]) (mvT hZ (hw _ (List.mem_of_getElem? (i := 29) rfl)))) (mvT hZ (hw _ (List.mem_of_getElem? (i := 29) rfl))) (mvT hZ (hw _ (List.mem_of_getElem? (i := 28) rfl))) (by decide) (backOf (W := 0) (rm31 l Z a0 hw [] b16 ka wa ba ck cw cb (nar .byte (p3 ^^^ (-1 : Int32)).toInt8.toInt32) (nar .byte p3.toInt8.toInt32) (p4 ^^^ (-1 : Int64)) p4 vc vb T48.heap n0 (Nat.le_trans (Nat.le_trans (Nat.le_trans (Nat.le_trans Z24 KC25.1) KC46.1) KC47.1) KC48.1) C48) hZ (hw _ (List.mem_of_getElem? (i := 30) rfl)) (hw _ (List.mem_of_getElem? (i := 3) rfl)) (by decide) (by decide)) q49a q49c (g := (mkF m 147 #[.val (.int p0), .val (.int p1), .val (.long p2), .second, .val (.int p3), .val (.long p4), .second, .val (.int p5), .val (.ref b1), .val (.ref b4), .val (.ref b9), .val (.ref b16), .val (.int (1 : Int32)), .val (.int (0 : Int32)), .val va, .val vb, .val vc, .val (.int (p3 ^^^ (-1 : Int32)).toInt8.toInt32), .val (.long (p4 ^^^ (-1 : Int64))), .second] [(.int (1 : Int32)), (.ref b16)])) rfl (by rw [hml]; rfl) (Steps.refl _) (argsL := [(.int (1 : Int32))]) (rest := []) (lenOf pd01_2 rfl) rfl (by show 2 * 0 + _ ≤ _; exact Nat.le_of_eq rfl) (hb hby at_147) (fun _ _ => ⟨rfl, rfl, (by decide : 7 + 0 ≤ _), (by decide : 15 + 0 ≤ _)⟩)
    dsimp only [Pt.U, Pt.locs, Pt.cells, Pt.slots] at X49 l49 y49 z49 st49 hQ49
    subst l49 y49 z49
    obtain ⟨rfl, N49q, e49⟩ := hQ49
    have N49 := Fr.app N48 N49q
    obtain ⟨cq50, kq50, q50a, q50b, q50c⟩ := isOf hZ e49 C48.1
    obtain ⟨_, _, ⟨T50, L50, k50, n50⟩, -, X50, ⟨Lc50, hQ50, l50, y50, z50⟩, st50⟩ := X49.virtualBack hx (y := (⟨"com/example/hornbrook/hornbrook/Cells", "word", "(I)J"⟩ : MethodName)) (z := (⟨"com/example/hornbrook/hornbrook/Cells", "word", "(I)J"⟩ : MethodName)) hown (mvT hZ (hw _ (List.mem_of_getElem? (i := 31) rfl))) (mvT hZ (hw _ (List.mem_of_getElem? (i := 32) rfl))) (notFace_of_selects (args := #[]) (mvT hZ (hw _ (List.mem_of_getElem? (i := 34) rfl)))) (mvT hZ (hw _ (List.mem_of_getElem? (i := 34) rfl))) (mvT hZ (hw _ (List.mem_of_getElem? (i := 33) rfl))) (by decide) (backOf (W := 0) (rm41 l Z a0 hw [] b16 ka wa ba ck cw cb (nar .byte (p3 ^^^ (-1 : Int32)).toInt8.toInt32) (nar .byte p3.toInt8.toInt32) (p4 ^^^ (-1 : Int64)) p4 vc vb T48.heap n0 (Nat.le_trans (Nat.le_trans (Nat.le_trans (Nat.le_trans Z24 KC25.1) KC46.1) KC47.1) KC48.1) C48) hZ (hw _ (List.mem_of_getElem? (i := 35) rfl)) (hw _ (List.mem_of_getElem? (i := 3) rfl)) (by decide) (by decide)) q50a q50c (g := (mkF m 160 #[.val (.int p0), .val (.int p1), .val (.long p2), .second, .val (.int p3), .val (.long p4), .second, .val (.int p5), .val (.ref b1), .val (.ref b4), .val (.ref b9), .val (.ref b16), .val (.int (1 : Int32)), .val (.int (0 : Int32)), .val va, .val vb, .val vc, .val (.int (p3 ^^^ (-1 : Int32)).toInt8.toInt32), .val (.long (p4 ^^^ (-1 : Int64))), .second] [(.int (1 : Int32)), (.ref b16)])) rfl (by rw [hml]; rfl) (Steps.refl _) (argsL := [(.int (1 : Int32))]) (rest := []) (lenOf pd01_3 rfl) rfl (by show 2 * 0 + _ ≤ _; exact Nat.le_of_eq rfl) (hb hby at_160) (fun _ _ => ⟨rfl, e49, (by decide : 7 + 0 ≤ _), (by decide : 15 + 0 ≤ _)⟩)
    dsimp only [Pt.U, Pt.locs, Pt.cells, Pt.slots] at X50 l50 y50 z50 st50 hQ50
    subst l50 y50 z50
    obtain ⟨rfl, N50q, e50⟩ := hQ50
    have N50 := Fr.app N49 N50q
    obtain ⟨cq51, kq51, q51a, q51b, q51c⟩ := isOf hZ e50 C48.1
    obtain ⟨_, _, ⟨T51, L51, k51, n51⟩, -, X51, ⟨Lc51, hQ51, l51, y51, z51⟩, st51⟩ := X50.virtualBack hx (y := (⟨"com/example/hornbrook/hornbrook/Cells", "bytes", "(I)[B"⟩ : MethodName)) (z := (⟨"com/example/hornbrook/hornbrook/Cells", "bytes", "(I)[B"⟩ : MethodName)) hown (mvT hZ (hw _ (List.mem_of_getElem? (i := 36) rfl))) (mvT hZ (hw _ (List.mem_of_getElem? (i := 37) rfl))) (notFace_of_selects (args := #[]) (mvT hZ (hw _ (List.mem_of_getElem? (i := 39) rfl)))) (mvT hZ (hw _ (List.mem_of_getElem? (i := 39) rfl))) (mvT hZ (hw _ (List.mem_of_getElem? (i := 38) rfl))) (by decide) (backOf (W := 0) (rm51 l Z a0 hw [] b16 ka wa ba ck cw cb (nar .byte (p3 ^^^ (-1 : Int32)).toInt8.toInt32) (nar .byte p3.toInt8.toInt32) (p4 ^^^ (-1 : Int64)) p4 vc vb T48.heap n0 (Nat.le_trans (Nat.le_trans (Nat.le_trans (Nat.le_trans Z24 KC25.1) KC46.1) KC47.1) KC48.1) C48) hZ (hw _ (List.mem_of_getElem? (i := 40) rfl)) (hw _ (List.mem_of_getElem? (i := 3) rfl)) (by decide) (by decide)) q51a q51c (g := (mkF m 173 #[.val (.int p0), .val (.int p1), .val (.long p2), .second, .val (.int p3), .val (.long p4), .second, .val (.int p5), .val (.ref b1), .val (.ref b4), .val (.ref b9), .val (.ref b16), .val (.int (1 : Int32)), .val (.int (0 : Int32)), .val va, .val vb, .val vc, .val (.int (p3 ^^^ (-1 : Int32)).toInt8.toInt32), .val (.long (p4 ^^^ (-1 : Int64))), .second] [(.int (1 : Int32)), (.ref b16)])) rfl (by rw [hml]; rfl) (Steps.refl _) (argsL := [(.int (1 : Int32))]) (rest := []) (lenOf pd01_4 rfl) rfl (by show 2 * 0 + _ ≤ _; exact Nat.le_of_eq rfl) (hb hby at_173) (fun _ _ => ⟨rfl, e50, (by decide : 7 + 0 ≤ _), (by decide : 15 + 0 ≤ _)⟩)
    dsimp only [Pt.U, Pt.locs, Pt.cells, Pt.slots] at X51 l51 y51 z51 st51 hQ51
    subst l51 y51 z51
    obtain ⟨rfl, N51q, e51⟩ := hQ51
    have N51 := Fr.app N50 N51q
    obtain ⟨cq52, kq52, q52a, q52b, q52c⟩ := isOf hZ e51 C48.1
    obtain ⟨_, _, ⟨T52, L52, k52, n52⟩, -, X52, ⟨Lc52, hQ52, l52, y52, z52⟩, st52⟩ := X51.virtualBack hx (y := (⟨"com/example/hornbrook/hornbrook/Cells", "kind", "(I)B"⟩ : MethodName)) (z := (⟨"com/example/hornbrook/hornbrook/Cells", "kind", "(I)B"⟩ : MethodName)) hown (mvT hZ (hw _ (List.mem_of_getElem? (i := 26) rfl))) (mvT hZ (hw _ (List.mem_of_getElem? (i := 27) rfl))) (notFace_of_selects (args := #[]) (mvT hZ (hw _ (List.mem_of_getElem? (i := 29) rfl)))) (mvT hZ (hw _ (List.mem_of_getElem? (i := 29) rfl))) (mvT hZ (hw _ (List.mem_of_getElem? (i := 28) rfl))) (by decide) (backOf (W := 0) (rm30 l Z a0 hw [] b16 ka wa ba ck cw cb (nar .byte (p3 ^^^ (-1 : Int32)).toInt8.toInt32) (nar .byte p3.toInt8.toInt32) (p4 ^^^ (-1 : Int64)) p4 vc vb T48.heap n0 (Nat.le_trans (Nat.le_trans (Nat.le_trans (Nat.le_trans Z24 KC25.1) KC46.1) KC47.1) KC48.1) C48) hZ (hw _ (List.mem_of_getElem? (i := 30) rfl)) (hw _ (List.mem_of_getElem? (i := 3) rfl)) (by decide) (by decide)) q52a q52c (g := (mkF m 185 #[.val (.int p0), .val (.int p1), .val (.long p2), .second, .val (.int p3), .val (.long p4), .second, .val (.int p5), .val (.ref b1), .val (.ref b4), .val (.ref b9), .val (.ref b16), .val (.int (1 : Int32)), .val (.int (0 : Int32)), .val va, .val vb, .val vc, .val (.int (p3 ^^^ (-1 : Int32)).toInt8.toInt32), .val (.long (p4 ^^^ (-1 : Int64))), .second] [(.int (0 : Int32)), (.ref b16)])) rfl (by rw [hml]; rfl) (Steps.refl _) (argsL := [(.int (0 : Int32))]) (rest := []) (lenOf pd01_2 rfl) rfl (by show 2 * 0 + _ ≤ _; exact Nat.le_of_eq rfl) (hb hby at_185) (fun _ _ => ⟨rfl, e51, (by decide : 7 + 0 ≤ _), (by decide : 15 + 0 ≤ _)⟩)
    dsimp only [Pt.U, Pt.locs, Pt.cells, Pt.slots] at X52 l52 y52 z52 st52 hQ52
    subst l52 y52 z52
    obtain ⟨rfl, N52q, e52⟩ := hQ52
    have N52 := Fr.app N51 N52q
    obtain ⟨cq53, kq53, q53a, q53b, q53c⟩ := isOf hZ e52 C48.1
    obtain ⟨_, _, ⟨T53, L53, k53, n53⟩, -, X53, ⟨Lc53, hQ53, l53, y53, z53⟩, st53⟩ := X52.virtualBack hx (y := (⟨"com/example/hornbrook/hornbrook/Cells", "word", "(I)J"⟩ : MethodName)) (z := (⟨"com/example/hornbrook/hornbrook/Cells", "word", "(I)J"⟩ : MethodName)) hown (mvT hZ (hw _ (List.mem_of_getElem? (i := 31) rfl))) (mvT hZ (hw _ (List.mem_of_getElem? (i := 32) rfl))) (notFace_of_selects (args := #[]) (mvT hZ (hw _ (List.mem_of_getElem? (i := 34) rfl)))) (mvT hZ (hw _ (List.mem_of_getElem? (i := 34) rfl))) (mvT hZ (hw _ (List.mem_of_getElem? (i := 33) rfl))) (by decide) (backOf (W := 0) (rm40 l Z a0 hw [] b16 ka wa ba ck cw cb (nar .byte (p3 ^^^ (-1 : Int32)).toInt8.toInt32) (nar .byte p3.toInt8.toInt32) (p4 ^^^ (-1 : Int64)) p4 vc vb T48.heap n0 (Nat.le_trans (Nat.le_trans (Nat.le_trans (Nat.le_trans Z24 KC25.1) KC46.1) KC47.1) KC48.1) C48) hZ (hw _ (List.mem_of_getElem? (i := 35) rfl)) (hw _ (List.mem_of_getElem? (i := 3) rfl)) (by decide) (by decide)) q53a q53c (g := (mkF m 197 #[.val (.int p0), .val (.int p1), .val (.long p2), .second, .val (.int p3), .val (.long p4), .second, .val (.int p5), .val (.ref b1), .val (.ref b4), .val (.ref b9), .val (.ref b16), .val (.int (1 : Int32)), .val (.int (0 : Int32)), .val va, .val vb, .val vc, .val (.int (p3 ^^^ (-1 : Int32)).toInt8.toInt32), .val (.long (p4 ^^^ (-1 : Int64))), .second] [(.int (0 : Int32)), (.ref b16)])) rfl (by rw [hml]; rfl) (Steps.refl _) (argsL := [(.int (0 : Int32))]) (rest := []) (lenOf pd01_3 rfl) rfl (by show 2 * 0 + _ ≤ _; exact Nat.le_of_eq rfl) (hb hby at_197) (fun _ _ => ⟨rfl, e52, (by decide : 7 + 0 ≤ _), (by decide : 15 + 0 ≤ _)⟩)
    dsimp only [Pt.U, Pt.locs, Pt.cells, Pt.slots] at X53 l53 y53 z53 st53 hQ53
    subst l53 y53 z53
    obtain ⟨rfl, N53q, e53⟩ := hQ53
    have N53 := Fr.app N52 N53q
    obtain ⟨cq54, kq54, q54a, q54b, q54c⟩ := isOf hZ e53 C48.1
    obtain ⟨_, _, ⟨T54, L54, k54, n54⟩, -, X54, ⟨Lc54, hQ54, l54, y54, z54⟩, st54⟩ := X53.virtualBack hx (y := (⟨"com/example/hornbrook/hornbrook/Cells", "bytes", "(I)[B"⟩ : MethodName)) (z := (⟨"com/example/hornbrook/hornbrook/Cells", "bytes", "(I)[B"⟩ : MethodName)) hown (mvT hZ (hw _ (List.mem_of_getElem? (i := 36) rfl))) (mvT hZ (hw _ (List.mem_of_getElem? (i := 37) rfl))) (notFace_of_selects (args := #[]) (mvT hZ (hw _ (List.mem_of_getElem? (i := 39) rfl)))) (mvT hZ (hw _ (List.mem_of_getElem? (i := 39) rfl))) (mvT hZ (hw _ (List.mem_of_getElem? (i := 38) rfl))) (by decide) (backOf (W := 0) (rm50 l Z a0 hw [] b16 ka wa ba ck cw cb (nar .byte (p3 ^^^ (-1 : Int32)).toInt8.toInt32) (nar .byte p3.toInt8.toInt32) (p4 ^^^ (-1 : Int64)) p4 vc vb T48.heap n0 (Nat.le_trans (Nat.le_trans (Nat.le_trans (Nat.le_trans Z24 KC25.1) KC46.1) KC47.1) KC48.1) C48) hZ (hw _ (List.mem_of_getElem? (i := 40) rfl)) (hw _ (List.mem_of_getElem? (i := 3) rfl)) (by decide) (by decide)) q54a q54c (g := (mkF m 210 #[.val (.int p0), .val (.int p1), .val (.long p2), .second, .val (.int p3), .val (.long p4), .second, .val (.int p5), .val (.ref b1), .val (.ref b4), .val (.ref b9), .val (.ref b16), .val (.int (1 : Int32)), .val (.int (0 : Int32)), .val va, .val vb, .val vc, .val (.int (p3 ^^^ (-1 : Int32)).toInt8.toInt32), .val (.long (p4 ^^^ (-1 : Int64))), .second] [(.int (0 : Int32)), (.ref b16)])) rfl (by rw [hml]; rfl) (Steps.refl _) (argsL := [(.int (0 : Int32))]) (rest := []) (lenOf pd01_4 rfl) rfl (by show 2 * 0 + _ ≤ _; exact Nat.le_of_eq rfl) (hb hby at_210) (fun _ _ => ⟨rfl, e53, (by decide : 7 + 0 ≤ _), (by decide : 15 + 0 ≤ _)⟩)
    dsimp only [Pt.U, Pt.locs, Pt.cells, Pt.slots] at X54 l54 y54 z54 st54 hQ54
    subst l54 y54 z54
    obtain ⟨rfl, N54q, e54⟩ := hQ54
    have N54 := Fr.app N53 N54q
    have pre55 : ∀ tg_, Steps p.tables e below (T54.setTop (mkF m 223 #[.val (.int p0), .val (.int p1), .val (.long p2), .second, .val (.int p3), .val (.long p4), .second, .val (.int p5), .val (.ref b1), .val (.ref b4), .val (.ref b9), .val (.ref b16), .val (.int (1 : Int32)), .val (.int (0 : Int32)), .val va, .val vb, .val vc, .val (.int (p3 ^^^ (-1 : Int32)).toInt8.toInt32), .val (.long (p4 ^^^ (-1 : Int64))), .second] [(.int (1 : Int32))])) tg_ → Steps p.tables e below (s₁.setTop (entryFrame m #[(.int p0), (.int p1), (.long p2), (.int p3), (.long p4), (.int p5)] maxLocals)) tg_ := by
      intro tg_ kt
      refine pre35 _ ?_
      show Steps p.tables e below (T25.setTop (mkF m 101 #[.val (.int p0), .val (.int p1), .val (.long p2), .second, .val (.int p3), .val (.long p4), .second, .val (.int p5), .val (.ref b1), .val (.ref b4), .val (.ref b9), .val (.ref b16), .val (.int (1 : Int32)), .val (.int (0 : Int32)), .val va, .val vb, .val vc, .val (.int (p3 ^^^ (-1 : Int32)).toInt8.toInt32), .val (.long (p4 ^^^ (-1 : Int64))), .second] [(.int (p5 &&& (8 : Int32)))])) _
      refine XS.ifNo X25.here hx rfl (hb hby at_101) rfl (XT.i0_eq_f hc101_36) ?_
      show Steps p.tables e below (T25.setTop (mkF m 104 #[.val (.int p0), .val (.int p1), .val (.long p2), .second, .val (.int p3), .val (.long p4), .second, .val (.int p5), .val (.ref b1), .val (.ref b4), .val (.ref b9), .val (.ref b16), .val (.int (1 : Int32)), .val (.int (0 : Int32)), .val va, .val vb, .val vc, .val (.int (p3 ^^^ (-1 : Int32)).toInt8.toInt32), .val (.long (p4 ^^^ (-1 : Int64))), .second] [])) _
      refine XS.aload X25.here hx rfl (hb hby at_104) rfl rfl ?_
      show Steps p.tables e below (T25.setTop (mkF m 106 #[.val (.int p0), .val (.int p1), .val (.long p2), .second, .val (.int p3), .val (.long p4), .second, .val (.int p5), .val (.ref b1), .val (.ref b4), .val (.ref b9), .val (.ref b16), .val (.int (1 : Int32)), .val (.int (0 : Int32)), .val va, .val vb, .val vc, .val (.int (p3 ^^^ (-1 : Int32)).toInt8.toInt32), .val (.long (p4 ^^^ (-1 : Int64))), .second] [(.ref b16)])) _
      refine XS.iload X25.here hx rfl (hb hby at_106) rfl ?_
      show Steps p.tables e below (T25.setTop (mkF m 108 #[.val (.int p0), .val (.int p1), .val (.long p2), .second, .val (.int p3), .val (.long p4), .second, .val (.int p5), .val (.ref b1), .val (.ref b4), .val (.ref b9), .val (.ref b16), .val (.int (1 : Int32)), .val (.int (0 : Int32)), .val va, .val vb, .val vc, .val (.int (p3 ^^^ (-1 : Int32)).toInt8.toInt32), .val (.long (p4 ^^^ (-1 : Int64))), .second] [(.int (1 : Int32)), (.ref b16)])) _
      refine XS.iloadN X25.here hx rfl (hb hby at_108) rfl ?_
      show Steps p.tables e below (T25.setTop (mkF m 109 #[.val (.int p0), .val (.int p1), .val (.long p2), .second, .val (.int p3), .val (.long p4), .second, .val (.int p5), .val (.ref b1), .val (.ref b4), .val (.ref b9), .val (.ref b16), .val (.int (1 : Int32)), .val (.int (0 : Int32)), .val va, .val vb, .val vc, .val (.int (p3 ^^^ (-1 : Int32)).toInt8.toInt32), .val (.long (p4 ^^^ (-1 : Int64))), .second] [(.int p1), (.int (1 : Int32)), (.ref b16)])) _
      refine XS.i2b X25.here hx rfl (hb hby at_109) rfl ?_
      show Steps p.tables e below (T25.setTop (mkF m 110 #[.val (.int p0), .val (.int p1), .val (.long p2), .second, .val (.int p3), .val (.long p4), .second, .val (.int p5), .val (.ref b1), .val (.ref b4), .val (.ref b9), .val (.ref b16), .val (.int (1 : Int32)), .val (.int (0 : Int32)), .val va, .val vb, .val vc, .val (.int (p3 ^^^ (-1 : Int32)).toInt8.toInt32), .val (.long (p4 ^^^ (-1 : Int64))), .second] [(.int p1.toInt8.toInt32), (.int (1 : Int32)), (.ref b16)])) _
      refine XS.lloadN X25.here hx rfl (hb hby at_110) rfl ?_
      show Steps p.tables e below (T25.setTop (mkF m 111 #[.val (.int p0), .val (.int p1), .val (.long p2), .second, .val (.int p3), .val (.long p4), .second, .val (.int p5), .val (.ref b1), .val (.ref b4), .val (.ref b9), .val (.ref b16), .val (.int (1 : Int32)), .val (.int (0 : Int32)), .val va, .val vb, .val vc, .val (.int (p3 ^^^ (-1 : Int32)).toInt8.toInt32), .val (.long (p4 ^^^ (-1 : Int64))), .second] [(.long p2), (.int p1.toInt8.toInt32), (.int (1 : Int32)), (.ref b16)])) _
      refine XS.aload X25.here hx rfl (hb hby at_111) rfl Bva.isRef ?_
      show Steps p.tables e below (T25.setTop (mkF m 113 #[.val (.int p0), .val (.int p1), .val (.long p2), .second, .val (.int p3), .val (.long p4), .second, .val (.int p5), .val (.ref b1), .val (.ref b4), .val (.ref b9), .val (.ref b16), .val (.int (1 : Int32)), .val (.int (0 : Int32)), .val va, .val vb, .val vc, .val (.int (p3 ^^^ (-1 : Int32)).toInt8.toInt32), .val (.long (p4 ^^^ (-1 : Int64))), .second] [va, (.long p2), (.int p1.toInt8.toInt32), (.int (1 : Int32)), (.ref b16)])) _
      refine st46.trans ?_
      show Steps p.tables e below (T46.setTop (mkF m 116 #[.val (.int p0), .val (.int p1), .val (.long p2), .second, .val (.int p3), .val (.long p4), .second, .val (.int p5), .val (.ref b1), .val (.ref b4), .val (.ref b9), .val (.ref b16), .val (.int (1 : Int32)), .val (.int (0 : Int32)), .val va, .val vb, .val vc, .val (.int (p3 ^^^ (-1 : Int32)).toInt8.toInt32), .val (.long (p4 ^^^ (-1 : Int64))), .second] [])) _
      refine XS.aload X46.here hx rfl (hb hby at_116) rfl rfl ?_
      show Steps p.tables e below (T46.setTop (mkF m 118 #[.val (.int p0), .val (.int p1), .val (.long p2), .second, .val (.int p3), .val (.long p4), .second, .val (.int p5), .val (.ref b1), .val (.ref b4), .val (.ref b9), .val (.ref b16), .val (.int (1 : Int32)), .val (.int (0 : Int32)), .val va, .val vb, .val vc, .val (.int (p3 ^^^ (-1 : Int32)).toInt8.toInt32), .val (.long (p4 ^^^ (-1 : Int64))), .second] [(.ref b16)])) _
      refine XS.iload X46.here hx rfl (hb hby at_118) rfl ?_
      show Steps p.tables e below (T46.setTop (mkF m 120 #[.val (.int p0), .val (.int p1), .val (.long p2), .second, .val (.int p3), .val (.long p4), .second, .val (.int p5), .val (.ref b1), .val (.ref b4), .val (.ref b9), .val (.ref b16), .val (.int (1 : Int32)), .val (.int (0 : Int32)), .val va, .val vb, .val vc, .val (.int (p3 ^^^ (-1 : Int32)).toInt8.toInt32), .val (.long (p4 ^^^ (-1 : Int64))), .second] [(.int (0 : Int32)), (.ref b16)])) _
      refine XS.iload X46.here hx rfl (hb hby at_120) rfl ?_
      show Steps p.tables e below (T46.setTop (mkF m 122 #[.val (.int p0), .val (.int p1), .val (.long p2), .second, .val (.int p3), .val (.long p4), .second, .val (.int p5), .val (.ref b1), .val (.ref b4), .val (.ref b9), .val (.ref b16), .val (.int (1 : Int32)), .val (.int (0 : Int32)), .val va, .val vb, .val vc, .val (.int (p3 ^^^ (-1 : Int32)).toInt8.toInt32), .val (.long (p4 ^^^ (-1 : Int64))), .second] [(.int (p3 ^^^ (-1 : Int32)).toInt8.toInt32), (.int (0 : Int32)), (.ref b16)])) _
      refine XS.lload X46.here hx rfl (hb hby at_122) rfl ?_
      show Steps p.tables e below (T46.setTop (mkF m 124 #[.val (.int p0), .val (.int p1), .val (.long p2), .second, .val (.int p3), .val (.long p4), .second, .val (.int p5), .val (.ref b1), .val (.ref b4), .val (.ref b9), .val (.ref b16), .val (.int (1 : Int32)), .val (.int (0 : Int32)), .val va, .val vb, .val vc, .val (.int (p3 ^^^ (-1 : Int32)).toInt8.toInt32), .val (.long (p4 ^^^ (-1 : Int64))), .second] [(.long (p4 ^^^ (-1 : Int64))), (.int (p3 ^^^ (-1 : Int32)).toInt8.toInt32), (.int (0 : Int32)), (.ref b16)])) _
      refine XS.aload X46.here hx rfl (hb hby at_124) rfl Bvc.isRef ?_
      show Steps p.tables e below (T46.setTop (mkF m 126 #[.val (.int p0), .val (.int p1), .val (.long p2), .second, .val (.int p3), .val (.long p4), .second, .val (.int p5), .val (.ref b1), .val (.ref b4), .val (.ref b9), .val (.ref b16), .val (.int (1 : Int32)), .val (.int (0 : Int32)), .val va, .val vb, .val vc, .val (.int (p3 ^^^ (-1 : Int32)).toInt8.toInt32), .val (.long (p4 ^^^ (-1 : Int64))), .second] [vc, (.long (p4 ^^^ (-1 : Int64))), (.int (p3 ^^^ (-1 : Int32)).toInt8.toInt32), (.int (0 : Int32)), (.ref b16)])) _
      refine st47.trans ?_
      show Steps p.tables e below (T47.setTop (mkF m 129 #[.val (.int p0), .val (.int p1), .val (.long p2), .second, .val (.int p3), .val (.long p4), .second, .val (.int p5), .val (.ref b1), .val (.ref b4), .val (.ref b9), .val (.ref b16), .val (.int (1 : Int32)), .val (.int (0 : Int32)), .val va, .val vb, .val vc, .val (.int (p3 ^^^ (-1 : Int32)).toInt8.toInt32), .val (.long (p4 ^^^ (-1 : Int64))), .second] [])) _
      refine XS.aload X47.here hx rfl (hb hby at_129) rfl rfl ?_
      show Steps p.tables e below (T47.setTop (mkF m 131 #[.val (.int p0), .val (.int p1), .val (.long p2), .second, .val (.int p3), .val (.long p4), .second, .val (.int p5), .val (.ref b1), .val (.ref b4), .val (.ref b9), .val (.ref b16), .val (.int (1 : Int32)), .val (.int (0 : Int32)), .val va, .val vb, .val vc, .val (.int (p3 ^^^ (-1 : Int32)).toInt8.toInt32), .val (.long (p4 ^^^ (-1 : Int64))), .second] [(.ref b16)])) _
      refine XS.iload X47.here hx rfl (hb hby at_131) rfl ?_
      show Steps p.tables e below (T47.setTop (mkF m 133 #[.val (.int p0), .val (.int p1), .val (.long p2), .second, .val (.int p3), .val (.long p4), .second, .val (.int p5), .val (.ref b1), .val (.ref b4), .val (.ref b9), .val (.ref b16), .val (.int (1 : Int32)), .val (.int (0 : Int32)), .val va, .val vb, .val vc, .val (.int (p3 ^^^ (-1 : Int32)).toInt8.toInt32), .val (.long (p4 ^^^ (-1 : Int64))), .second] [(.int (1 : Int32)), (.ref b16)])) _
      refine XS.iload X47.here hx rfl (hb hby at_133) rfl ?_
      show Steps p.tables e below (T47.setTop (mkF m 135 #[.val (.int p0), .val (.int p1), .val (.long p2), .second, .val (.int p3), .val (.long p4), .second, .val (.int p5), .val (.ref b1), .val (.ref b4), .val (.ref b9), .val (.ref b16), .val (.int (1 : Int32)), .val (.int (0 : Int32)), .val va, .val vb, .val vc, .val (.int (p3 ^^^ (-1 : Int32)).toInt8.toInt32), .val (.long (p4 ^^^ (-1 : Int64))), .second] [(.int p3), (.int (1 : Int32)), (.ref b16)])) _
      refine XS.i2b X47.here hx rfl (hb hby at_135) rfl ?_
      show Steps p.tables e below (T47.setTop (mkF m 136 #[.val (.int p0), .val (.int p1), .val (.long p2), .second, .val (.int p3), .val (.long p4), .second, .val (.int p5), .val (.ref b1), .val (.ref b4), .val (.ref b9), .val (.ref b16), .val (.int (1 : Int32)), .val (.int (0 : Int32)), .val va, .val vb, .val vc, .val (.int (p3 ^^^ (-1 : Int32)).toInt8.toInt32), .val (.long (p4 ^^^ (-1 : Int64))), .second] [(.int p3.toInt8.toInt32), (.int (1 : Int32)), (.ref b16)])) _
      refine XS.lload X47.here hx rfl (hb hby at_136) rfl ?_
      show Steps p.tables e below (T47.setTop (mkF m 138 #[.val (.int p0), .val (.int p1), .val (.long p2), .second, .val (.int p3), .val (.long p4), .second, .val (.int p5), .val (.ref b1), .val (.ref b4), .val (.ref b9), .val (.ref b16), .val (.int (1 : Int32)), .val (.int (0 : Int32)), .val va, .val vb, .val vc, .val (.int (p3 ^^^ (-1 : Int32)).toInt8.toInt32), .val (.long (p4 ^^^ (-1 : Int64))), .second] [(.long p4), (.int p3.toInt8.toInt32), (.int (1 : Int32)), (.ref b16)])) _
      refine XS.aload X47.here hx rfl (hb hby at_138) rfl Bvb.isRef ?_
      show Steps p.tables e below (T47.setTop (mkF m 140 #[.val (.int p0), .val (.int p1), .val (.long p2), .second, .val (.int p3), .val (.long p4), .second, .val (.int p5), .val (.ref b1), .val (.ref b4), .val (.ref b9), .val (.ref b16), .val (.int (1 : Int32)), .val (.int (0 : Int32)), .val va, .val vb, .val vc, .val (.int (p3 ^^^ (-1 : Int32)).toInt8.toInt32), .val (.long (p4 ^^^ (-1 : Int64))), .second] [vb, (.long p4), (.int p3.toInt8.toInt32), (.int (1 : Int32)), (.ref b16)])) _
      refine st48.trans ?_
      show Steps p.tables e below (T48.setTop (mkF m 143 #[.val (.int p0), .val (.int p1), .val (.long p2), .second, .val (.int p3), .val (.long p4), .second, .val (.int p5), .val (.ref b1), .val (.ref b4), .val (.ref b9), .val (.ref b16), .val (.int (1 : Int32)), .val (.int (0 : Int32)), .val va, .val vb, .val vc, .val (.int (p3 ^^^ (-1 : Int32)).toInt8.toInt32), .val (.long (p4 ^^^ (-1 : Int64))), .second] [])) _
      refine XS.aload X48.here hx rfl (hb hby at_143) rfl rfl ?_
      show Steps p.tables e below (T48.setTop (mkF m 145 #[.val (.int p0), .val (.int p1), .val (.long p2), .second, .val (.int p3), .val (.long p4), .second, .val (.int p5), .val (.ref b1), .val (.ref b4), .val (.ref b9), .val (.ref b16), .val (.int (1 : Int32)), .val (.int (0 : Int32)), .val va, .val vb, .val vc, .val (.int (p3 ^^^ (-1 : Int32)).toInt8.toInt32), .val (.long (p4 ^^^ (-1 : Int64))), .second] [(.ref b16)])) _
      refine XS.iload X48.here hx rfl (hb hby at_145) rfl ?_
      show Steps p.tables e below (T48.setTop (mkF m 147 #[.val (.int p0), .val (.int p1), .val (.long p2), .second, .val (.int p3), .val (.long p4), .second, .val (.int p5), .val (.ref b1), .val (.ref b4), .val (.ref b9), .val (.ref b16), .val (.int (1 : Int32)), .val (.int (0 : Int32)), .val va, .val vb, .val vc, .val (.int (p3 ^^^ (-1 : Int32)).toInt8.toInt32), .val (.long (p4 ^^^ (-1 : Int64))), .second] [(.int (1 : Int32)), (.ref b16)])) _
      refine st49.trans ?_
      show Steps p.tables e below (T49.setTop (mkF m 150 #[.val (.int p0), .val (.int p1), .val (.long p2), .second, .val (.int p3), .val (.long p4), .second, .val (.int p5), .val (.ref b1), .val (.ref b4), .val (.ref b9), .val (.ref b16), .val (.int (1 : Int32)), .val (.int (0 : Int32)), .val va, .val vb, .val vc, .val (.int (p3 ^^^ (-1 : Int32)).toInt8.toInt32), .val (.long (p4 ^^^ (-1 : Int64))), .second] [(.int (nar .byte (nar .byte p3.toInt8.toInt32)))])) _
      refine XS.iload X49.here hx rfl (hb hby at_150) rfl ?_
      show Steps p.tables e below (T49.setTop (mkF m 152 #[.val (.int p0), .val (.int p1), .val (.long p2), .second, .val (.int p3), .val (.long p4), .second, .val (.int p5), .val (.ref b1), .val (.ref b4), .val (.ref b9), .val (.ref b16), .val (.int (1 : Int32)), .val (.int (0 : Int32)), .val va, .val vb, .val vc, .val (.int (p3 ^^^ (-1 : Int32)).toInt8.toInt32), .val (.long (p4 ^^^ (-1 : Int64))), .second] [(.int p3), (.int (nar .byte (nar .byte p3.toInt8.toInt32)))])) _
      refine XS.i2b X49.here hx rfl (hb hby at_152) rfl ?_
      show Steps p.tables e below (T49.setTop (mkF m 153 #[.val (.int p0), .val (.int p1), .val (.long p2), .second, .val (.int p3), .val (.long p4), .second, .val (.int p5), .val (.ref b1), .val (.ref b4), .val (.ref b9), .val (.ref b16), .val (.int (1 : Int32)), .val (.int (0 : Int32)), .val va, .val vb, .val vc, .val (.int (p3 ^^^ (-1 : Int32)).toInt8.toInt32), .val (.long (p4 ^^^ (-1 : Int64))), .second] [(.int p3.toInt8.toInt32), (.int (nar .byte (nar .byte p3.toInt8.toInt32)))])) _
      refine XS.icmpNo X49.here hx rfl (hb hby at_153) rfl (XT.ii_ne_f (by simp only [own_nb])) ?_
      show Steps p.tables e below (T49.setTop (mkF m 156 #[.val (.int p0), .val (.int p1), .val (.long p2), .second, .val (.int p3), .val (.long p4), .second, .val (.int p5), .val (.ref b1), .val (.ref b4), .val (.ref b9), .val (.ref b16), .val (.int (1 : Int32)), .val (.int (0 : Int32)), .val va, .val vb, .val vc, .val (.int (p3 ^^^ (-1 : Int32)).toInt8.toInt32), .val (.long (p4 ^^^ (-1 : Int64))), .second] [])) _
      refine XS.aload X49.here hx rfl (hb hby at_156) rfl rfl ?_
      show Steps p.tables e below (T49.setTop (mkF m 158 #[.val (.int p0), .val (.int p1), .val (.long p2), .second, .val (.int p3), .val (.long p4), .second, .val (.int p5), .val (.ref b1), .val (.ref b4), .val (.ref b9), .val (.ref b16), .val (.int (1 : Int32)), .val (.int (0 : Int32)), .val va, .val vb, .val vc, .val (.int (p3 ^^^ (-1 : Int32)).toInt8.toInt32), .val (.long (p4 ^^^ (-1 : Int64))), .second] [(.ref b16)])) _
      refine XS.iload X49.here hx rfl (hb hby at_158) rfl ?_
      show Steps p.tables e below (T49.setTop (mkF m 160 #[.val (.int p0), .val (.int p1), .val (.long p2), .second, .val (.int p3), .val (.long p4), .second, .val (.int p5), .val (.ref b1), .val (.ref b4), .val (.ref b9), .val (.ref b16), .val (.int (1 : Int32)), .val (.int (0 : Int32)), .val va, .val vb, .val vc, .val (.int (p3 ^^^ (-1 : Int32)).toInt8.toInt32), .val (.long (p4 ^^^ (-1 : Int64))), .second] [(.int (1 : Int32)), (.ref b16)])) _
      refine st50.trans ?_
      show Steps p.tables e below (T50.setTop (mkF m 163 #[.val (.int p0), .val (.int p1), .val (.long p2), .second, .val (.int p3), .val (.long p4), .second, .val (.int p5), .val (.ref b1), .val (.ref b4), .val (.ref b9), .val (.ref b16), .val (.int (1 : Int32)), .val (.int (0 : Int32)), .val va, .val vb, .val vc, .val (.int (p3 ^^^ (-1 : Int32)).toInt8.toInt32), .val (.long (p4 ^^^ (-1 : Int64))), .second] [(.long p4)])) _
      refine XS.lload X50.here hx rfl (hb hby at_163) rfl ?_
      show Steps p.tables e below (T50.setTop (mkF m 165 #[.val (.int p0), .val (.int p1), .val (.long p2), .second, .val (.int p3), .val (.long p4), .second, .val (.int p5), .val (.ref b1), .val (.ref b4), .val (.ref b9), .val (.ref b16), .val (.int (1 : Int32)), .val (.int (0 : Int32)), .val va, .val vb, .val vc, .val (.int (p3 ^^^ (-1 : Int32)).toInt8.toInt32), .val (.long (p4 ^^^ (-1 : Int64))), .second] [(.long p4), (.long p4)])) _
      refine XT.lcmp X50.here hx rfl (hb hby at_165) rfl ?_
      show Steps p.tables e below (T50.setTop (mkF m 166 #[.val (.int p0), .val (.int p1), .val (.long p2), .second, .val (.int p3), .val (.long p4), .second, .val (.int p5), .val (.ref b1), .val (.ref b4), .val (.ref b9), .val (.ref b16), .val (.int (1 : Int32)), .val (.int (0 : Int32)), .val va, .val vb, .val vc, .val (.int (p3 ^^^ (-1 : Int32)).toInt8.toInt32), .val (.long (p4 ^^^ (-1 : Int64))), .second] [(.int (XT.cmpL p4 p4))])) _
      refine XS.ifNo X50.here hx rfl (hb hby at_166) rfl (XT.ll_ne_f rfl) ?_
      show Steps p.tables e below (T50.setTop (mkF m 169 #[.val (.int p0), .val (.int p1), .val (.long p2), .second, .val (.int p3), .val (.long p4), .second, .val (.int p5), .val (.ref b1), .val (.ref b4), .val (.ref b9), .val (.ref b16), .val (.int (1 : Int32)), .val (.int (0 : Int32)), .val va, .val vb, .val vc, .val (.int (p3 ^^^ (-1 : Int32)).toInt8.toInt32), .val (.long (p4 ^^^ (-1 : Int64))), .second] [])) _
      refine XS.aload X50.here hx rfl (hb hby at_169) rfl rfl ?_
      show Steps p.tables e below (T50.setTop (mkF m 171 #[.val (.int p0), .val (.int p1), .val (.long p2), .second, .val (.int p3), .val (.long p4), .second, .val (.int p5), .val (.ref b1), .val (.ref b4), .val (.ref b9), .val (.ref b16), .val (.int (1 : Int32)), .val (.int (0 : Int32)), .val va, .val vb, .val vc, .val (.int (p3 ^^^ (-1 : Int32)).toInt8.toInt32), .val (.long (p4 ^^^ (-1 : Int64))), .second] [(.ref b16)])) _
      refine XS.iload X50.here hx rfl (hb hby at_171) rfl ?_
      show Steps p.tables e below (T50.setTop (mkF m 173 #[.val (.int p0), .val (.int p1), .val (.long p2), .second, .val (.int p3), .val (.long p4), .second, .val (.int p5), .val (.ref b1), .val (.ref b4), .val (.ref b9), .val (.ref b16), .val (.int (1 : Int32)), .val (.int (0 : Int32)), .val va, .val vb, .val vc, .val (.int (p3 ^^^ (-1 : Int32)).toInt8.toInt32), .val (.long (p4 ^^^ (-1 : Int64))), .second] [(.int (1 : Int32)), (.ref b16)])) _
      refine st51.trans ?_
      show Steps p.tables e below (T51.setTop (mkF m 176 #[.val (.int p0), .val (.int p1), .val (.long p2), .second, .val (.int p3), .val (.long p4), .second, .val (.int p5), .val (.ref b1), .val (.ref b4), .val (.ref b9), .val (.ref b16), .val (.int (1 : Int32)), .val (.int (0 : Int32)), .val va, .val vb, .val vc, .val (.int (p3 ^^^ (-1 : Int32)).toInt8.toInt32), .val (.long (p4 ^^^ (-1 : Int64))), .second] [vb])) _
      refine XS.aload X51.here hx rfl (hb hby at_176) rfl Bvb.isRef ?_
      show Steps p.tables e below (T51.setTop (mkF m 178 #[.val (.int p0), .val (.int p1), .val (.long p2), .second, .val (.int p3), .val (.long p4), .second, .val (.int p5), .val (.ref b1), .val (.ref b4), .val (.ref b9), .val (.ref b16), .val (.int (1 : Int32)), .val (.int (0 : Int32)), .val va, .val vb, .val vc, .val (.int (p3 ^^^ (-1 : Int32)).toInt8.toInt32), .val (.long (p4 ^^^ (-1 : Int64))), .second] [vb, vb])) _
      refine XT.acmpNo X51.here hx rfl (hb hby at_178) rfl Bvb.isRef Bvb.isRef (XT.aa_ne_f rfl) ?_
      show Steps p.tables e below (T51.setTop (mkF m 181 #[.val (.int p0), .val (.int p1), .val (.long p2), .second, .val (.int p3), .val (.long p4), .second, .val (.int p5), .val (.ref b1), .val (.ref b4), .val (.ref b9), .val (.ref b16), .val (.int (1 : Int32)), .val (.int (0 : Int32)), .val va, .val vb, .val vc, .val (.int (p3 ^^^ (-1 : Int32)).toInt8.toInt32), .val (.long (p4 ^^^ (-1 : Int64))), .second] [])) _
      refine XS.aload X51.here hx rfl (hb hby at_181) rfl rfl ?_
      show Steps p.tables e below (T51.setTop (mkF m 183 #[.val (.int p0), .val (.int p1), .val (.long p2), .second, .val (.int p3), .val (.long p4), .second, .val (.int p5), .val (.ref b1), .val (.ref b4), .val (.ref b9), .val (.ref b16), .val (.int (1 : Int32)), .val (.int (0 : Int32)), .val va, .val vb, .val vc, .val (.int (p3 ^^^ (-1 : Int32)).toInt8.toInt32), .val (.long (p4 ^^^ (-1 : Int64))), .second] [(.ref b16)])) _
      refine XS.iload X51.here hx rfl (hb hby at_183) rfl ?_
      show Steps p.tables e below (T51.setTop (mkF m 185 #[.val (.int p0), .val (.int p1), .val (.long p2), .second, .val (.int p3), .val (.long p4), .second, .val (.int p5), .val (.ref b1), .val (.ref b4), .val (.ref b9), .val (.ref b16), .val (.int (1 : Int32)), .val (.int (0 : Int32)), .val va, .val vb, .val vc, .val (.int (p3 ^^^ (-1 : Int32)).toInt8.toInt32), .val (.long (p4 ^^^ (-1 : Int64))), .second] [(.int (0 : Int32)), (.ref b16)])) _
      refine st52.trans ?_
      show Steps p.tables e below (T52.setTop (mkF m 188 #[.val (.int p0), .val (.int p1), .val (.long p2), .second, .val (.int p3), .val (.long p4), .second, .val (.int p5), .val (.ref b1), .val (.ref b4), .val (.ref b9), .val (.ref b16), .val (.int (1 : Int32)), .val (.int (0 : Int32)), .val va, .val vb, .val vc, .val (.int (p3 ^^^ (-1 : Int32)).toInt8.toInt32), .val (.long (p4 ^^^ (-1 : Int64))), .second] [(.int (nar .byte (nar .byte (p3 ^^^ (-1 : Int32)).toInt8.toInt32)))])) _
      refine XS.iload X52.here hx rfl (hb hby at_188) rfl ?_
      show Steps p.tables e below (T52.setTop (mkF m 190 #[.val (.int p0), .val (.int p1), .val (.long p2), .second, .val (.int p3), .val (.long p4), .second, .val (.int p5), .val (.ref b1), .val (.ref b4), .val (.ref b9), .val (.ref b16), .val (.int (1 : Int32)), .val (.int (0 : Int32)), .val va, .val vb, .val vc, .val (.int (p3 ^^^ (-1 : Int32)).toInt8.toInt32), .val (.long (p4 ^^^ (-1 : Int64))), .second] [(.int (p3 ^^^ (-1 : Int32)).toInt8.toInt32), (.int (nar .byte (nar .byte (p3 ^^^ (-1 : Int32)).toInt8.toInt32)))])) _
      refine XS.icmpNo X52.here hx rfl (hb hby at_190) rfl (XT.ii_ne_f (by simp only [own_nb])) ?_
      show Steps p.tables e below (T52.setTop (mkF m 193 #[.val (.int p0), .val (.int p1), .val (.long p2), .second, .val (.int p3), .val (.long p4), .second, .val (.int p5), .val (.ref b1), .val (.ref b4), .val (.ref b9), .val (.ref b16), .val (.int (1 : Int32)), .val (.int (0 : Int32)), .val va, .val vb, .val vc, .val (.int (p3 ^^^ (-1 : Int32)).toInt8.toInt32), .val (.long (p4 ^^^ (-1 : Int64))), .second] [])) _
      refine XS.aload X52.here hx rfl (hb hby at_193) rfl rfl ?_
      show Steps p.tables e below (T52.setTop (mkF m 195 #[.val (.int p0), .val (.int p1), .val (.long p2), .second, .val (.int p3), .val (.long p4), .second, .val (.int p5), .val (.ref b1), .val (.ref b4), .val (.ref b9), .val (.ref b16), .val (.int (1 : Int32)), .val (.int (0 : Int32)), .val va, .val vb, .val vc, .val (.int (p3 ^^^ (-1 : Int32)).toInt8.toInt32), .val (.long (p4 ^^^ (-1 : Int64))), .second] [(.ref b16)])) _
      refine XS.iload X52.here hx rfl (hb hby at_195) rfl ?_
      show Steps p.tables e below (T52.setTop (mkF m 197 #[.val (.int p0), .val (.int p1), .val (.long p2), .second, .val (.int p3), .val (.long p4), .second, .val (.int p5), .val (.ref b1), .val (.ref b4), .val (.ref b9), .val (.ref b16), .val (.int (1 : Int32)), .val (.int (0 : Int32)), .val va, .val vb, .val vc, .val (.int (p3 ^^^ (-1 : Int32)).toInt8.toInt32), .val (.long (p4 ^^^ (-1 : Int64))), .second] [(.int (0 : Int32)), (.ref b16)])) _
      refine st53.trans ?_
      show Steps p.tables e below (T53.setTop (mkF m 200 #[.val (.int p0), .val (.int p1), .val (.long p2), .second, .val (.int p3), .val (.long p4), .second, .val (.int p5), .val (.ref b1), .val (.ref b4), .val (.ref b9), .val (.ref b16), .val (.int (1 : Int32)), .val (.int (0 : Int32)), .val va, .val vb, .val vc, .val (.int (p3 ^^^ (-1 : Int32)).toInt8.toInt32), .val (.long (p4 ^^^ (-1 : Int64))), .second] [(.long (p4 ^^^ (-1 : Int64)))])) _
      refine XS.lload X53.here hx rfl (hb hby at_200) rfl ?_
      show Steps p.tables e below (T53.setTop (mkF m 202 #[.val (.int p0), .val (.int p1), .val (.long p2), .second, .val (.int p3), .val (.long p4), .second, .val (.int p5), .val (.ref b1), .val (.ref b4), .val (.ref b9), .val (.ref b16), .val (.int (1 : Int32)), .val (.int (0 : Int32)), .val va, .val vb, .val vc, .val (.int (p3 ^^^ (-1 : Int32)).toInt8.toInt32), .val (.long (p4 ^^^ (-1 : Int64))), .second] [(.long (p4 ^^^ (-1 : Int64))), (.long (p4 ^^^ (-1 : Int64)))])) _
      refine XT.lcmp X53.here hx rfl (hb hby at_202) rfl ?_
      show Steps p.tables e below (T53.setTop (mkF m 203 #[.val (.int p0), .val (.int p1), .val (.long p2), .second, .val (.int p3), .val (.long p4), .second, .val (.int p5), .val (.ref b1), .val (.ref b4), .val (.ref b9), .val (.ref b16), .val (.int (1 : Int32)), .val (.int (0 : Int32)), .val va, .val vb, .val vc, .val (.int (p3 ^^^ (-1 : Int32)).toInt8.toInt32), .val (.long (p4 ^^^ (-1 : Int64))), .second] [(.int (XT.cmpL (p4 ^^^ (-1 : Int64)) (p4 ^^^ (-1 : Int64))))])) _
      refine XS.ifNo X53.here hx rfl (hb hby at_203) rfl (XT.ll_ne_f rfl) ?_
      show Steps p.tables e below (T53.setTop (mkF m 206 #[.val (.int p0), .val (.int p1), .val (.long p2), .second, .val (.int p3), .val (.long p4), .second, .val (.int p5), .val (.ref b1), .val (.ref b4), .val (.ref b9), .val (.ref b16), .val (.int (1 : Int32)), .val (.int (0 : Int32)), .val va, .val vb, .val vc, .val (.int (p3 ^^^ (-1 : Int32)).toInt8.toInt32), .val (.long (p4 ^^^ (-1 : Int64))), .second] [])) _
      refine XS.aload X53.here hx rfl (hb hby at_206) rfl rfl ?_
      show Steps p.tables e below (T53.setTop (mkF m 208 #[.val (.int p0), .val (.int p1), .val (.long p2), .second, .val (.int p3), .val (.long p4), .second, .val (.int p5), .val (.ref b1), .val (.ref b4), .val (.ref b9), .val (.ref b16), .val (.int (1 : Int32)), .val (.int (0 : Int32)), .val va, .val vb, .val vc, .val (.int (p3 ^^^ (-1 : Int32)).toInt8.toInt32), .val (.long (p4 ^^^ (-1 : Int64))), .second] [(.ref b16)])) _
      refine XS.iload X53.here hx rfl (hb hby at_208) rfl ?_
      show Steps p.tables e below (T53.setTop (mkF m 210 #[.val (.int p0), .val (.int p1), .val (.long p2), .second, .val (.int p3), .val (.long p4), .second, .val (.int p5), .val (.ref b1), .val (.ref b4), .val (.ref b9), .val (.ref b16), .val (.int (1 : Int32)), .val (.int (0 : Int32)), .val va, .val vb, .val vc, .val (.int (p3 ^^^ (-1 : Int32)).toInt8.toInt32), .val (.long (p4 ^^^ (-1 : Int64))), .second] [(.int (0 : Int32)), (.ref b16)])) _
      refine st54.trans ?_
      show Steps p.tables e below (T54.setTop (mkF m 213 #[.val (.int p0), .val (.int p1), .val (.long p2), .second, .val (.int p3), .val (.long p4), .second, .val (.int p5), .val (.ref b1), .val (.ref b4), .val (.ref b9), .val (.ref b16), .val (.int (1 : Int32)), .val (.int (0 : Int32)), .val va, .val vb, .val vc, .val (.int (p3 ^^^ (-1 : Int32)).toInt8.toInt32), .val (.long (p4 ^^^ (-1 : Int64))), .second] [vc])) _
      refine XS.aload X54.here hx rfl (hb hby at_213) rfl Bvc.isRef ?_
      show Steps p.tables e below (T54.setTop (mkF m 215 #[.val (.int p0), .val (.int p1), .val (.long p2), .second, .val (.int p3), .val (.long p4), .second, .val (.int p5), .val (.ref b1), .val (.ref b4), .val (.ref b9), .val (.ref b16), .val (.int (1 : Int32)), .val (.int (0 : Int32)), .val va, .val vb, .val vc, .val (.int (p3 ^^^ (-1 : Int32)).toInt8.toInt32), .val (.long (p4 ^^^ (-1 : Int64))), .second] [vc, vc])) _
      refine XT.acmpNo X54.here hx rfl (hb hby at_215) rfl Bvc.isRef Bvc.isRef (XT.aa_ne_f rfl) ?_
      show Steps p.tables e below (T54.setTop (mkF m 218 #[.val (.int p0), .val (.int p1), .val (.long p2), .second, .val (.int p3), .val (.long p4), .second, .val (.int p5), .val (.ref b1), .val (.ref b4), .val (.ref b9), .val (.ref b16), .val (.int (1 : Int32)), .val (.int (0 : Int32)), .val va, .val vb, .val vc, .val (.int (p3 ^^^ (-1 : Int32)).toInt8.toInt32), .val (.long (p4 ^^^ (-1 : Int64))), .second] [])) _
      refine XS.iconst X54.here hx rfl (hb hby at_218) ?_
      show Steps p.tables e below (T54.setTop (mkF m 219 #[.val (.int p0), .val (.int p1), .val (.long p2), .second, .val (.int p3), .val (.long p4), .second, .val (.int p5), .val (.ref b1), .val (.ref b4), .val (.ref b9), .val (.ref b16), .val (.int (1 : Int32)), .val (.int (0 : Int32)), .val va, .val vb, .val vc, .val (.int (p3 ^^^ (-1 : Int32)).toInt8.toInt32), .val (.long (p4 ^^^ (-1 : Int64))), .second] [(.int (1 : Int32))])) _
      refine XS.goto X54.here hx rfl (pc0 := 219) (pc' := 223) rfl (hb hby at_219) (by decide) (by decide) ?_
      exact kt
    obtain ⟨fs, hr, hrun, hended, hW, hsame⟩ := X54.leave (v := some (.int (1 : Int32))) (fun h => by rw [Bd.returns] at h; cases h)
    refine ⟨_, _, pre55 _ ?_, hrun, hended, _, _, rfl, ?_, ⟨_, rfl⟩, hW, hsame.mono (by decide) (by decide)⟩
    · show Steps p.tables e below (T54.setTop (mkF m 223 #[.val (.int p0), .val (.int p1), .val (.long p2), .second, .val (.int p3), .val (.long p4), .second, .val (.int p5), .val (.ref b1), .val (.ref b4), .val (.ref b9), .val (.ref b16), .val (.int (1 : Int32)), .val (.int (0 : Int32)), .val va, .val vb, .val vc, .val (.int (p3 ^^^ (-1 : Int32)).toInt8.toInt32), .val (.long (p4 ^^^ (-1 : Int64))), .second] [(.int (1 : Int32))])) _
      exact retN X54 hx (t := .boolean) Bd.returns (by simp) (hb hby at_223) hr
    · show Q0 Z h0 n0 _ T54.heap _
      exact ⟨rfl, N54⟩
theorem rm0 (l : Launch) (Z : State) (a0 : Array Value) (hw : ∀ d ∈ tables_1, d.before a0 Z = true) (ws : List Jvm.Cond) (p0 p1 : Int32) (p2 : Int64) (p3 : Int32) (p4 : Int64) (p5 : Int32) (h0 : Heap) (n0 : Nat) (Z0 : n0 ≤ h0.size) :
    MetFree l x (head1 (Jvm.Cond.code x code maxLocals ret :: ws) room_1) (fun a U => a = #[(.int p0), (.int p1), (.long p2), (.int p3), (.long p4), (.int p5)] ∧ Z.Warmed39 U.vm ∧ U.heap = h0) (fun _ _ _ _ _ => True) (fun _ U o U' => ∃ v L, o = .returned v ∧ Q0 Z h0 n0 v U'.heap L ∧ FrameEnd U o U' L room_1.cells room_1.slots) := by
  rcases and_one p0 with h | h
  · exact rm00 l Z a0 hw ws p0 p1 p2 p3 p4 p5 h0 n0 Z0 h
  · exact rm01 l Z a0 hw ws p0 p1 p2 p3 p4 p5 h0 n0 Z0 h
set_option maxRecDepth 65536 in
set_option maxHeartbeats 40000000 in
theorem comes_1 {Post : Tables → Env → Array Value → State → Outcome → State → Prop} (hpost : ∀ tb e args s v u, (limb_1_1.after args s (.returned v) u = true ∧ limb_1_2.after args s (.returned v) u = true ∧ True) → FrameEnd s (.returned v) u (Jvm.fieldLocs frame_1_writes args s ++ Jvm.arrayLocs frame_1_arrays args s ++ Jvm.staticLocs frame_1_statics s) 24 128 → Post tb e args s (.returned v) u) :
    ArmFor flags0 classFile x code maxLocals ret World_1 tables_1 room_1 Calls_1 rest_1 Pre_1 Post := by
  intro l hfl _ _ p e ha hc hk s m args below hf hA hF happ hP
  obtain ⟨hcalls, hrest, hpre⟩ := hP
  obtain ⟨-, -, -, hnamed, -, -, -, hat⟩ := (Spec.applies_iff hf).mp happ
  obtain ⟨hg, hn⟩ := and_e (Cond.before_iff.mp (show (Jvm.Cond.and given_1 narrow_1).before args s = true from hpre))
  obtain ⟨hg0, hg1⟩ := and_e hg
  obtain ⟨ga0, hgg0⟩ := and_e hg1
  obtain ⟨ga1, hgg1⟩ := and_e hgg0
  obtain ⟨ga2, hgg2⟩ := and_e hgg1
  obtain ⟨ga3, hgg3⟩ := and_e hgg2
  obtain ⟨ga4, hgg4⟩ := and_e hgg3
  have ga5 := hgg4
  obtain ⟨w0_, w1_, w2_, w3_, w4_, w5_, rfl⟩ : ∃ w0_ w1_ w2_ w3_ w4_ w5_ : Value, args = #[w0_, w1_, w2_, w3_, w4_, w5_] := by
    have hs : args.size = 6 := by simpa [Cond.value, given_1] using hg0
    obtain ⟨L⟩ := args
    match L, hs with
    | [w0_, w1_, w2_, w3_, w4_, w5_], _ => exact ⟨w0_, w1_, w2_, w3_, w4_, w5_, rfl⟩
  have hw := fun d (hd : d ∈ tables_1) => atoms_spec (ws := Jvm.Cond.code x code maxLocals ret :: tables_1) hat d (List.mem_cons_of_mem _ hd)
  have hfit : Fit s := fun {y c} hc i hi => by
    obtain ⟨ha, rfl⟩ := Array.getElem?_eq_some_iff.mp hc
    have q := List.all_eq_true.mp ((Array.all_eq_true_iff_forall_mem.mp hF) _ (Array.getElem_mem ha)) i (List.mem_range.mpr hi)
    simpa [Array.getElem?_eq_getElem hi] using q
  obtain ⟨i0, ei0⟩ := is_v ga0
  obtain rfl : w0_ = (.int i0) := Option.some.inj ei0
  obtain ⟨i1, ei1⟩ := is_v ga1
  obtain rfl : w1_ = (.int i1) := Option.some.inj ei1
  obtain ⟨i2, ei2⟩ := isL_v ga2
  obtain rfl : w2_ = (.long i2) := Option.some.inj ei2
  obtain ⟨i3, ei3⟩ := is_v ga3
  obtain rfl : w3_ = (.int i3) := Option.some.inj ei3
  obtain ⟨i4, ei4⟩ := isL_v ga4
  obtain rfl : w4_ = (.long i4) := Option.some.inj ei4
  obtain ⟨i5, ei5⟩ := is_v ga5
  obtain rfl : w5_ = (.int i5) := Option.some.inj ei5
  obtain ⟨n, o, h1, h2, h3, _, L, rfl, ⟨rfl, N⟩, hq⟩ := rm0 l s _ hw tables_1 i0 i1 i2 i3 i4 i5 s.heap s.heap.size (Nat.le_refl _) p e ha hc hk s m _ below hf ((Spec.applies_iff_loose hf).mp happ).1 ⟨rfl, State.Warmed39.refl s, rfl⟩ trivial
  refine ⟨n, _, h1, h2, h3, hpost _ _ _ _ _ _ ⟨Cond.after_iff.mpr rfl, Cond.after_iff.mpr (eq_i res_at (Term.int_eval (1)) rfl), trivial⟩ ⟨hq.1, hq.2.1, (hq.2.2.sift fun y hy => Or.inr (N y hy)).mono (by decide) (by decide)⟩⟩
theorem main_1_1 : Claimed_1_1 := comes_1 fun _ _ _ _ _ _ h hF => ⟨h.1, hF⟩
theorem main_1_2 : Claimed_1_2 := comes_1 fun _ _ _ _ _ _ h hF => ⟨h.2.1, hF⟩
end Jvm.Pilot.@@N@@
namespace Jvm.Pilot.@@N@@
open Jvm Jvm.ClassFile Sem Op Lib Jvm.Free Jvm.Stand Jvm.Pilot.@@N@@.Jvm.D
/-! MADE BY PROGRAM (witnessworld.py) out of the Statement's table words and the real class files: 11 classes; the members and pool entries that the words name. The judged class is class 1, her method 1. -/
namespace start1
open Jvm.ClassFile
def u (s : String) : CpInfo := .utf8 (stringToUtf16 s)
/-- a pool by its gaps: so many unusable entries, then the entry; so many at the end -/
def gap : Nat → List CpInfo → List CpInfo
  | 0, r => r
  | n + 1, r => .unusable :: gap n r
def poolList (es : List (Nat × CpInfo)) (last : Nat) : List CpInfo := es.foldr (fun e r => gap e.1 (e.2 :: r)) (gap last [])
def pool (es : List (Nat × CpInfo)) (last : Nat) : Array CpInfo := ⟨poolList es last⟩
def fileOf (pool : Array CpInfo) (this : Nat) (attrs : Array Attribute := #[]) (ms : Array MethodInfo := #[]) (fl : Nat := 33) (sup : Nat := 0) (ifs : Array Nat := #[]) (fds : Array FieldInfo := #[]) : ClassFile where
  minorVersion := 0
  majorVersion := 65
  constantPool := pool
  accessFlags := fl
  thisClass := this
  superClass := sup
  interfaces := ifs
  fields := fds
  methods := ms
  attributes := attrs
def plain (name : String) (sup : Option ClassId) : Class where
  name := name
  kind := .ordinary
  loader := none
  accessFlags := 33
  super := sup
  interfaces := #[]
  cf := none
  fields := #[]
  methods := #[]
  instanceTypes := #[]
  staticTypes := #[]
  resolved := #[]
  callSites := []
  init := .initialized
  statics := none
  mirror := none

def pool0 : Array CpInfo := pool [(5, u "<init>"), (0, u "()V"), (1, .class_ 10), (1, u "java/lang/Object")] 113

def k0c0 : Code := { maxStack := 0, maxLocals := 1, code := object_method_1_code, exceptionTable := #[], attributes := #[] }
def k0m0 : Method := { name := "<init>", desc := "()V", sig := { parameters := [], returnType := none }, accessFlags := 1, code := some k0c0 }
/-- java/lang/Object -/
def k0 : Class := { plain "java/lang/Object" none with
  accessFlags := 33
  interfaces := #[]
  cf := some (fileOf pool0 8 #[] #[{ accessFlags := 1, nameIndex := 5, descriptorIndex := 6, attributes := #[] }] 33 0 #[] #[])
  fields := #[]
  methods := #[k0m0]
  instanceTypes := #[]
  staticTypes := #[]
  resolved := Array.replicate 124 none
  statics := none }

def pool1 : Array CpInfo := pool [(2, .class_ 4), (1, u "java/lang/Object"), (0, u "<init>"), (0, u "()V"), (0, .class_ 8), (0, u "com/example/hornbrook/hornbrook/Cells"), (0, .methodref 7 10), (0, .nameAndType 5 11), (0, u "(I)V"), (0, .long 18446744073709551615), (1, .methodref 7 15), (0, .nameAndType 16 17), (0, u "set"), (0, u "(IBJ[B)V"), (0, .methodref 7 19), (0, .nameAndType 20 21), (0, u "kind"), (0, u "(I)B"), (0, .methodref 7 23), (0, .nameAndType 24 25), (0, u "word"), (0, u "(I)J"), (0, .methodref 7 27), (0, .nameAndType 28 29), (0, u "bytes"), (0, u "(I)[B"), (0, .class_ 31), (0, u "com/example/hornbrook/hornbrook/CellsSetPinLaw"), (2, u "law"), (0, u "(IIJIJI)Z")] 5

def k1m0 : Method := { name := "<init>", desc := "()V", sig := { parameters := [], returnType := none }, accessFlags := 1, code := none }
def k1c1 : Code := { maxStack := 6, maxLocals := 20, code := code, exceptionTable := #[], attributes := #[] }
def k1m1 : Method := { name := "law", desc := "(IIJIJI)Z", sig := { parameters := [.int, .int, .long, .int, .long, .int], returnType := some .boolean }, accessFlags := 9, code := some k1c1 }
/-- com/example/hornbrook/hornbrook/CellsSetPinLaw -/
def k1 : Class := { plain "com/example/hornbrook/hornbrook/CellsSetPinLaw" (some 0) with
  accessFlags := 49
  interfaces := #[]
  cf := some (fileOf pool1 30 #[] #[{ accessFlags := 1, nameIndex := 5, descriptorIndex := 6, attributes := #[] }, { accessFlags := 9, nameIndex := 34, descriptorIndex := 35, attributes := #[] }] 49 2 #[] #[])
  fields := #[]
  methods := #[k1m0, k1m1]
  instanceTypes := #[]
  staticTypes := #[]
  resolved := Array.replicate 41 none
  statics := none }

def pool2 : Array CpInfo := pool [(1, .methodref 2 3), (0, .class_ 4), (0, .nameAndType 5 6), (0, u "java/lang/Object"), (0, u "<init>"), (0, u "()V"), (0, .fieldref 8 9), (0, .class_ 10), (0, .nameAndType 11 12), (0, u "com/example/hornbrook/hornbrook/Cells"), (0, u "kinds"), (0, u "[B"), (0, .fieldref 8 14), (0, .nameAndType 15 16), (0, u "words"), (0, u "[J"), (0, .class_ 12), (0, .fieldref 8 19), (0, .nameAndType 20 21), (0, u "bytes"), (0, u "[[B"), (2, u "set"), (0, u "(IBJ[B)V"), (26, u "kind"), (3, u "word"), (53, u "(I)V"), (11, u "(I)B"), (0, u "(I)J"), (0, u "(I)[B")] 11

def k2c0 : Code := { maxStack := 2, maxLocals := 2, code := prog_38_method_1_code, exceptionTable := #[], attributes := #[] }
def k2m0 : Method := { name := "<init>", desc := "(I)V", sig := { parameters := [.int], returnType := none }, accessFlags := 0, code := some k2c0 }
def k2c1 : Code := { maxStack := 2, maxLocals := 2, code := prog_38_method_4_code, exceptionTable := #[], attributes := #[] }
def k2m1 : Method := { name := "kind", desc := "(I)B", sig := { parameters := [.int], returnType := some .byte }, accessFlags := 0, code := some k2c1 }
def k2c2 : Code := { maxStack := 2, maxLocals := 2, code := prog_38_method_5_code, exceptionTable := #[], attributes := #[] }
def k2m2 : Method := { name := "word", desc := "(I)J", sig := { parameters := [.int], returnType := some .long }, accessFlags := 0, code := some k2c2 }
def k2c3 : Code := { maxStack := 2, maxLocals := 2, code := prog_38_method_6_code, exceptionTable := #[], attributes := #[] }
def k2m3 : Method := { name := "bytes", desc := "(I)[B", sig := { parameters := [.int], returnType := some (.array .byte) }, accessFlags := 0, code := some k2c3 }
def k2c4 : Code := { maxStack := 4, maxLocals := 6, code := prog_38_method_7_code, exceptionTable := #[], attributes := #[] }
def k2m4 : Method := { name := "set", desc := "(IBJ[B)V", sig := { parameters := [.int, .byte, .long, (.array .byte)], returnType := none }, accessFlags := 0, code := some k2c4 }
/-- com/example/hornbrook/hornbrook/Cells -/
def k2 : Class := { plain "com/example/hornbrook/hornbrook/Cells" (some 0) with
  accessFlags := 48
  interfaces := #[]
  cf := some (fileOf pool2 8 #[] #[{ accessFlags := 0, nameIndex := 5, descriptorIndex := 110, attributes := #[] }, { accessFlags := 0, nameIndex := 52, descriptorIndex := 122, attributes := #[] }, { accessFlags := 0, nameIndex := 56, descriptorIndex := 123, attributes := #[] }, { accessFlags := 0, nameIndex := 20, descriptorIndex := 124, attributes := #[] }, { accessFlags := 0, nameIndex := 24, descriptorIndex := 25, attributes := #[] }] 48 2 #[] #[{ accessFlags := 18, nameIndex := 11, descriptorIndex := 12, attributes := #[] }, { accessFlags := 18, nameIndex := 15, descriptorIndex := 16, attributes := #[] }, { accessFlags := 18, nameIndex := 20, descriptorIndex := 21, attributes := #[] }])
  fields := #[{ name := "kinds", type := (.array .byte), accessFlags := 18, slot := 0, constantValue := 0 }, { name := "words", type := (.array .long), accessFlags := 18, slot := 1, constantValue := 0 }, { name := "bytes", type := (.array (.array .byte)), accessFlags := 18, slot := 2, constantValue := 0 }]
  methods := #[k2m0, k2m1, k2m2, k2m3, k2m4]
  instanceTypes := #[(.array .byte), (.array .long), (.array (.array .byte))]
  staticTypes := #[]
  resolved := Array.replicate 136 none
  statics := none }

def pool3 : Array CpInfo := pool [(1, u "java/lang/Cloneable"), (0, .class_ 1), (0, u "java/lang/Object"), (0, .class_ 3)] 3

/-- java/lang/Cloneable -/
def k3 : Class := { plain "java/lang/Cloneable" (some 0) with
  accessFlags := 1537
  interfaces := #[]
  cf := some (fileOf pool3 2 #[] #[] 1537 4 #[] #[])
  fields := #[]
  methods := #[]
  instanceTypes := #[]
  staticTypes := #[]
  resolved := Array.replicate 8 none
  statics := none }

def pool4 : Array CpInfo := pool [(1, u "java/io/Serializable"), (0, .class_ 1), (0, u "java/lang/Object"), (0, .class_ 3)] 3

/-- java/io/Serializable -/
def k4 : Class := { plain "java/io/Serializable" (some 0) with
  accessFlags := 1537
  interfaces := #[]
  cf := some (fileOf pool4 2 #[] #[] 1537 4 #[] #[])
  fields := #[]
  methods := #[]
  instanceTypes := #[]
  staticTypes := #[]
  resolved := Array.replicate 8 none
  statics := none }

/-- the primitive byte -/
def k5 : Class := { plain "byte" none with kind := .primitive 'B', accessFlags := 0x411 }
/-- [B -/
def k6 : Class := { plain "[B" (some 0) with kind := .array 5 .byte, interfaces := #[3, 4], accessFlags := 1041 }

/-- the primitive int -/
def k7 : Class := { plain "int" none with kind := .primitive 'I', accessFlags := 0x411 }
/-- [I -/
def k8 : Class := { plain "[I" (some 0) with kind := .array 7 .int, interfaces := #[3, 4], accessFlags := 1041 }

/-- the primitive long -/
def k9 : Class := { plain "long" none with kind := .primitive 'J', accessFlags := 0x411 }
/-- [J -/
def k10 : Class := { plain "[J" (some 0) with kind := .array 9 .long, interfaces := #[3, 4], accessFlags := 1041 }

/-- [[B -/
def k11 : Class := { plain "[[B" (some 0) with kind := .array 6 (.array .byte), interfaces := #[3, 4], accessFlags := 1041 }

def heap : Heap := #[]
def classes : Array Class := #[k0, k1, k2, k3, k4, k5, k6, k7, k8, k9, k10, k11]
def interned : List (Array UInt16 × Addr) := []
def slotsUsed : Nat := 0
def theMethod : MethodId := ⟨1, 1⟩
def args0 : Array Value := #[.int 5, .int 3, .long 2, .int 3, .long 2, .int 15]
def aboutOver (below : List Frame) : State where
  vm := { classes := classes, interned := interned.toArray }
  heap := heap
  slotsUsed := slotsUsed
  threads := #[{ frames := .invoking theMethod args0 :: below }]
def below0 : List Frame := [.native { method := ⟨0, 0⟩, args := #[] }]
def about1 : State := aboutOver below0
def p0 : Program := .bare "" "" ""
def e0 : Env := launch0.env 0 0 0
theorem w_frames : about1.frames = Frame.invoking theMethod args0 :: below0 := rfl
set_option maxRecDepth 65536 in
theorem w_args : argsFit about1.vm theMethod args0 = true := by decide +kernel
set_option maxRecDepth 65536 in
theorem w_heap : heapFits about1 = true := by decide +kernel
set_option maxRecDepth 65536 in
theorem w_runnable : about1.curStatus? = some .runnable := by decide +kernel
set_option maxRecDepth 65536 in
theorem w_alone : about1.alone = true := by decide +kernel
set_option maxRecDepth 65536 in
theorem w_named : about1.methodNamed? x = some theMethod := by decide +kernel
set_option maxRecDepth 65536 in
theorem w_hears : about1.hears theMethod below0 = true := by decide +kernel
set_option maxRecDepth 65536 in
theorem w_ripe : about1.ripe theMethod args0 below0 = true := by decide +kernel
theorem w_running : about1.status = .running := rfl
set_option maxRecDepth 65536 in
theorem w_room : about1.hasRoom e0.platform room_1 = true :=
  launch0.hasRoom_least _ room_1 (by decide +kernel) (by decide +kernel) (by decide +kernel) (by decide +kernel) (by decide +kernel) (by decide +kernel)
theorem allAtoms_all (ts : List Jvm.Cond) (a : Array Jvm.Value) (st : Jvm.State) : (allAtoms ts).before a st = ts.all (fun c => c.before a st) := by
  induction ts with
  | nil => rfl
  | cons c t ih =>
    show (Jvm.Cond.and c (allAtoms t)).before a st = _
    rw [Jvm.Cond.before_and, ih, List.all_cons]
def words1 : List Jvm.Cond := Jvm.Cond.code x code maxLocals ret :: tables_1
/-- a 'code' word, met by the world's own term for the bytes: nothing is compared byte by byte -/
theorem code_word {y : MethodName} {bytes : ByteArray} {mx : Nat} {rt : Option FieldType} {a : Array Value} {s : State} {m : MethodId} {meth : Method} {c : Code} (h1 : s.methodNamed? y = some m) (h2 : s.vm.method? m = some meth) (h3 : meth.code = some c) (h4 : c.code = bytes)
    (h5 : (c.maxLocals == mx && c.exceptionTable.isEmpty && decide (c.maxStack ≤ mostOperands) && decide (meth.sig.returnType = rt) && !meth.locks && decide (parseMethodDescriptor y.desc = some meth.sig)) = true) : (Jvm.Cond.code y bytes mx rt).before a s = true := by
  simp only [Bool.and_eq_true, beq_iff_eq, Bool.not_eq_true', decide_eq_true_eq] at h5
  obtain ⟨⟨⟨⟨⟨g1, g2⟩, g3⟩, g4⟩, g5⟩, g6⟩ := h5
  simp [Cond.before, Cond.holds, Cond.value, h1, h2, h3, h4, g1, g2, g3, g4, g5, g6]
def isCode : Jvm.Cond → Bool
  | .code _ _ _ _ => true
  | _ => false
theorem all_split {L : List Jvm.Cond} {P : Jvm.Cond → Bool} (h1 : L.all (fun c => isCode c || P c) = true) (h2 : ∀ c ∈ L.filter isCode, P c = true) : L.all P = true := by
  refine List.all_eq_true.mpr fun c hc => ?_
  have h := List.all_eq_true.mp h1 c hc
  rcases Bool.eq_false_or_eq_true (isCode c) with hi | hi
  · exact h2 c (List.mem_filter.mpr ⟨hc, hi⟩)
  · simpa [hi] using h
set_option maxRecDepth 65536 in
theorem w_c0 : (Jvm.Cond.code x code maxLocals ret).before args0 about1 = true := code_word (m := ⟨1, 1⟩) (meth := k1m1) (c := k1c1) (by decide +kernel) rfl rfl rfl (by decide +kernel)
set_option maxRecDepth 65536 in
theorem w_c1 : (Jvm.Cond.code ({ cls := "com/example/hornbrook/hornbrook/Cells", name := "<init>", desc := "(I)V" } : Jvm.MethodName) prog_38_method_1_code (2 : Nat) (Option.none : Option Jvm.ClassFile.FieldType)).before args0 about1 = true := code_word (m := ⟨2, 0⟩) (meth := k2m0) (c := k2c0) (by decide +kernel) rfl rfl rfl (by decide +kernel)
set_option maxRecDepth 65536 in
theorem w_c2 : (Jvm.Cond.code ({ cls := "java/lang/Object", name := "<init>", desc := "()V" } : Jvm.MethodName) object_method_1_code (1 : Nat) (Option.none : Option Jvm.ClassFile.FieldType)).before args0 about1 = true := code_word (m := ⟨0, 0⟩) (meth := k0m0) (c := k0c0) (by decide +kernel) rfl rfl rfl (by decide +kernel)
set_option maxRecDepth 65536 in
theorem w_c3 : (Jvm.Cond.code ({ cls := "com/example/hornbrook/hornbrook/Cells", name := "set", desc := "(IBJ[B)V" } : Jvm.MethodName) prog_38_method_7_code (6 : Nat) (Option.none : Option Jvm.ClassFile.FieldType)).before args0 about1 = true := code_word (m := ⟨2, 4⟩) (meth := k2m4) (c := k2c4) (by decide +kernel) rfl rfl rfl (by decide +kernel)
set_option maxRecDepth 65536 in
theorem w_c4 : (Jvm.Cond.code ({ cls := "com/example/hornbrook/hornbrook/Cells", name := "kind", desc := "(I)B" } : Jvm.MethodName) prog_38_method_4_code (2 : Nat) (Option.some Jvm.ClassFile.FieldType.byte)).before args0 about1 = true := code_word (m := ⟨2, 1⟩) (meth := k2m1) (c := k2c1) (by decide +kernel) rfl rfl rfl (by decide +kernel)
set_option maxRecDepth 65536 in
theorem w_c5 : (Jvm.Cond.code ({ cls := "com/example/hornbrook/hornbrook/Cells", name := "word", desc := "(I)J" } : Jvm.MethodName) prog_38_method_5_code (2 : Nat) (Option.some Jvm.ClassFile.FieldType.long)).before args0 about1 = true := code_word (m := ⟨2, 2⟩) (meth := k2m2) (c := k2c2) (by decide +kernel) rfl rfl rfl (by decide +kernel)
set_option maxRecDepth 65536 in
theorem w_c6 : (Jvm.Cond.code ({ cls := "com/example/hornbrook/hornbrook/Cells", name := "bytes", desc := "(I)[B" } : Jvm.MethodName) prog_38_method_6_code (2 : Nat) (Option.some (Jvm.ClassFile.FieldType.array Jvm.ClassFile.FieldType.byte))).before args0 about1 = true := code_word (m := ⟨2, 3⟩) (meth := k2m3) (c := k2c3) (by decide +kernel) rfl rfl rfl (by decide +kernel)
def codes1 : List Jvm.Cond := [Jvm.Cond.code x code maxLocals ret, Jvm.Cond.code ({ cls := "com/example/hornbrook/hornbrook/Cells", name := "<init>", desc := "(I)V" } : Jvm.MethodName) prog_38_method_1_code (2 : Nat) (Option.none : Option Jvm.ClassFile.FieldType), Jvm.Cond.code ({ cls := "java/lang/Object", name := "<init>", desc := "()V" } : Jvm.MethodName) object_method_1_code (1 : Nat) (Option.none : Option Jvm.ClassFile.FieldType), Jvm.Cond.code ({ cls := "com/example/hornbrook/hornbrook/Cells", name := "set", desc := "(IBJ[B)V" } : Jvm.MethodName) prog_38_method_7_code (6 : Nat) (Option.none : Option Jvm.ClassFile.FieldType), Jvm.Cond.code ({ cls := "com/example/hornbrook/hornbrook/Cells", name := "kind", desc := "(I)B" } : Jvm.MethodName) prog_38_method_4_code (2 : Nat) (Option.some Jvm.ClassFile.FieldType.byte), Jvm.Cond.code ({ cls := "com/example/hornbrook/hornbrook/Cells", name := "word", desc := "(I)J" } : Jvm.MethodName) prog_38_method_5_code (2 : Nat) (Option.some Jvm.ClassFile.FieldType.long), Jvm.Cond.code ({ cls := "com/example/hornbrook/hornbrook/Cells", name := "bytes", desc := "(I)[B" } : Jvm.MethodName) prog_38_method_6_code (2 : Nat) (Option.some (Jvm.ClassFile.FieldType.array Jvm.ClassFile.FieldType.byte))]
set_option maxRecDepth 65536 in
theorem codes_eq : words1.filter isCode = codes1 := rfl
theorem w_codes : ∀ c ∈ words1.filter isCode, c.before args0 about1 = true := by
  rw [codes_eq]
  intro c hc
  simp only [codes1, List.mem_cons, List.not_mem_nil, or_false] at hc
  rcases hc with rfl | rfl | rfl | rfl | rfl | rfl | rfl
  · exact w_c0
  · exact w_c1
  · exact w_c2
  · exact w_c3
  · exact w_c4
  · exact w_c5
  · exact w_c6
set_option maxRecDepth 65536 in
theorem w_t1 : (words1.take 24).all (fun c => isCode c || c.before args0 about1) = true := by decide +kernel
set_option maxRecDepth 65536 in
theorem w_t2 : (words1.drop 24).all (fun c => isCode c || c.before args0 about1) = true := by decide +kernel
theorem w_tables : (allAtoms (Jvm.Cond.code x code maxLocals ret :: tables_1)).before args0 about1 = true := by
  rw [allAtoms_all]
  show words1.all (fun c => c.before args0 about1) = true
  refine all_split ?_ w_codes
  rw [← List.take_append_drop 24 words1, List.all_append, w_t1, w_t2]
  rfl
set_option maxRecDepth 65536 in
theorem w_case : (Jvm.Cond.and given_1 narrow_1).before args0 about1 = true := by decide +kernel
theorem w_applies : (headSpec (Jvm.Cond.code x code maxLocals ret :: tables_1) room_1).applies x e0.platform about1 = true :=
  (Spec.applies_iff w_frames).mpr ⟨w_running, w_runnable, w_alone, w_named, w_hears, w_ripe, w_room, w_tables⟩
theorem atStart : AtStart classFile x code maxLocals ret World_1 tables_1 room_1 Calls_1 rest_1 Pre_1 launch0 p0 e0 about1 theMethod args0 below0 :=
  ⟨lists_1, trivial, launch0.admits_env _ _ _, launch0.least_env, fairChoices_fair.cas, fairChoices_fair.clock, w_frames, w_args, w_heap, w_applies, trivial, trivial, w_case⟩
end start1
theorem witness_1 : WitnessClaimed_1 := ⟨start1.p0, start1.e0, start1.about1, start1.theMethod, start1.args0, start1.below0, start1.atStart⟩
end Jvm.Pilot.@@N@@
