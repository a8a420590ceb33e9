import JvmDerived
import JvmDerived.Pilot.@@N@@Statement
import JvmDerived.Pilot.@@N@@Code
set_option linter.unusedVariables false
set_option linter.unusedSimpArgs false

namespace Jvm.RoadKit
open Sem ClassFile Op Lib Jvm.Stand Jvm.Free Jvm.LawKit
section New
variable {p : Program} {l : Launch} {e : Env} {R : Room} {s : State} {m : MethodId} {args : Array Value} {below : List Frame} {meth : Method} {c : Code} {T : State} {locs : List Loc} {cells slots : Nat}
theorem retI (X : Stand p l e R s m args below meth c T locs cells slots) (hx : p.tables.exec = Jvm.exec) {pc : Nat} {Ls : Array Slot} {z : Int32} {rest : List Value} (hret : meth.sig.returnType = some .int) (hd : decode c.code pc = .ok (.ireturn, 1)) {fs : List Frame}
    (hl : ∀ (f : JFrame) (acts : List Action), f.method = m → f.locked = none → f.entered = [] → (doReturn e (T.setTop f) acts (some (.int z))).1 = T.setFrames fs) : Steps p.tables e below (T.setTop (mkF m pc Ls (.int z :: rest))) (T.setFrames fs) := by
  have hm' : T.vm.method? m = some meth := X.method'
  have hn : narrow .int (.int z) = .int z := rfl
  show Steps p.tables e below (T.setTop { method := m, pc := pc, locals := Ls, stack := _ :: rest, locked := none }) _
  jvm_step X.here [X.here.top, hx, hd, hm', hret, hn]
  first | (intro acts; rw [hl _ acts rfl rfl rfl]) | rw [hl _ _ rfl rfl rfl]
  exact Steps.refl _
end New
end Jvm.RoadKit

/- laws to paste: Road.backV (cut by pick.py; bodies as the Statement names them) -/
namespace Jvm.Pilot.@@N@@
namespace StrChars
open Jvm Sem ClassFile Op Lib Jvm.Stand Jvm.Free.XT Jvm.Free.ALB Jvm.Free.JM Jvm.Free
open Jvm.Lib.Cold (StaticIs)
/-- a char array whose places are chars -/
def Ch (a : Addr) (A : Cell) (U : State) : Prop := Arr .char a A U ∧ Typed .char A
theorem Ch.mv {a : Addr} {A : Cell} {U U' : State} (h : Ch a A U) (hal : U.vm.Alike U'.vm) (hh : U'.heap = U.heap) : Ch a A U' := ⟨h.1.mv hal hh, h.2⟩
theorem Ch.keep {a : Addr} {A : Cell} {U U' : State} (h : Ch a A U) (hal : U.vm.Alike U'.vm) (hk : U'.heap[a]? = some A) : Ch a A U' := ⟨h.1.keep hal hk, h.2⟩
/-- what place i of a char[]'s cell holds -/
def cv (A : Cell) (i : Nat) : Int32 := match A.slots[i]? with | some (.int x) => x | _ => 0
theorem Ch.get {a : Addr} {A : Cell} {U : State} (h : Ch a A U) {i : Nat} (hi : i < A.slots.size) : A.slots[i]? = some (.int (cv A i)) := by
  have e := Array.getElem?_eq_getElem hi
  have f := h.2 i _ e
  unfold cv; rw [e]
  generalize A.slots[i] = v at f
  cases v <;> simp [fits] at f ⊢
/-- the byte that i2b leaves of a char -/
def lo8 (x : Int32) : Int32 := x.toInt8.toInt32
theorem fits_lo8 (y : Int32) : fits .byte (.int (lo8 y)) = true := by
  have h1 := y.toInt8.le_toInt
  have h2 := y.toInt8.toInt_lt
  simp only [lo8, fits, Bool.and_eq_true, decide_eq_true_eq, Int32.le_iff_toInt_le, Int8.toInt_toInt32, show (-128 : Int32).toInt = -128 from by decide, show (127 : Int32).toInt = 127 from by decide]
  omega
/-- A' is A but that each place j of lo .. hi - 1 holds f j -/
def Laid (A A' : Cell) (lo hi : Nat) (f : Nat → Value) : Prop := A'.cls = A.cls ∧ A'.vm = A.vm ∧ A'.slots.size = A.slots.size ∧ ∀ i, A'.slots[i]? = if lo ≤ i ∧ i < hi then some (f i) else A.slots[i]?
theorem Laid.zero (A : Cell) (lo : Nat) (f : Nat → Value) : Laid A A lo (lo + 0) f := ⟨rfl, rfl, rfl, fun i => by rw [if_neg (by omega)]⟩
theorem Laid.step {A Ak : Cell} {lo k : Nat} {f : Nat → Value} {v : Value} (h : Laid A Ak lo k f) (hlo : lo ≤ k) (hk : k < Ak.slots.size) (hv : v = f k) : Laid A (Ak.setSlot k v) lo (k + 1) f := by
  refine ⟨h.1, h.2.1, by simpa [Cell.setSlot] using h.2.2.1, fun i => ?_⟩
  by_cases e : k = i
  · subst e; rw [Cell.slots_setSlot_self v hk, if_pos (by omega), hv]
  · rw [Cell.slots_setSlot_ne v e, h.2.2.2 i]
    by_cases q : lo ≤ i ∧ i < k
    · rw [if_pos q, if_pos (by omega)]
    · rw [if_neg q, if_neg (by omega)]
def U16 : String := "java/lang/StringUTF16"
namespace Cmp5
def yN : MethodName := ⟨"java/lang/StringUTF16", "compress", "([CI[BII)I"⟩
abbrev yB : ByteArray := jdk_52_method_21_code
theorem d0 : decode yB 0 = .ok (.iconst 0, 1) := by decide +kernel
theorem d1 : decode yB 1 = .ok (.istore 5, 2) := by decide +kernel
theorem d3 : decode yB 3 = .ok (.iload 5, 2) := by decide +kernel
theorem d5 : decode yB 5 = .ok (.iload 4, 2) := by decide +kernel
theorem d7 : decode yB 7 = .ok (.if_icmp (.ge) 37, 3) := by decide +kernel
theorem d10 : decode yB 10 = .ok (.aload_n 0, 1) := by decide +kernel
theorem d11 : decode yB 11 = .ok (.iload_n 1, 1) := by decide +kernel
theorem d12 : decode yB 12 = .ok (.caload, 1) := by decide +kernel
theorem d13 : decode yB 13 = .ok (.istore 6, 2) := by decide +kernel
theorem d15 : decode yB 15 = .ok (.iload 6, 2) := by decide +kernel
theorem d17 : decode yB 17 = .ok (.sipush 255, 3) := by decide +kernel
theorem d20 : decode yB 20 = .ok (.if_icmp (.le) 6, 3) := by decide +kernel
theorem d26 : decode yB 26 = .ok (.aload_n 2, 1) := by decide +kernel
theorem d27 : decode yB 27 = .ok (.iload_n 3, 1) := by decide +kernel
theorem d28 : decode yB 28 = .ok (.iload 6, 2) := by decide +kernel
theorem d30 : decode yB 30 = .ok (.i2b, 1) := by decide +kernel
theorem d31 : decode yB 31 = .ok (.bastore, 1) := by decide +kernel
theorem d32 : decode yB 32 = .ok (.iinc 1 1, 3) := by decide +kernel
theorem d35 : decode yB 35 = .ok (.iinc 3 1, 3) := by decide +kernel
theorem d38 : decode yB 38 = .ok (.iinc 5 1, 3) := by decide +kernel
theorem d41 : decode yB 41 = .ok (.goto (-38), 3) := by decide +kernel
theorem d44 : decode yB 44 = .ok (.iload 4, 2) := by decide +kernel
theorem d46 : decode yB 46 = .ok (.ireturn, 1) := by decide +kernel
def site : List Cond := []
def tab : Cond := tabOf yN yB 7 (some .int) site
def P (b : Addr) (A : Cell) (d : Addr) (B : Cell) (o q len : Nat) (args : Array Value) (s : State) : Prop := args = #[.ref b, .int (Int32.ofNat o), .ref d, .int (Int32.ofNat q), .int (Int32.ofNat len)] ∧ Ch b A s ∧ Arr .byte d B s ∧ b ≠ d ∧ o + len ≤ A.slots.size ∧ q + len ≤ B.slots.size ∧ ∀ i, i < len → ¬ 255 < cv A (o + i)
def E (b : Addr) (A : Cell) (d : Addr) (B : Cell) (o q len : Nat) (r : Option Value) (s u : State) : Prop := r = some (.int (Int32.ofNat len)) ∧ ∃ B', Put d B' s u ∧ Laid B B' q (q + len) (fun j => Value.int (lo8 (cv A (o + (j - q)))))
/-- no char of the range above 255: len; the places written hold each char's low byte -/
theorem law (l : Launch) (b : Addr) (A : Cell) (d : Addr) (B : Cell) (o q len : Nat) : Law l yN 5 5 0 0 yB 7 (some .int) site (P b A d B o q len) (E b A d B o q len) (copyLocs d q len) 0 0 := by
  refine Law.of_walk (plainFor_of_name (by decide +kernel)) (by decide +kernel) (by decide +kernel) (by decide) (fun _ _ h => by rw [h.1]; rfl) (fun _ U U' hal hh h => ⟨h.1, h.2.1.mv hal hh, h.2.2.1.mv hal hh, h.2.2.2⟩) (fun r U U' V V' h1 hal h2 h => ⟨h.1, h.2.elim fun B' q => ⟨B', q.1.mv h1 h2, q.2⟩⟩) ?_
  intro p e s m args below meth c s₁ X0 hexec hbytes hml hret hlk hnm hown hh0 W hP
  obtain ⟨rfl, hA, hB, hne, l1, l2, hp⟩ := hP
  have c1 : Steps p.tables e below (s₁.setTop (entryFrame m #[.ref b, .int (Int32.ofNat o), .ref d, .int (Int32.ofNat q), .int (Int32.ofNat len)] 7)) (s₁.setTop (mkF m 0 #[.val (.ref b), .val (.int (Int32.ofNat o)), .val (.ref d), .val (.int (Int32.ofNat q)), .val (.int (Int32.ofNat len)), .unset, .unset] [])) := entry rfl
  have hA0 := hA.1.mv X0.warmed.alike hh0
  have hB0 := hB.mv X0.warmed.alike hh0
  have a31 := hA.1.2.2.2
  have c2 : Steps p.tables e below (s₁.setTop (entryFrame m #[.ref b, .int (Int32.ofNat o), .ref d, .int (Int32.ofNat q), .int (Int32.ofNat len)] 7)) (s₁.setTop (mkF m 3 #[.val (.ref b), .val (.int (Int32.ofNat o)), .val (.ref d), .val (.int (Int32.ofNat q)), .val (.int (Int32.ofNat len)), .val (.int 0), .unset] [])) := c1.trans (by
    refine iconstV X0.here hexec rfl 0 (hb hbytes d0) (by decide) ?_
    refine XS.istore X0.here hexec rfl (hb hbytes d1) rfl rfl ?_
    exact Steps.refl _)
  have loop : ∀ (r i : Nat), i + r = len → ∀ (z : Slot), (z = .unset ∨ ∃ w, z = .val w ∧ w.category = 1) → ∀ (Tl : State) (Bk : Cell), Stand p l e { frames := 0, locals := 0, cells := 0, slots := 0 } s m #[.ref b, .int (Int32.ofNat o), .ref d, .int (Int32.ofNat q), .int (Int32.ofNat len)] below meth c Tl ([] ++ copyLocs d q i) 0 0 → Put d Bk s₁ Tl → Laid B Bk q (q + i) (fun j => Value.int (lo8 (cv A (o + (j - q))))) →
      Steps p.tables e below (s₁.setTop (entryFrame m #[.ref b, .int (Int32.ofNat o), .ref d, .int (Int32.ofNat q), .int (Int32.ofNat len)] 7)) (Tl.setTop (mkF m 3 #[.val (.ref b), .val (.int (Int32.ofNat (o + i))), .val (.ref d), .val (.int (Int32.ofNat (q + i))), .val (.int (Int32.ofNat len)), .val (.int (Int32.ofNat i)), z] [])) → ∃ (T' : State) (B' : Cell) (z' : Slot), Stand p l e { frames := 0, locals := 0, cells := 0, slots := 0 } s m #[.ref b, .int (Int32.ofNat o), .ref d, .int (Int32.ofNat q), .int (Int32.ofNat len)] below meth c T' ([] ++ copyLocs d q len) 0 0 ∧ Put d B' s₁ T' ∧ Laid B B' q (q + len) (fun j => Value.int (lo8 (cv A (o + (j - q))))) ∧
      Steps p.tables e below (s₁.setTop (entryFrame m #[.ref b, .int (Int32.ofNat o), .ref d, .int (Int32.ofNat q), .int (Int32.ofNat len)] 7)) (T'.setTop (mkF m 3 #[.val (.ref b), .val (.int (Int32.ofNat (o + len))), .val (.ref d), .val (.int (Int32.ofNat (q + len))), .val (.int (Int32.ofNat len)), .val (.int (Int32.ofNat len)), z'] [])) := by
    intro r
    induction r with
    | zero =>
      intro i hi z hz Tl Bk Xl pl fl cl
      have hil : i = len := by omega
      rw [hil] at Xl fl cl
      exact ⟨Tl, Bk, z, Xl, pl, fl, cl⟩
    | succ r ih =>
      intro i hi z hz Tl Bk Xl pl fl cl
      have all := X0.warmed.alike.symm.trans Xl.warmed.alike
      have hAl := hA0.keep all (pl.other hne hA0.1)
      have hBk := hB0.like all pl.1 fl.1 fl.2.1 fl.2.2.1
      have hlt : q + i < Bk.slots.size := by rw [fl.2.2.1]; omega
      have c3 : Steps p.tables e below (s₁.setTop (entryFrame m #[.ref b, .int (Int32.ofNat o), .ref d, .int (Int32.ofNat q), .int (Int32.ofNat len)] 7)) (Tl.setTop (mkF m 12 #[.val (.ref b), .val (.int (Int32.ofNat (o + i))), .val (.ref d), .val (.int (Int32.ofNat (q + i))), .val (.int (Int32.ofNat len)), .val (.int (Int32.ofNat i)), z] [.int (Int32.ofNat (o + i)), .ref b])) := cl.trans (by
        refine XS.iload Xl.here hexec rfl (hb hbytes d3) rfl ?_
        refine XS.iload Xl.here hexec rfl (hb hbytes d5) rfl ?_
        refine XS.icmpNo Xl.here hexec rfl (hb hbytes d7) rfl (ii_ge_f (lt32 (by omega) (by omega))) ?_
        refine XS.aloadN Xl.here hexec rfl (hb hbytes d10) rfl rfl ?_
        refine XS.iloadN Xl.here hexec rfl (hb hbytes d11) rfl ?_
        exact Steps.refl _)
      have c4 : Steps p.tables e below (s₁.setTop (entryFrame m #[.ref b, .int (Int32.ofNat o), .ref d, .int (Int32.ofNat q), .int (Int32.ofNat len)] 7)) (Tl.setTop (mkF m 13 #[.val (.ref b), .val (.int (Int32.ofNat (o + i))), .val (.ref d), .val (.int (Int32.ofNat (q + i))), .val (.int (Int32.ofNat len)), .val (.int (Int32.ofNat i)), z] [.int (cv A (o + i))])) := c3.trans (by
        refine Xl.aget hexec hAl rfl (hA.get (i := o + i) (by omega)) rfl rfl (hb hbytes d12) ?_
        exact Steps.refl _)
      have c5 : Steps p.tables e below (s₁.setTop (entryFrame m #[.ref b, .int (Int32.ofNat o), .ref d, .int (Int32.ofNat q), .int (Int32.ofNat len)] 7)) (Tl.setTop (mkF m 15 #[.val (.ref b), .val (.int (Int32.ofNat (o + i))), .val (.ref d), .val (.int (Int32.ofNat (q + i))), .val (.int (Int32.ofNat len)), .val (.int (Int32.ofNat i)), .val (.int (cv A (o + i)))] [])) := c4.trans (by
        refine XS.istoreS Xl.here hexec rfl (hb hbytes d13) rfl rfl hz ?_
        exact Steps.refl _)
      have c6 : Steps p.tables e below (s₁.setTop (entryFrame m #[.ref b, .int (Int32.ofNat o), .ref d, .int (Int32.ofNat q), .int (Int32.ofNat len)] 7)) (Tl.setTop (mkF m 31 #[.val (.ref b), .val (.int (Int32.ofNat (o + i))), .val (.ref d), .val (.int (Int32.ofNat (q + i))), .val (.int (Int32.ofNat len)), .val (.int (Int32.ofNat i)), .val (.int (cv A (o + i)))] [.int (lo8 (cv A (o + i))), .int (Int32.ofNat (q + i)), .ref d])) := c5.trans (by
        refine XS.iload Xl.here hexec rfl (hb hbytes d15) rfl ?_
        refine sipushV Xl.here hexec rfl 255 (hb hbytes d17) (by decide) ?_
        refine XS.icmpYes Xl.here hexec rfl (pc0 := 20) rfl (hb hbytes d20) rfl (ii_le_t (hp i (by omega))) (by decide) rfl ?_
        refine XS.aloadN Xl.here hexec rfl (hb hbytes d26) rfl rfl ?_
        refine XS.iloadN Xl.here hexec rfl (hb hbytes d27) rfl ?_
        refine XS.iload Xl.here hexec rfl (hb hbytes d28) rfl ?_
        refine i2b Xl.here hexec rfl (hb hbytes d30) rfl ?_
        exact Steps.refl _)
      obtain ⟨T7, X7, p7, st7⟩ := Xl.aput hexec hBk rfl hlt rfl (fits_lo8 (cv A (o + i))) (g := (mkF m 31 #[.val (.ref b), .val (.int (Int32.ofNat (o + i))), .val (.ref d), .val (.int (Int32.ofNat (q + i))), .val (.int (Int32.ofNat len)), .val (.int (Int32.ofNat i)), .val (.int (cv A (o + i)))] [.int (lo8 (cv A (o + i))), .int (Int32.ofNat (q + i)), .ref d])) rfl (rest := []) rfl (hb hbytes d31)
      have c8 : Steps p.tables e below (s₁.setTop (entryFrame m #[.ref b, .int (Int32.ofNat o), .ref d, .int (Int32.ofNat q), .int (Int32.ofNat len)] 7)) (T7.setTop (mkF m 32 #[.val (.ref b), .val (.int (Int32.ofNat (o + i))), .val (.ref d), .val (.int (Int32.ofNat (q + i))), .val (.int (Int32.ofNat len)), .val (.int (Int32.ofNat i)), .val (.int (cv A (o + i)))] [])) := c6.trans (st7 _ (Steps.refl _))
      have c9 : Steps p.tables e below (s₁.setTop (entryFrame m #[.ref b, .int (Int32.ofNat o), .ref d, .int (Int32.ofNat q), .int (Int32.ofNat len)] 7)) (T7.setTop (mkF m 3 #[.val (.ref b), .val (.int (Int32.ofNat (o + i) + 1)), .val (.ref d), .val (.int (Int32.ofNat (q + i) + 1)), .val (.int (Int32.ofNat len)), .val (.int (Int32.ofNat i + 1)), .val (.int (cv A (o + i)))] [])) := c8.trans (by
        refine iincV X7.here hexec rfl 1 (hb hbytes d32) (by decide) rfl rfl ?_
        refine iincV X7.here hexec rfl 1 (hb hbytes d35) (by decide) rfl rfl ?_
        refine iincV X7.here hexec rfl 1 (hb hbytes d38) (by decide) rfl rfl ?_
        refine XS.goto X7.here hexec rfl (pc0 := 41) rfl (hb hbytes d41) (by decide) rfl ?_
        exact Steps.refl _)
      have c10 : Steps p.tables e below (s₁.setTop (entryFrame m #[.ref b, .int (Int32.ofNat o), .ref d, .int (Int32.ofNat q), .int (Int32.ofNat len)] 7)) (T7.setTop (mkF m 3 #[.val (.ref b), .val (.int (Int32.ofNat (o + (i + 1)))), .val (.ref d), .val (.int (Int32.ofNat (q + (i + 1)))), .val (.int (Int32.ofNat len)), .val (.int (Int32.ofNat (i + 1))), .val (.int (cv A (o + i)))] [])) := by
        have := c9
        rw [succ32, succ32, succ32] at this
        exact this
      exact ih (i + 1) (by omega) _ (Or.inr ⟨_, rfl, rfl⟩) T7 _ (by rw [copyLocs_step, ← List.append_assoc]; exact X7) (pl.trans p7) (fl.step (by omega) hlt (by simp)) c10
  obtain ⟨T9, B9, z9, X9, p9, f9, g9⟩ := loop len 0 (by omega) .unset (Or.inl rfl) s₁ B (by simpa [copyLocs] using X0) ⟨hB0.1, fun _ _ => rfl, rfl⟩ (Laid.zero _ _ _) c2
  have c11 : Steps p.tables e below (s₁.setTop (entryFrame m #[.ref b, .int (Int32.ofNat o), .ref d, .int (Int32.ofNat q), .int (Int32.ofNat len)] 7)) (T9.setTop (mkF m 46 #[.val (.ref b), .val (.int (Int32.ofNat (o + len))), .val (.ref d), .val (.int (Int32.ofNat (q + len))), .val (.int (Int32.ofNat len)), .val (.int (Int32.ofNat len)), z9] [.int (Int32.ofNat len)])) := g9.trans (by
    refine XS.iload X9.here hexec rfl (hb hbytes d3) rfl ?_
    refine XS.iload X9.here hexec rfl (hb hbytes d5) rfl ?_
    refine XS.icmpYes X9.here hexec rfl (pc0 := 7) rfl (hb hbytes d7) rfl (ii_ge_t (nlt32 (by omega) (Nat.le_refl _))) (by decide) rfl ?_
    refine XS.iload X9.here hexec rfl (hb hbytes d44) rfl ?_
    exact Steps.refl _)
  exact ⟨T9, some (.int (Int32.ofNat len)), _, _, _, X9, by simp, rfl, rfl, (fun h => by cases h), ⟨rfl, B9, p9.from hh0, f9⟩, fun fs hl => c11.trans (X9.ireturnOut hexec hret rfl (Or.inl rfl) (hb hbytes d46) hl)⟩
end Cmp5
namespace Cmp3
def yN : MethodName := ⟨"java/lang/StringUTF16", "compress", "([CII)[B"⟩
abbrev yB : ByteArray := jdk_52_method_16_code
theorem d0 : decode yB 0 = .ok (.iload_n 2, 1) := by decide +kernel
theorem d1 : decode yB 1 = .ok (.newarray .byte, 2) := by decide +kernel
theorem d3 : decode yB 3 = .ok (.astore_n 3, 1) := by decide +kernel
theorem d4 : decode yB 4 = .ok (.aload_n 0, 1) := by decide +kernel
theorem d5 : decode yB 5 = .ok (.iload_n 1, 1) := by decide +kernel
theorem d6 : decode yB 6 = .ok (.aload_n 3, 1) := by decide +kernel
theorem d7 : decode yB 7 = .ok (.iconst 0, 1) := by decide +kernel
theorem d8 : decode yB 8 = .ok (.iload_n 2, 1) := by decide +kernel
theorem d9 : decode yB 9 = .ok (.invokestatic 115, 3) := by decide +kernel
theorem d12 : decode yB 12 = .ok (.istore 4, 2) := by decide +kernel
theorem d14 : decode yB 14 = .ok (.iload 4, 2) := by decide +kernel
theorem d16 : decode yB 16 = .ok (.iload_n 2, 1) := by decide +kernel
theorem d17 : decode yB 17 = .ok (.if_icmp (.eq) 40, 3) := by decide +kernel
theorem d57 : decode yB 57 = .ok (.aload_n 3, 1) := by decide +kernel
theorem d58 : decode yB 58 = .ok (.areturn, 1) := by decide +kernel
def site : List Cond := [.arrayClass .byte, Cmp5.tab] ++ staticW U16 115 Cmp5.yN
def tab : Cond := tabOf yN yB 6 (some (.array .byte)) site
def P (b : Addr) (A : Cell) (o len : Nat) (args : Array Value) (s : State) : Prop := args = #[.ref b, .int (Int32.ofNat o), .int (Int32.ofNat len)] ∧ Ch b A s ∧ o + len ≤ A.slots.size ∧ len ≤ 536870912 ∧ ∀ i, i < len → ¬ 255 < cv A (o + i)
def E (b : Addr) (A : Cell) (o len : Nat) (r : Option Value) (s u : State) : Prop := NewArr .byte "[B" len (fun j => .int (lo8 (cv A (o + j)))) r s u ∧ u.heap.size = s.heap.size + 1
/-- no char of the range above 255: a new byte[] of their low bytes -/
theorem law (l : Launch) (b : Addr) (A : Cell) (o len : Nat) : Law l yN 3 3 1 18 yB 6 (some (.array .byte)) site (P b A o len) (E b A o len) [] 1 len := by
  refine Law.of_walk (plainFor_of_name (by decide +kernel)) (by decide +kernel) (by decide +kernel) (by decide) (fun _ _ h => by rw [h.1]; rfl) (fun _ U U' hal hh h => ⟨h.1, h.2.1.mv hal hh, h.2.2⟩) (fun r U U' V V' h1 hal h2 h => ⟨NewArr.mv r U U' V V' h1 hal h2 h.1, by rw [h1, h2]; exact h.2⟩) ?_
  intro p e s m args below meth c s₁ X0 hexec hbytes hml hret hlk hnm hown hh0 W hP
  obtain ⟨rfl, hA, l1, l2, hp⟩ := hP
  have a31 := hA.1.2.2.2
  have c1 : Steps p.tables e below (s₁.setTop (entryFrame m #[.ref b, .int (Int32.ofNat o), .int (Int32.ofNat len)] 6)) (s₁.setTop (mkF m 0 #[.val (.ref b), .val (.int (Int32.ofNat o)), .val (.int (Int32.ofNat len)), .unset, .unset, .unset] [])) := entry rfl
  have c2 : Steps p.tables e below (s₁.setTop (entryFrame m #[.ref b, .int (Int32.ofNat o), .int (Int32.ofNat len)] 6)) (s₁.setTop (mkF m 1 #[.val (.ref b), .val (.int (Int32.ofNat o)), .val (.int (Int32.ofNat len)), .unset, .unset, .unset] [.int (Int32.ofNat len)])) := c1.trans (by
    refine XS.iloadN X0.here hexec rfl (hb hbytes d0) rfl ?_
    exact Steps.refl _)
  obtain ⟨T3, B3, X3, ba3, bs3, bv3, bh3, bf3, st3⟩ := X0.anew hexec (atype := .byte) (wk W (.arrayClass .byte)) rfl (by show len * 1 ≤ _; omega) (by omega) (g := (mkF m 1 #[.val (.ref b), .val (.int (Int32.ofNat o)), .val (.int (Int32.ofNat len)), .unset, .unset, .unset] [.int (Int32.ofNat len)])) rfl (hb hbytes d1) (rest := []) rfl (Nat.le_refl _) (by show 0 + len ≤ len; omega)
  rw [hh0] at ba3 st3
  have kp3 : XT.Kept s T3 := (XT.Kept.of_eq hh0).push bh3
  have hA3 := hA.keep X3.warmed.alike (kp3 _ _ hA.1.1)
  have hne : b ≠ s.heap.size := hA.1.ne
  have c4 : Steps p.tables e below (s₁.setTop (entryFrame m #[.ref b, .int (Int32.ofNat o), .int (Int32.ofNat len)] 6)) (T3.setTop (mkF m 3 #[.val (.ref b), .val (.int (Int32.ofNat o)), .val (.int (Int32.ofNat len)), .unset, .unset, .unset] [.ref s.heap.size])) := c2.trans (st3 _ (Steps.refl _))
  have c5 : Steps p.tables e below (s₁.setTop (entryFrame m #[.ref b, .int (Int32.ofNat o), .int (Int32.ofNat len)] 6)) (T3.setTop (mkF m 9 #[.val (.ref b), .val (.int (Int32.ofNat o)), .val (.int (Int32.ofNat len)), .val (.ref s.heap.size), .unset, .unset] [.int (Int32.ofNat len), .int 0, .ref s.heap.size, .int (Int32.ofNat o), .ref b])) := c4.trans (by
    refine XS.astoreN X3.here hexec rfl (hb hbytes d3) rfl rfl rfl ?_
    refine XS.aloadN X3.here hexec rfl (hb hbytes d4) rfl rfl ?_
    refine XS.iloadN X3.here hexec rfl (hb hbytes d5) rfl ?_
    refine XS.aloadN X3.here hexec rfl (hb hbytes d6) rfl rfl ?_
    refine iconstV X3.here hexec rfl 0 (hb hbytes d7) (by decide) ?_
    refine XS.iloadN X3.here hexec rfl (hb hbytes d8) rfl ?_
    exact Steps.refl _)
  obtain ⟨v6, T6, X6, E6, g6⟩ := X3.callS hexec (Cmp5.law l b A s.heap.size B3 o 0 len) hown (wks W (staticW U16 115 Cmp5.yN)) (wk W Cmp5.tab) (W := 0) (Nat.le_of_ble_eq_true rfl) (Nat.le_of_ble_eq_true rfl) (Nat.le_refl _) (by show 0 + len + 0 ≤ len; omega) (g := (mkF m 9 #[.val (.ref b), .val (.int (Int32.ofNat o)), .val (.int (Int32.ofNat len)), .val (.ref s.heap.size), .unset, .unset] [.int (Int32.ofNat len), .int (Int32.ofNat 0), .ref s.heap.size, .int (Int32.ofNat o), .ref b])) rfl (by rw [hml]; rfl) c5 (argsL := [.ref b, .int (Int32.ofNat o), .ref s.heap.size, .int (Int32.ofNat 0), .int (Int32.ofNat len)]) (rest := []) rfl rfl (by show 2 * 0 + 0 ≤ _; decide) (hb hbytes d9) (⟨rfl, hA3, ba3, hne, l1, by rw [bs3]; simp, hp⟩)
  obtain ⟨rfl, B6, p6, f6⟩ := E6
  have c7 : Steps p.tables e below (s₁.setTop (entryFrame m #[.ref b, .int (Int32.ofNat o), .int (Int32.ofNat len)] 6)) (T6.setTop (mkF m 12 #[.val (.ref b), .val (.int (Int32.ofNat o)), .val (.int (Int32.ofNat len)), .val (.ref s.heap.size), .unset, .unset] [.int (Int32.ofNat len)])) := g6
  have c8 : Steps p.tables e below (s₁.setTop (entryFrame m #[.ref b, .int (Int32.ofNat o), .int (Int32.ofNat len)] 6)) (T6.setTop (mkF m 58 #[.val (.ref b), .val (.int (Int32.ofNat o)), .val (.int (Int32.ofNat len)), .val (.ref s.heap.size), .val (.int (Int32.ofNat len)), .unset] [.ref s.heap.size])) := c7.trans (by
    refine XS.istore X6.here hexec rfl (hb hbytes d12) rfl rfl ?_
    refine XS.iload X6.here hexec rfl (hb hbytes d14) rfl ?_
    refine XS.iloadN X6.here hexec rfl (hb hbytes d16) rfl ?_
    refine XS.icmpYes X6.here hexec rfl (pc0 := 17) rfl (hb hbytes d17) rfl (ii_eq_t rfl) (by decide) rfl ?_
    refine XS.aloadN X6.here hexec rfl (hb hbytes d57) rfl rfl ?_
    exact Steps.refl _)
  have X8 := X6.wide (L' := []) (cells' := 1) (slots' := len) (fun x hx hlt => by
    simp only [List.nil_append, copyLocs, List.mem_map, List.mem_range] at hx
    obtain ⟨i, -, rfl⟩ := hx
    exact absurd hlt (Nat.lt_irrefl _)) (Nat.le_refl _) (by omega)
  exact ⟨T6, some (.ref s.heap.size), _, _, _, X8, rfl, rfl, rfl, (fun h => by cases h), ⟨⟨rfl, B6, ba3.like (X3.warmed.alike.symm.trans X6.warmed.alike) p6.1 f6.1 f6.2.1 f6.2.2.1, f6.2.1.trans bv3, by rw [X6.warmed.alike.findClass, f6.1]; exact bf3, by rw [f6.2.2.1, bs3]; simp, fun j hj => by rw [f6.2.2.2 j, if_pos (by omega)]; rfl, kp3.put p6 (Nat.le_refl _)⟩, by rw [p6.2.2, bh3, hh0]; simp⟩, fun fs hl => c8.trans (X8.areturnOut hexec rfl hret rfl (hb hbytes d58) hl)⟩
end Cmp3
namespace CodL
def yN : MethodName := ⟨"java/lang/StringUTF16", "coderFromArrayLen", "([BI)B"⟩
abbrev yB : ByteArray := jdk_52_method_15_code
theorem d0 : decode yB 0 = .ok (.iload_n 1, 1) := by decide +kernel
theorem d1 : decode yB 1 = .ok (.aload_n 0, 1) := by decide +kernel
theorem d2 : decode yB 2 = .ok (.arraylength, 1) := by decide +kernel
theorem d3 : decode yB 3 = .ok (.isub, 1) := by decide +kernel
theorem d4 : decode yB 4 = .ok (.bipush 31, 2) := by decide +kernel
theorem d6 : decode yB 6 = .ok (.iushr, 1) := by decide +kernel
theorem d7 : decode yB 7 = .ok (.i2b, 1) := by decide +kernel
theorem d8 : decode yB 8 = .ok (.ireturn, 1) := by decide +kernel
def site : List Cond := []
def tab : Cond := tabOf yN yB 2 (some .byte) site
def P (d : Addr) (B : Cell) (args : Array Value) (s : State) : Prop := args = #[.ref d, .int (Int32.ofNat B.slots.size)] ∧ Arr .byte d B s
def E (r : Option Value) (s u : State) : Prop := XT.PureE (some (.int 0)) r s u
/-- an array as long as the number of chars: LATIN1 -/
theorem law (l : Launch) (d : Addr) (B : Cell) : Law l yN 2 2 0 0 yB 2 (some .byte) site (P d B) E [] 0 0 := by
  refine Law.of_walk (plainFor_of_name (by decide +kernel)) (by decide +kernel) (by decide +kernel) (by decide) (fun _ _ h => by rw [h.1]; rfl) (fun _ U U' hal hh h => ⟨h.1, h.2.mv hal hh⟩) (fun r U U' V V' h1 hal h2 h => XT.PureE.mv r U U' V V' h1 hal h2 h) ?_
  intro p e s m args below meth c s₁ X0 hexec hbytes hml hret hlk hnm hown hh0 W hP
  obtain ⟨rfl, hB⟩ := hP
  have hB0 := hB.mv X0.warmed.alike hh0
  have c1 : Steps p.tables e below (s₁.setTop (entryFrame m #[.ref d, .int (Int32.ofNat B.slots.size)] 2)) (s₁.setTop (mkF m 0 #[.val (.ref d), .val (.int (Int32.ofNat B.slots.size))] [])) := entry rfl
  have c2 : Steps p.tables e below (s₁.setTop (entryFrame m #[.ref d, .int (Int32.ofNat B.slots.size)] 2)) (s₁.setTop (mkF m 2 #[.val (.ref d), .val (.int (Int32.ofNat B.slots.size))] [.ref d, .int (Int32.ofNat B.slots.size)])) := c1.trans (by
    refine XS.iloadN X0.here hexec rfl (hb hbytes d0) rfl ?_
    refine XS.aloadN X0.here hexec rfl (hb hbytes d1) rfl rfl ?_
    exact Steps.refl _)
  have c3 : Steps p.tables e below (s₁.setTop (entryFrame m #[.ref d, .int (Int32.ofNat B.slots.size)] 2)) (s₁.setTop (mkF m 8 #[.val (.ref d), .val (.int (Int32.ofNat B.slots.size))] [.int (lo8 (ushr (Int32.ofNat B.slots.size - Int32.ofNat B.slots.size) 31))])) := c2.trans (by
    refine X0.alen hexec hB0 rfl rfl (hb hbytes d2) ?_
    refine XS.isub X0.here hexec rfl (hb hbytes d3) rfl ?_
    refine bipushV X0.here hexec rfl 31 (hb hbytes d4) (by decide) ?_
    refine iushr X0.here hexec rfl (hb hbytes d6) rfl ?_
    refine i2b X0.here hexec rfl (hb hbytes d7) rfl ?_
    exact Steps.refl _)
  have e0 : lo8 (ushr (Int32.ofNat B.slots.size - Int32.ofNat B.slots.size) 31) = 0 := by rw [Int32.sub_self]; decide
  rw [e0] at c3
  exact ⟨s₁, some (.int 0), _, _, _, X0, rfl, rfl, rfl, (fun h => by cases h), ⟨rfl, hh0⟩, fun fs hl => c3.trans (X0.ireturnOut hexec hret rfl (Or.inr (Or.inr (Or.inl rfl))) (hb hbytes d8) hl)⟩
end CodL
/-- the String at a is Latin-1 over a new byte[] (the heap's one new cell): the low bytes of the len chars of A from o on; every cell but a is kept -/
def Got (a : Addr) (D : Cell) (fV fC : Field) (A : Cell) (o len : Nat) (r : Option Value) (s u : State) : Prop := r = none ∧ ∃ D' V : Cell, Blank "java/lang/String" a D' u ∧ Same D D' [fV.slot, fC.slot] ∧ D'.slots[fV.slot]? = some (.ref s.heap.size) ∧ D'.slots[fC.slot]? = some (.int 0) ∧ Arr .byte s.heap.size V u ∧ V.vm = .none ∧ u.vm.findClass "[B" = some V.cls ∧ V.slots.size = len ∧ (∀ j, j < len → V.slots[j]? = some (.int (lo8 (cv A (o + j))))) ∧ (∀ (y : Addr) (c : Cell), y ≠ a → s.heap[y]? = some c → u.heap[y]? = some c) ∧ u.heap.size = s.heap.size + 1
theorem Got.mv {a : Addr} {D A : Cell} {fV fC : Field} {o len : Nat} : ∀ r (U U' V V' : State), U'.heap = U.heap → V.vm.Alike V'.vm → V'.heap = V.heap → Got a D fV fC A o len r U V → Got a D fV fC A o len r U' V' :=
  fun r U U' V V' h1 hal h2 ⟨e0, D', X, a1, a2, a3, a4, a5, a6, a7, a8, a9, a10, a11⟩ => ⟨e0, D', X, a1.mv hal h2, a2, by rw [h1]; exact a3, a4, by rw [h1]; exact a5.mv hal h2, a6, by rw [hal.findClass]; exact a7, a8, a9, by rw [h1, h2]; exact a10, by rw [h1, h2]; exact a11⟩
namespace New4
def yN : MethodName := ⟨"java/lang/String", "<init>", "([CIILjava/lang/Void;)V"⟩
abbrev yB : ByteArray := jdk_42_method_149_code
theorem d0 : decode yB 0 = .ok (.aload_n 0, 1) := by decide +kernel
theorem d1 : decode yB 1 = .ok (.invokespecial 1, 3) := by decide +kernel
theorem d4 : decode yB 4 = .ok (.iload_n 3, 1) := by decide +kernel
theorem d5 : decode yB 5 = .ok (.ifCond (.ne) 22, 3) := by decide +kernel
theorem d27 : decode yB 27 = .ok (.getstatic 38, 3) := by decide +kernel
theorem d30 : decode yB 30 = .ok (.ifCond (.eq) 28, 3) := by decide +kernel
theorem d33 : decode yB 33 = .ok (.aload_n 1, 1) := by decide +kernel
theorem d34 : decode yB 34 = .ok (.iload_n 2, 1) := by decide +kernel
theorem d35 : decode yB 35 = .ok (.iload_n 3, 1) := by decide +kernel
theorem d36 : decode yB 36 = .ok (.invokestatic 177, 3) := by decide +kernel
theorem d39 : decode yB 39 = .ok (.astore 5, 2) := by decide +kernel
theorem d41 : decode yB 41 = .ok (.aload_n 0, 1) := by decide +kernel
theorem d42 : decode yB 42 = .ok (.aload 5, 2) := by decide +kernel
theorem d44 : decode yB 44 = .ok (.iload_n 3, 1) := by decide +kernel
theorem d45 : decode yB 45 = .ok (.invokestatic 47, 3) := by decide +kernel
theorem d48 : decode yB 48 = .ok (.putfield 15, 3) := by decide +kernel
theorem d51 : decode yB 51 = .ok (.aload_n 0, 1) := by decide +kernel
theorem d52 : decode yB 52 = .ok (.aload 5, 2) := by decide +kernel
theorem d54 : decode yB 54 = .ok (.putfield 9, 3) := by decide +kernel
theorem d57 : decode yB 57 = .ok (.return_, 1) := by decide +kernel
def site : List Cond := [.fieldLink "java/lang/String" 38 "java/lang/String" "COMPACT_STRINGS" "Z", Cmp3.tab, CodL.tab, .laysFinal "java/lang/String" "java/lang/String" "value" "[B", .fieldLink "java/lang/String" 9 "java/lang/String" "value" "[B", .laysFinal "java/lang/String" "java/lang/String" "coder" "B", .fieldLink "java/lang/String" 15 "java/lang/String" "coder" "B"] ++ objW "java/lang/String" 1 ++ staticW "java/lang/String" 177 Cmp3.yN ++ staticW "java/lang/String" 47 CodL.yN
def tab : Cond := tabOf yN yB 6 none site
def P (a : Addr) (D : Cell) (fV fC : Field) (b : Addr) (A : Cell) (z : Int32) (o len : Nat) (args : Array Value) (s : State) : Prop := args = #[.ref a, .ref b, .int (Int32.ofNat o), .int (Int32.ofNat len), .null] ∧ Blank "java/lang/String" a D s ∧ Found "java/lang/String" "value" "[B" fV s ∧ Found "java/lang/String" "coder" "B" fC s ∧ Ch b A s ∧ StaticIs s "java/lang/String" "COMPACT_STRINGS" "Z" (.int z) ∧ ¬ z = 0 ∧ 0 < len ∧ o + len ≤ A.slots.size ∧ len ≤ 536870912 ∧ ∀ i, i < len → ¬ 255 < cv A (o + i)
def E (a : Addr) (D : Cell) (fV fC : Field) (A : Cell) (o len : Nat) (r : Option Value) (s u : State) : Prop := Got a D fV fC A o len r s u
/-- len > 0, no char of the range above 255: a Latin-1 String of their low bytes -/
theorem law (l : Launch) (a : Addr) (D : Cell) (fV fC : Field) (b : Addr) (A : Cell) (z : Int32) (o len : Nat) : Law l yN 5 4 2 35 yB 6 none site (P a D fV fC b A z o len) (E a D fV fC A o len) [⟨a, fC.slot⟩, ⟨a, fV.slot⟩] 1 len := by
  refine Law.of_walk (plainFor_of_name (by decide +kernel)) (by decide +kernel) (by decide +kernel) (by decide) (fun _ _ h => by rw [h.1]; rfl) (fun _ U U' hal hh h => ⟨h.1, h.2.1.mv hal hh, h.2.2.1.al hal, h.2.2.2.1.al hal, h.2.2.2.2.1.mv hal hh, h.2.2.2.2.2.1.there hal hh, h.2.2.2.2.2.2⟩) (fun r U U' V V' h1 hal h2 h => Got.mv r U U' V V' h1 hal h2 h) ?_
  intro p e s m args below meth c s₁ X0 hexec hbytes hml hret hlk hnm hown hh0 W hP
  obtain ⟨rfl, hB, f1, f2, hA, s1, hz, l0, l1, l2, hp⟩ := hP
  have a31 := hA.1.2.2.2
  have c1 : Steps p.tables e below (s₁.setTop (entryFrame m #[.ref a, .ref b, .int (Int32.ofNat o), .int (Int32.ofNat len), .null] 6)) (s₁.setTop (mkF m 0 #[.val (.ref a), .val (.ref b), .val (.int (Int32.ofNat o)), .val (.int (Int32.ofNat len)), .val .null, .unset] [])) := entry rfl
  have c2 : Steps p.tables e below (s₁.setTop (entryFrame m #[.ref a, .ref b, .int (Int32.ofNat o), .int (Int32.ofNat len), .null] 6)) (s₁.setTop (mkF m 1 #[.val (.ref a), .val (.ref b), .val (.int (Int32.ofNat o)), .val (.int (Int32.ofNat len)), .val .null, .unset] [.ref a])) := c1.trans (by
    refine XS.aloadN X0.here hexec rfl (hb hbytes d0) rfl rfl ?_
    exact Steps.refl _)
  obtain ⟨T3, X3, q3, st3⟩ := X0.oinit hexec hown (wks W (objW "java/lang/String" 1)) (g := (mkF m 1 #[.val (.ref a), .val (.ref b), .val (.int (Int32.ofNat o)), .val (.int (Int32.ofNat len)), .val .null, .unset] [.ref a])) rfl (by rw [hml]; rfl) (rest := []) rfl (hb hbytes d1) (W := 0) (by show 2 * 0 + 0 ≤ _; decide) (Nat.le_of_ble_eq_true rfl) (Nat.le_of_ble_eq_true rfl)
  have hh3 := q3.trans hh0
  have c4 : Steps p.tables e below (s₁.setTop (entryFrame m #[.ref a, .ref b, .int (Int32.ofNat o), .int (Int32.ofNat len), .null] 6)) (T3.setTop (mkF m 27 #[.val (.ref a), .val (.ref b), .val (.int (Int32.ofNat o)), .val (.int (Int32.ofNat len)), .val .null, .unset] [])) := (c2.trans (st3 _ (Steps.refl _))).trans (by
    refine XS.iloadN X3.here hexec rfl (hb hbytes d4) rfl ?_
    refine XS.ifYes X3.here hexec rfl (pc0 := 5) rfl (hb hbytes d5) rfl (i0_ne_t (nz32 (by omega) l0)) (by decide) rfl ?_
    exact Steps.refl _)
  obtain ⟨T5, X5, q5, st5⟩ := X3.sget hexec hown (wk W (.fieldLink "java/lang/String" 38 "java/lang/String" "COMPACT_STRINGS" "Z")) s1 (fun _ _ h => by rw [hh3]; exact h) (g := (mkF m 27 #[.val (.ref a), .val (.ref b), .val (.int (Int32.ofNat o)), .val (.int (Int32.ofNat len)), .val .null, .unset] [])) rfl (hb hbytes d27)
  have hh5 := q5.trans hh3
  have c6 : Steps p.tables e below (s₁.setTop (entryFrame m #[.ref a, .ref b, .int (Int32.ofNat o), .int (Int32.ofNat len), .null] 6)) (T5.setTop (mkF m 30 #[.val (.ref a), .val (.ref b), .val (.int (Int32.ofNat o)), .val (.int (Int32.ofNat len)), .val .null, .unset] [.int z])) := c4.trans (st5 _ (Steps.refl _))
  have c7 : Steps p.tables e below (s₁.setTop (entryFrame m #[.ref a, .ref b, .int (Int32.ofNat o), .int (Int32.ofNat len), .null] 6)) (T5.setTop (mkF m 36 #[.val (.ref a), .val (.ref b), .val (.int (Int32.ofNat o)), .val (.int (Int32.ofNat len)), .val .null, .unset] [.int (Int32.ofNat len), .int (Int32.ofNat o), .ref b])) := c6.trans (by
    refine XS.ifNo X5.here hexec rfl (hb hbytes d30) rfl (i0_eq_f hz) ?_
    refine XS.aloadN X5.here hexec rfl (hb hbytes d33) rfl rfl ?_
    refine XS.iloadN X5.here hexec rfl (hb hbytes d34) rfl ?_
    refine XS.iloadN X5.here hexec rfl (hb hbytes d35) rfl ?_
    exact Steps.refl _)
  obtain ⟨v8, T8, X8, E8, g8⟩ := X5.callS hexec (Cmp3.law l b A o len) hown (wks W (staticW "java/lang/String" 177 Cmp3.yN)) (wk W Cmp3.tab) (W := 0) (Nat.le_of_ble_eq_true rfl) (Nat.le_of_ble_eq_true rfl) (Nat.le_refl _) (by show 0 + len ≤ len; omega) (g := (mkF m 36 #[.val (.ref a), .val (.ref b), .val (.int (Int32.ofNat o)), .val (.int (Int32.ofNat len)), .val .null, .unset] [.int (Int32.ofNat len), .int (Int32.ofNat o), .ref b])) rfl (by rw [hml]; rfl) c7 (argsL := [.ref b, .int (Int32.ofNat o), .int (Int32.ofNat len)]) (rest := []) rfl rfl (by show 2 * 0 + 0 ≤ _; decide) (hb hbytes d36) (⟨rfl, hA.mv X5.warmed.alike hh5, l1, l2, hp⟩)
  obtain ⟨e8, z8⟩ := E8
  obtain ⟨rfl, N, n1, n2, n3, n4, n5, n6⟩ := NewArr.mv _ T5 s _ _ hh5.symm (Vm.Alike.refl _) rfl e8
  rw [hh5] at z8
  have hB1 := hB.keep X8.warmed.alike (n6 _ _ hB.1)
  have hne : s.heap.size ≠ a := (Nat.ne_of_lt (Array.getElem?_eq_some_iff.mp hB.1).1).symm
  have c9 : Steps p.tables e below (s₁.setTop (entryFrame m #[.ref a, .ref b, .int (Int32.ofNat o), .int (Int32.ofNat len), .null] 6)) (T8.setTop (mkF m 39 #[.val (.ref a), .val (.ref b), .val (.int (Int32.ofNat o)), .val (.int (Int32.ofNat len)), .val .null, .unset] [.ref s.heap.size])) := g8
  have c10 : Steps p.tables e below (s₁.setTop (entryFrame m #[.ref a, .ref b, .int (Int32.ofNat o), .int (Int32.ofNat len), .null] 6)) (T8.setTop (mkF m 45 #[.val (.ref a), .val (.ref b), .val (.int (Int32.ofNat o)), .val (.int (Int32.ofNat len)), .val .null, .val (.ref s.heap.size)] [.int (Int32.ofNat N.slots.size), .ref s.heap.size, .ref a])) := by
    have hc : Steps p.tables e below (s₁.setTop (entryFrame m #[.ref a, .ref b, .int (Int32.ofNat o), .int (Int32.ofNat len), .null] 6)) (T8.setTop (mkF m 45 #[.val (.ref a), .val (.ref b), .val (.int (Int32.ofNat o)), .val (.int (Int32.ofNat len)), .val .null, .val (.ref s.heap.size)] [.int (Int32.ofNat len), .ref s.heap.size, .ref a])) := c9.trans (by
      refine XS.astore X8.here hexec rfl (hb hbytes d39) rfl rfl rfl ?_
      refine XS.aloadN X8.here hexec rfl (hb hbytes d41) rfl rfl ?_
      refine XS.aload X8.here hexec rfl (hb hbytes d42) rfl rfl ?_
      refine XS.iloadN X8.here hexec rfl (hb hbytes d44) rfl ?_
      exact Steps.refl _)
    rw [n4]; exact hc
  obtain ⟨v11, T11, X11, E11, g11⟩ := X8.callS hexec (CodL.law l s.heap.size N) hown (wks W (staticW "java/lang/String" 47 CodL.yN)) (wk W CodL.tab) (W := 1) (Nat.le_of_ble_eq_true rfl) (Nat.le_of_ble_eq_true rfl) (Nat.le_refl _) (by show 0 + len + 0 ≤ len; omega) (g := (mkF m 45 #[.val (.ref a), .val (.ref b), .val (.int (Int32.ofNat o)), .val (.int (Int32.ofNat len)), .val .null, .val (.ref s.heap.size)] [.int (Int32.ofNat N.slots.size), .ref s.heap.size, .ref a])) rfl (by rw [hml]; rfl) c10 (argsL := [.ref s.heap.size, .int (Int32.ofNat N.slots.size)]) (rest := [.ref a]) rfl rfl (by show 2 * 0 + (1 + 0) ≤ _; decide) (hb hbytes d45) (⟨rfl, n1⟩)
  obtain ⟨rfl, q11⟩ := E11
  have hB11 := hB1.mv (X8.warmed.alike.symm.trans X11.warmed.alike) q11
  have c12 : Steps p.tables e below (s₁.setTop (entryFrame m #[.ref a, .ref b, .int (Int32.ofNat o), .int (Int32.ofNat len), .null] 6)) (T11.setTop (mkF m 48 #[.val (.ref a), .val (.ref b), .val (.int (Int32.ofNat o)), .val (.int (Int32.ofNat len)), .val .null, .val (.ref s.heap.size)] [.int 0, .ref a])) := g11
  obtain ⟨T13, X13, p13, bl13, sl13, st13⟩ := X11.finit hexec hown (wk W (.fieldLink "java/lang/String" 15 "java/lang/String" "coder" "B")) (Or.inr ⟨_, (wk W (.laysFinal "java/lang/String" "java/lang/String" "coder" "B"))⟩) (Or.inl ⟨rfl, hnm⟩) f2 (Or.inl rfl) hB11 (t := .byte) (by decide +kernel) rfl (g := (mkF m 48 #[.val (.ref a), .val (.ref b), .val (.int (Int32.ofNat o)), .val (.int (Int32.ofNat len)), .val .null, .val (.ref s.heap.size)] [.int 0, .ref a])) rfl (rest := []) rfl (hb hbytes d48)
  have c14 : Steps p.tables e below (s₁.setTop (entryFrame m #[.ref a, .ref b, .int (Int32.ofNat o), .int (Int32.ofNat len), .null] 6)) (T13.setTop (mkF m 54 #[.val (.ref a), .val (.ref b), .val (.int (Int32.ofNat o)), .val (.int (Int32.ofNat len)), .val .null, .val (.ref s.heap.size)] [.ref s.heap.size, .ref a])) := (c12.trans (st13 _ (Steps.refl _))).trans (by
    refine XS.aloadN X13.here hexec rfl (hb hbytes d51) rfl rfl ?_
    refine XS.aload X13.here hexec rfl (hb hbytes d52) rfl rfl ?_
    exact Steps.refl _)
  obtain ⟨T15, X15, p15, bl15, sl15, st15⟩ := X13.finit hexec hown (wk W (.fieldLink "java/lang/String" 9 "java/lang/String" "value" "[B")) (Or.inr ⟨_, (wk W (.laysFinal "java/lang/String" "java/lang/String" "value" "[B"))⟩) (Or.inl ⟨rfl, hnm⟩) f1 (Or.inl rfl) bl13 (t := (.array .byte)) (by decide +kernel) rfl (g := (mkF m 54 #[.val (.ref a), .val (.ref b), .val (.int (Int32.ofNat o)), .val (.int (Int32.ofNat len)), .val .null, .val (.ref s.heap.size)] [.ref s.heap.size, .ref a])) rfl (rest := []) rfl (hb hbytes d54)
  have c16 : Steps p.tables e below (s₁.setTop (entryFrame m #[.ref a, .ref b, .int (Int32.ofNat o), .int (Int32.ofNat len), .null] 6)) (T15.setTop (mkF m 57 #[.val (.ref a), .val (.ref b), .val (.int (Int32.ofNat o)), .val (.int (Int32.ofNat len)), .val .null, .val (.ref s.heap.size)] [])) := c14.trans (st15 _ (Steps.refl _))
  have ap := apart (Or.inr ⟨_, (wk W (.laysFinal "java/lang/String" "java/lang/String" "value" "[B"))⟩) (Or.inr ⟨_, (wk W (.laysFinal "java/lang/String" "java/lang/String" "coder" "B"))⟩) f1 f2 (t₁ := .array .byte) (t₂ := .byte) (by decide +kernel) (by decide +kernel) (by decide)
  have al := X8.warmed.alike.symm.trans X15.warmed.alike
  have n7 : T11.heap[s.heap.size]? = some N := by rw [q11]; exact n1.1
  exact ⟨T15, none, _, _, _, X15, by simp, rfl, by omega, (fun _ => rfl), ⟨rfl, _, N, bl15, ((Same.refl D _).set _ (by simp)).set _ (by simp), sl15, (Cell.slots_setSlot_ne _ ap).trans sl13, n1.keep al (p15.other hne (p13.other hne n7)), n2, by rw [al.findClass]; exact n3, n4, n5, fun y c h1 h2 => p15.other h1 (p13.other h1 (by rw [q11]; exact n6 y c h2)), by rw [p15.2.2, p13.2.2, q11]; exact z8⟩, fun fs hl => c16.trans (X15.returnOut hexec hret (hb hbytes d57) hl)⟩
end New4
namespace New1
def yN : MethodName := ⟨"java/lang/String", "<init>", "([C)V"⟩
abbrev yB : ByteArray := jdk_42_method_3_code
theorem d0 : decode yB 0 = .ok (.aload_n 0, 1) := by decide +kernel
theorem d1 : decode yB 1 = .ok (.aload_n 1, 1) := by decide +kernel
theorem d2 : decode yB 2 = .ok (.iconst 0, 1) := by decide +kernel
theorem d3 : decode yB 3 = .ok (.aload_n 1, 1) := by decide +kernel
theorem d4 : decode yB 4 = .ok (.arraylength, 1) := by decide +kernel
theorem d5 : decode yB 5 = .ok (.aconst_null, 1) := by decide +kernel
theorem d6 : decode yB 6 = .ok (.invokespecial 27, 3) := by decide +kernel
theorem d9 : decode yB 9 = .ok (.return_, 1) := by decide +kernel
def site : List Cond := [New4.tab] ++ initW "java/lang/String" 27 New4.yN
def tab : Cond := tabOf yN yB 2 none site
def P (a : Addr) (D : Cell) (fV fC : Field) (b : Addr) (A : Cell) (z : Int32) (args : Array Value) (s : State) : Prop := args = #[.ref a, .ref b] ∧ Blank "java/lang/String" a D s ∧ Found "java/lang/String" "value" "[B" fV s ∧ Found "java/lang/String" "coder" "B" fC s ∧ Ch b A s ∧ StaticIs s "java/lang/String" "COMPACT_STRINGS" "Z" (.int z) ∧ ¬ z = 0 ∧ 0 < A.slots.size ∧ A.slots.size ≤ 536870912 ∧ ∀ i, i < A.slots.size → ¬ 255 < cv A i
def E (a : Addr) (D : Cell) (fV fC : Field) (A : Cell) (r : Option Value) (s u : State) : Prop := Got a D fV fC A 0 A.slots.size r s u
/-- new String(chars), not empty, no char above 255: a Latin-1 String of their low bytes -/
theorem law (l : Launch) (a : Addr) (D : Cell) (fV fC : Field) (b : Addr) (A : Cell) (z : Int32) : Law l yN 2 1 3 52 yB 2 none site (P a D fV fC b A z) (E a D fV fC A) [⟨a, fC.slot⟩, ⟨a, fV.slot⟩] 1 A.slots.size := by
  refine Law.of_walk (plainFor_of_name (by decide +kernel)) (by decide +kernel) (by decide +kernel) (by decide) (fun _ _ h => by rw [h.1]; rfl) (fun _ U U' hal hh h => ⟨h.1, h.2.1.mv hal hh, h.2.2.1.al hal, h.2.2.2.1.al hal, h.2.2.2.2.1.mv hal hh, h.2.2.2.2.2.1.there hal hh, h.2.2.2.2.2.2⟩) (fun r U U' V V' h1 hal h2 h => Got.mv r U U' V V' h1 hal h2 h) ?_
  intro p e s m args below meth c s₁ X0 hexec hbytes hml hret hlk hnm hown hh0 W hP
  obtain ⟨rfl, hB, f1, f2, hA, s1, hz, l0, l2, hp⟩ := hP
  have c1 : Steps p.tables e below (s₁.setTop (entryFrame m #[.ref a, .ref b] 2)) (s₁.setTop (mkF m 0 #[.val (.ref a), .val (.ref b)] [])) := entry rfl
  have c2 : Steps p.tables e below (s₁.setTop (entryFrame m #[.ref a, .ref b] 2)) (s₁.setTop (mkF m 6 #[.val (.ref a), .val (.ref b)] [.null, .int (Int32.ofNat A.slots.size), .int 0, .ref b, .ref a])) := c1.trans (by
    refine XS.aloadN X0.here hexec rfl (hb hbytes d0) rfl rfl ?_
    refine XS.aloadN X0.here hexec rfl (hb hbytes d1) rfl rfl ?_
    refine iconstV X0.here hexec rfl 0 (hb hbytes d2) (by decide) ?_
    refine XS.aloadN X0.here hexec rfl (hb hbytes d3) rfl rfl ?_
    refine X0.alen hexec (hA.1.mv X0.warmed.alike hh0) rfl rfl (hb hbytes d4) ?_
    refine XS.aconstNull X0.here hexec rfl (hb hbytes d5) ?_
    exact Steps.refl _)
  obtain ⟨v3, T3, X3, E3, g3⟩ := X0.callN hexec (New4.law l a D fV fC b A z 0 A.slots.size) rfl hown (wks W (initW "java/lang/String" 27 New4.yN)) (W New4.tab (by simp only [site, List.mem_cons, List.mem_append, true_or, or_true])) (W := 0) (Nat.le_of_ble_eq_true rfl) (Nat.le_of_ble_eq_true rfl) (Nat.le_refl _) (by show 0 + A.slots.size ≤ A.slots.size; omega) (g := (mkF m 6 #[.val (.ref a), .val (.ref b)] [.null, .int (Int32.ofNat A.slots.size), .int (Int32.ofNat 0), .ref b, .ref a])) rfl (by rw [hml]; rfl) c2 (argsL := [.ref b, .int (Int32.ofNat 0), .int (Int32.ofNat A.slots.size), .null]) (rest := []) rfl rfl (by show 2 * 0 + 0 ≤ _; decide) (hb hbytes d6) (⟨rfl, hB.mv X0.warmed.alike hh0, f1.al X0.warmed.alike, f2.al X0.warmed.alike, hA.mv X0.warmed.alike hh0, s1.there X0.warmed.alike hh0, hz, l0, by omega, l2, fun i hi => by rw [Nat.zero_add]; exact hp i hi⟩)
  have e0 := Got.mv _ s₁ s _ _ hh0.symm (Vm.Alike.refl _) rfl E3
  obtain rfl := e0.1
  have c4 : Steps p.tables e below (s₁.setTop (entryFrame m #[.ref a, .ref b] 2)) (T3.setTop (mkF m 9 #[.val (.ref a), .val (.ref b)] [])) := g3
  exact ⟨T3, none, _, _, _, X3, by simp, rfl, by omega, (fun _ => rfl), e0, fun fs hl => c4.trans (X3.returnOut hexec hret (hb hbytes d9) hl)⟩
theorem pays {l : Launch} {R : Room} {p : Program} {e : Env} {below : List Frame} {s : State} {sargs : Array Value} {len W : Nat} (a : Addr) (D : Cell) (fV fC : Field) (b : Addr) (A : Cell) (z : Int32) (htab : tab.before sargs s = true) (hfr : 4 ≤ R.frames) (hlo : W + 65 ≤ R.locals) :
    Back l R p e below s sargs yN len W (fun A₁ a₁ => A₁.cells + 1 ≤ R.cells ∧ A₁.slots + A.slots.size ≤ R.slots ∧ P a D fV fC b A z a₁ A₁.U) (fun A₁ _ v₁ B₁ => E a D fV fC A v₁ A₁.U B₁.U ∧ B₁.locs = A₁.locs ++ [⟨a, fC.slot⟩, ⟨a, fV.slot⟩] ∧ B₁.cells = A₁.cells + 1 ∧ B₁.slots = A₁.slots + A.slots.size) :=
  (law l a D fV fC b A z).pays htab hfr (by omega)
end New1
end StrChars
namespace StrChars.Road
open Jvm Sem ClassFile Op Lib Jvm.Stand Jvm.Free Jvm.Free.XT
open Jvm.Lib.Cold (StaticIs)
abbrev ST : String := "java/lang/String"
/-- every table word that New1's law asks, flat -/
abbrev words : List Jvm.Cond := [.code New1.yN New1.yB 2 none, .initialized ST, .methodLink ST 27 New4.yN, .instanceMethod New4.yN,
  .code New4.yN New4.yB 6 none, .fieldLink ST 38 ST "COMPACT_STRINGS" "Z", .laysFinal ST ST "value" "[B", .fieldLink ST 9 ST "value" "[B", .laysFinal ST ST "coder" "B", .fieldLink ST 15 ST "coder" "B",
  .methodLink ST 1 Lib.objectInit, .instanceMethod Lib.objectInit, .code Lib.objectInit ⟨#[0xb1]⟩ 1 none, .methodLink ST 177 Cmp3.yN, .static Cmp3.yN, .methodLink ST 47 CodL.yN, .static CodL.yN,
  .code Cmp3.yN Cmp3.yB 6 (some (.array .byte)), .initialized U16, .arrayClass .byte, .methodLink U16 115 Cmp5.yN, .static Cmp5.yN, .code Cmp5.yN Cmp5.yB 7 (some .int), .code CodL.yN CodL.yB 2 (some .byte)]
theorem tab_of {a : Array Value} {s : State} (h : ∀ w ∈ words, w.before a s = true) : New1.tab.before a s = true := by
  have h5 : Cmp5.tab.before a s = true := unparts (wk h (.code Cmp5.yN Cmp5.yB 7 (some .int))) (wks h (.initialized Cmp5.yN.cls :: Cmp5.site))
  have hc : CodL.tab.before a s = true := unparts (wk h (.code CodL.yN CodL.yB 2 (some .byte))) (wks h (.initialized CodL.yN.cls :: CodL.site))
  have q5 : ∀ w ∈ Cmp5.tab :: words, w.before a s = true := fun w hw => (List.mem_cons.mp hw).elim (fun e => e ▸ h5) (h w)
  have h3 : Cmp3.tab.before a s = true := unparts (wk q5 (.code Cmp3.yN Cmp3.yB 6 (some (.array .byte)))) (wks q5 (.initialized Cmp3.yN.cls :: Cmp3.site))
  have q3 : ∀ w ∈ Cmp3.tab :: CodL.tab :: words, w.before a s = true := fun w hw => (List.mem_cons.mp hw).elim (fun e => e ▸ h3) fun hw => (List.mem_cons.mp hw).elim (fun e => e ▸ hc) (h w)
  have h4 : New4.tab.before a s = true := unparts (wk q3 (.code New4.yN New4.yB 6 none)) (wks q3 (.initialized New4.yN.cls :: New4.site))
  have q4 : ∀ w ∈ New4.tab :: words, w.before a s = true := fun w hw => (List.mem_cons.mp hw).elim (fun e => e ▸ h4) (h w)
  exact unparts (wk q4 (.code New1.yN New1.yB 2 none)) (wks q4 (.initialized New1.yN.cls :: New1.site))
/-- the words ride from the start Z to the walk's own state -/
theorem moved {Z s : State} {a0 args : Array Value} (hZ : Z.Warmed39 s.vm) (hw : ∀ d ∈ words, d.before a0 Z = true) : ∀ d ∈ words, d.before args s = true := fun d hd => by
  have q := hw d hd
  have t : ∀ d ∈ words, d = .arrayClass .byte ∨ (d.onTables && d.keepsFace) = true := by decide +kernel
  rcases t d hd with rfl | t
  · exact RoadKit.mvA hZ q
  · exact RoadKit.mv hZ q t
/-- WHAT COMES BACK, over the tables of the start Z: h the heap at the call, h' behind it -/
def Q (Z : State) (x : Addr) (A : Cell) (h : Heap) (v : Option Value) (h' : Heap) (L : List Loc) : Prop := v = none ∧ (∀ y ∈ L, y.base = x) ∧ RoadKit.Keep h h' [x] ∧ h'.size = h.size + 1 ∧ RoadKit.Exa Z h' x ST ∧ RoadKit.Fld Z h' x ST "value" "[B" (.ref h.size) ∧ RoadKit.Fld Z h' x ST "coder" "B" (.int 0) ∧
  (∃ V : Cell, RoadKit.Arr Z h' h.size V .byte ∧ V.vm = .none ∧ Z.vm.findClass "[B" = some V.cls ∧ V.slots.size = A.slots.size ∧ ∀ j, j < A.slots.size → V.slots[j]? = some (.int (lo8 (cv A j)))) ∧
  ∀ (O n d : String) (w : Value), RoadKit.Fld Z h x O n d w → RoadKit.slotOf Z O n d ≠ RoadKit.slotOf Z ST "value" "[B" → RoadKit.slotOf Z O n d ≠ RoadKit.slotOf Z ST "coder" "B" → RoadKit.Fld Z h' x O n d w
/-- **new String(chars) AT A CALL, IN THE ROAD'S FORM**: for specialBack behind newO: x the fresh String, b the char[] with the cell A -/
theorem back {p : Program} {l : Launch} {e : Env} {R : Room} {s : State} {args : Array Value} {below : List Frame} {len W : Nat} {Z : State} {a0 : Array Value} {h : Heap} (hZ : Z.Warmed39 s.vm) (hw : ∀ d ∈ words, d.before a0 Z = true) {kI : Nat} (wi : (Jvm.Cond.instantiable ST kI).before a0 Z = true)
    {x b : Addr} {A : Cell} {z : Int32} {v0 c0 : Value} (E : RoadKit.Exa Z h x ST) (V : RoadKit.Fld Z h x ST "value" "[B" v0) (C : RoadKit.Fld Z h x ST "coder" "B" c0) (K : RoadKit.Arr Z h b A .char) (hty : Typed .char A) (S : RoadKit.Sta Z h ST "COMPACT_STRINGS" "Z" (.int z)) (hz : ¬ z = 0)
    (l0 : 0 < A.slots.size) (l2 : A.slots.size ≤ 536870912) (hp : ∀ i, i < A.slots.size → ¬ 255 < cv A i) (hfr : 4 ≤ R.frames) (hlo : W + 65 ≤ R.locals) :
    Back l R p e below s args New1.yN len W (fun P a => a = #[.ref x, .ref b] ∧ P.U.heap = h ∧ P.cells + 1 ≤ R.cells ∧ P.slots + A.slots.size ≤ R.slots)
      (fun P _ v B => ∃ L, Q Z x A h v B.U.heap L ∧ B.locs = P.locs ++ L ∧ B.cells = P.cells + 1 ∧ B.slots = P.slots + A.slots.size) := by
  intro m meth c P g ig mk a X hg hsize hdg hW hn hp'
  obtain ⟨rfl, rfl, r1, r2⟩ := hp'
  have al : Z.vm.Alike P.U.vm := hZ.alike.trans X.warmed.alike
  obtain ⟨D, cfV, kV, iV, fV, hD, gV, stV, knV, obV, asV, slV⟩ := id V
  obtain ⟨D', cfC, kC, iC, fC, hD', gC, stC, -, -, asC, slC⟩ := id C
  cases hD.symm.trans hD'
  obtain ⟨D2, kD, e1, e2, e3, e4, e5⟩ := id E
  cases hD.symm.trans e1
  obtain ⟨c2, k2, i1, i2, i3, -⟩ := Cond.instantiable_spec wi
  cases e2.symm.trans i1
  cases e3.symm.trans i2
  obtain ⟨kU, u1, u2⟩ := al.2.2 _ _ e3
  have hB : Blank ST x D P.U := ⟨hD, ⟨knV, fun q hq => by rw [hq] at obV; cases obV⟩, by rw [al.findClass]; exact e2, kU, u1, by rw [u2]; exact i3, by rw [u2]; exact e5 i3⟩
  have F1 : Found ST "value" "[B" fV P.U := ⟨SBG.found_only al ⟨cfV, kV, iV, gV⟩, stV⟩
  have F2 : Found ST "coder" "B" fC P.U := ⟨SBG.found_only al ⟨cfC, kC, iC, gC⟩, stC⟩
  have hA : Ch b A P.U := ⟨⟨K.1, State.isArrayOf_alike al K.2.1, K.2.2, by omega⟩, hty⟩
  have hS : StaticIs P.U ST "COMPACT_STRINGS" "Z" (.int z) := by
    obtain ⟨cfS, iS, kS, fS, st, cS, t1, t2, t3, t4, t5, t6, t7⟩ := S
    exact StaticIs.there (s := { Z with heap := P.U.heap }) ⟨cfS, iS, kS, fS, st, cS, t1, t2, t3, t4, t5, (fun q => by rw [q] at t6; cases t6), t7⟩ al rfl
  obtain ⟨v, B, X', ⟨⟨hv, E', V', q1, q2, q3, q4, q5, q6, q7, q8, q9, q10, q11⟩, hl, hc, hs⟩, st⟩ := New1.pays x D fV fC b A z (tab_of (moved hZ hw)) hfr hlo m meth c P g ig mk _ X hg hsize hdg hW hn ⟨r1, r2, rfl, hB, F1, F2, hA, hS, hz, l0, l2, hp⟩
  have al' : Z.vm.Alike B.U.vm := hZ.alike.trans X'.warmed.alike
  have hsz : E'.slots.size = D.slots.size := by
    obtain ⟨-, -, -, kB, w1, w2, w3⟩ := q1
    obtain ⟨kB', y1, y2⟩ := al'.2.2 _ _ e3
    rw [q2.2.1] at w1
    cases w1.symm.trans y1
    rw [w3, e5 i3, y2]
  refine ⟨v, B, X', ⟨_, ⟨hv, ?_, ⟨by omega, fun y cy hy hn' => q10 y cy (by simpa using hn') hy, fun y cy hy => ?_⟩, q11, ⟨E', _, q1.1, by rw [q2.2.1]; exact e2, by rw [q2.2.1]; exact e3, by rw [q2.1]; exact obV, fun _ => by rw [hsz]; exact e5 i3⟩,
    ⟨E', cfV, kV, iV, fV, q1.1, gV, stV, by rw [q2.1]; exact knV, by rw [q2.1]; exact obV, by rw [q2.2.1]; exact asV, q3⟩, ⟨E', cfC, kC, iC, fC, q1.1, gC, stC, by rw [q2.1]; exact knV, by rw [q2.1]; exact obV, by rw [q2.2.1]; exact asC, q4⟩,
    ⟨V', ⟨q5.1, State.isArrayOf_alike al'.symm q5.2.1, q5.2.2.1⟩, q6, by rw [← al'.findClass]; exact q7, q8, fun j hj => by have := q9 j hj; rwa [Nat.zero_add] at this⟩, fun O n d w F n1 n2 => ?_⟩, hl, hc, hs⟩, st⟩
  · intro y hy
    simp only [List.mem_cons, List.not_mem_nil, or_false] at hy
    rcases hy with rfl | rfl <;> rfl
  · by_cases q : y = x
    · subst q
      cases hD.symm.trans hy
      exact ⟨E', q1.1, q2.2.1, q2.1, hsz⟩
    · exact ⟨cy, q10 y cy q hy, rfl, rfl, rfl⟩
  · obtain ⟨D3, cf, k, i, f, g1, g2, g3, g4, g5, g6, g7⟩ := F
    cases hD.symm.trans g1
    simp only [RoadKit.slotOf, g2, gV, gC, Option.map_some, Option.getD_some] at n1 n2
    exact ⟨E', cf, k, i, f, q1.1, g2, g3, by rw [q2.1]; exact g4, by rw [q2.1]; exact g5, by rw [q2.2.1]; exact g6, by rw [q2.2.2 f.slot (by simp [n1, n2])]; exact g7⟩
end StrChars.Road
namespace StrChars.Road
open Jvm Sem ClassFile Op Lib Jvm.Stand Jvm.Free Jvm.Free.XT
/-- WHAT COMES BACK, the byte[] as a list of values -/
def QA (Z : State) (x : Addr) (zn : Int32) (cs : List Int32) (h : Heap) (v : Option Value) (h' : Heap) (L : List Loc) : Prop := v = none ∧ (∀ y ∈ L, y.base = x) ∧ RoadKit.Keep h h' [x] ∧ h'.size = h.size + 1 ∧ RoadKit.Exa Z h' x ST ∧ RoadKit.Fld Z h' x ST "value" "[B" (.ref h.size) ∧ RoadKit.Fld Z h' x ST "coder" "B" (.int 0) ∧
  (∃ kb, Z.vm.findClass "[B" = some kb ∧ RoadKit.Arv Z h' h.size kb .byte zn (cs.map fun c => .int (lo8 c)) (.int 0)) ∧
  ∀ (O n d : String) (w : Value), RoadKit.Fld Z h x O n d w → RoadKit.slotOf Z O n d ≠ RoadKit.slotOf Z ST "value" "[B" → RoadKit.slotOf Z O n d ≠ RoadKit.slotOf Z ST "coder" "B" → RoadKit.Fld Z h' x O n d w
/-- **new String(chars) AT A CALL, THE ARRAYS AS LISTS**: the char[] at b holds cs, not empty, no char above 255 -/
theorem backArv {p : Program} {l : Launch} {e : Env} {R : Room} {s : State} {args : Array Value} {below : List Frame} {len W : Nat} {Z : State} {a0 : Array Value} {h : Heap} (hZ : Z.Warmed39 s.vm) (hw : ∀ d ∈ words, d.before a0 Z = true) {kI : Nat} (wi : (Jvm.Cond.instantiable ST kI).before a0 Z = true)
    {x b : Addr} {k : ClassId} {zn z : Int32} {cs : List Int32} {dv v0 c0 : Value} (E : RoadKit.Exa Z h x ST) (V : RoadKit.Fld Z h x ST "value" "[B" v0) (C : RoadKit.Fld Z h x ST "coder" "B" c0) (K : RoadKit.Arv Z h b k .char zn (cs.map Value.int) dv) (S : RoadKit.Sta Z h ST "COMPACT_STRINGS" "Z" (.int z)) (hz : ¬ z = 0)
    (hlen : zn.toNatClampNeg = cs.length) (h0 : 0 < cs.length) (hbig : cs.length ≤ 536870912) (hall : ∀ c ∈ cs, ¬ 255 < c) (hfr : 4 ≤ R.frames) (hlo : W + 65 ≤ R.locals) :
    Back l R p e below s args New1.yN len W (fun P a => a = #[.ref x, .ref b] ∧ P.U.heap = h ∧ P.cells + 1 ≤ R.cells ∧ P.slots + cs.length ≤ R.slots)
      (fun P _ v B => ∃ L, QA Z x zn cs h v B.U.heap L ∧ B.locs = P.locs ++ L ∧ B.cells = P.cells + 1 ∧ B.slots = P.slots + cs.length) := by
  obtain ⟨A, K1, K2, K3, K4, K5, K6⟩ := K
  have e : A.slots.size = cs.length := K3.trans hlen
  have hat : ∀ (i : Nat) (hi : i < cs.length), A.slots[i]? = some (.int cs[i]) := fun i hi => by rw [K5 i (by omega)]; simp [List.getD_eq_getElem?_getD, hi]
  have hcv : ∀ (i : Nat) (hi : i < cs.length), cv A i = cs[i] := fun i hi => by unfold cv; rw [hat i hi]
  have hty : Typed .char A := fun i v hv => by
    have hi : i < A.slots.size := (Array.getElem?_eq_some_iff.mp hv).1
    have q := K5 i hi
    rw [hv] at q
    rw [Option.some.inj q]
    exact K6 i hi
  refine Back.mono (back hZ hw wi E V C K1 hty S hz (by omega) (by omega) (fun i hi => by rw [hcv i (by omega)]; exact hall _ (List.getElem_mem _)) hfr hlo) (fun P a hp => ⟨hp.1, hp.2.1, hp.2.2.1, by rw [e]; exact hp.2.2.2⟩) (fun P a v B hp hq => ?_)
  obtain ⟨L, ⟨q1, q2, q3, q4, q5, q6, q7, ⟨V', v1, v2, v3, v4, v5⟩, q9⟩, hl, hc, hs⟩ := hq
  refine ⟨L, ⟨q1, q2, q3, q4, q5, q6, q7, ⟨V'.cls, v3, V', v1, rfl, by rw [v4, e, hlen], K4, fun i hi => ?_, fun i hi => ?_⟩, q9⟩, hl, hc, by rw [hs, e]⟩
  · have hi' : i < cs.length := by omega
    rw [v5 i (by omega), hcv i hi']; simp [List.getD_eq_getElem?_getD, hi']
  · have hi' : i < cs.length := by omega
    simp only [List.getD_eq_getElem?_getD, List.getElem?_map, List.getElem?_eq_getElem hi', Option.map_some, Option.getD_some]
    exact fits_lo8 _
end StrChars.Road
namespace StrChars.Road
open Jvm Sem ClassFile Op Lib Jvm.Stand Jvm.Free Jvm.Free.XT
/-- WHAT COMES BACK, in the writer's own shape -/
def QV (Z : State) (x : Addr) (N : Int32) (bs : List Int32) (h : Heap) (n0 : Nat) (v : Option Value) (h' : Heap) (L : List Loc) : Prop := v = none ∧ RoadKit.Fr n0 L ∧ RoadKit.Keep h h' [x] ∧ RoadKit.Exa Z h' x ST ∧ RoadKit.Fld Z h' x ST "coder" "B" (.int 0) ∧
  ∃ (t : Addr) (kb : ClassId), n0 ≤ t ∧ h.size ≤ t ∧ ¬ t = x ∧ RoadKit.Fld Z h' x ST "value" "[B" (.ref t) ∧ RoadKit.Arv Z h' t kb .byte N (bs.map Value.int) (.int 0)
/-- **new String(chars) AT A CALL, FOR THE WRITER**: a char[] of n known ints, each 0 to 255 -/
theorem backV {p : Program} {l : Launch} {e : Env} {R : Room} {s : State} {args : Array Value} {below : List Frame} {len W : Nat} {Z : State} {a0 : Array Value} {h : Heap} (hZ : Z.Warmed39 s.vm) (hw : ∀ d ∈ words, d.before a0 Z = true) {kI : Nat} (wi : (Jvm.Cond.instantiable ST kI).before a0 Z = true)
    {x b : Addr} {kC : ClassId} {cs bs : List Int32} {d v0 c0 : Value} {z N : Int32} {n n0 : Nat} (hx0 : n0 ≤ x) (hh0 : n0 ≤ h.size) (E : RoadKit.Exa Z h x ST) (V : RoadKit.Fld Z h x ST "value" "[B" v0) (C : RoadKit.Fld Z h x ST "coder" "B" c0) (K : RoadKit.Arv Z h b kC .char N (cs.map Value.int) d) (S : RoadKit.Sta Z h ST "COMPACT_STRINGS" "Z" (.int z)) (hz : ¬ z = 0)
    (hn : cs.length = n) (hN : N = Int32.ofNat n) (l0 : 0 < n) (l2 : n ≤ 4000) (hp : ∀ c ∈ cs, ¬ c < 0 ∧ ¬ (255 : Int32) < c) (hb : bs = cs.map (fun c => c.toInt8.toInt32)) (hfr : 4 ≤ R.frames) (hlo : W + 65 ≤ R.locals) :
    Back l R p e below s args (⟨"java/lang/String", "<init>", "([C)V"⟩ : MethodName) len W (fun P a => a = #[.ref x, .ref b] ∧ P.U.heap = h ∧ P.cells + 1 ≤ R.cells ∧ P.slots + n ≤ R.slots)
      (fun P _ v B => ∃ L, QV Z x N bs h n0 v B.U.heap L ∧ B.locs = P.locs ++ L ∧ B.cells = P.cells + 1 ∧ B.slots = P.slots + n) := by
  subst hn hN hb
  refine Back.mono (backArv hZ hw wi E V C K S hz (n32 (by omega)) l0 (by omega) (fun c hc => (hp c hc).2) hfr hlo) (fun P a hp => hp) (fun P a v B hp hq => ?_)
  obtain ⟨L, ⟨q1, q2, q3, q4, q5, q6, q7, ⟨kb, v1, v2⟩, q9⟩, hl, hc, hs⟩ := hq
  exact ⟨L, ⟨q1, fun y hy => by rw [q2 y hy]; exact hx0, q3, q5, q7, h.size, kb, hh0, Nat.le_refl _, Nat.ne_of_gt E.lt, q6, by rw [List.map_map]; exact v2⟩, hl, hc, hs⟩
end StrChars.Road
end Jvm.Pilot.@@N@@

namespace Jvm.Pilot.@@N@@
open Jvm Jvm.ClassFile Sem Op Lib Jvm.Free Jvm.Stand Jvm.LawKit Jvm.RoadKit Bundle Jvm.Pilot.@@N@@.Jvm.D

def QN (h0 : Heap) (n0 : Nat) (v : Option Value) (h : Heap) (L : List Loc) : Prop := v = none ∧ Fr n0 L ∧ h = h0
def Q1 (Z : State) (r : Value) (h0 : Heap) (n0 : Nat) (v : Option Value) (h : Heap) (L : List Loc) : Prop := v = some r ∧ Fr n0 L ∧ h = h0
def QI (Z : State) (a : Addr) (K : String) (h0 : Heap) (n0 : Nat) (v : Option Value) (h : Heap) (L : List Loc) : Prop := v = none ∧ Fr n0 L ∧ Keep h0 h [a] ∧ Exa Z h a K
/-- a reference to an object of exactly K comes back -/
def QO (Z : State) (K : String) (h0 : Heap) (n0 : Nat) (v : Option Value) (h : Heap) (L : List Loc) : Prop := ∃ b : Addr, v = some (.ref b) ∧ Fr n0 L ∧ Keep h0 h [] ∧ Exa Z h b K
theorem own_root {Z : State} {a0 : Array Value} {O K : String} {n : Nat} (w : (Cond.noSuperclass O).before a0 Z = true) (wk : (Cond.instantiable K n).before a0 Z = true) (hn : O ≠ K) : NS Z O K := by
  obtain ⟨c, k, h1, h2, h3, -, -⟩ := Cond.noSuperclass_spec w
  obtain ⟨t, kt, g1, -⟩ := Cond.instantiable_spec wk
  have ne := ids_ne h1 g1 hn
  refine ⟨c, t, h1, g1, fun fuel => ?_⟩
  cases fuel with
  | zero => rfl
  | succ f => simp [Vm.isSubclassAux, ne, h2, h3]
theorem own_no {Z : State} {a0 : Array Value} {C S K : String} {j : Nat} (w : (Cond.superclass C S).before a0 Z = true) (wk : (Cond.instantiable K j).before a0 Z = true) (n : NS Z C K) (hn : C ≠ K) : ∃ c t, Z.vm.findClass C = some c ∧ Z.vm.findClass K = some t ∧ Z.vm.assignable c t = false := by
  obtain ⟨c, t, h0, g0, n3⟩ := n
  obtain ⟨p, k, kp, h1, h2, h3, h4, h5, -, h7⟩ := Cond.superclass_spec h0 w
  obtain ⟨t', k', g1, g2, g5, g7, -⟩ := Cond.instantiable_spec wk
  cases g0.symm.trans g1
  have g8 : k'.isInterface = false := by simp only [Bool.or_eq_false_iff] at g7; exact g7.1
  have ne := ids_ne h0 g0 hn
  refine ⟨c, t, h0, g0, ?_⟩
  show Z.vm.assignableAux (255 + 1) c t = false
  simp [Vm.assignableAux, ne, h2, g2, h5, g5, g8, Vm.isSubclass, n3]
theorem dn_0 : decode jdk_18_method_1_code 0 = .ok (.aload_n 0, 1) := by decide +kernel
theorem dn_1 : decode jdk_18_method_1_code 1 = .ok (.invokespecial 1, 3) := by decide +kernel
theorem dn_4 : decode jdk_18_method_1_code 4 = .ok (.return_, 1) := by decide +kernel
theorem pnn : plainName "java/lang/Number" = true := by first | (simp [plainName, overriddenIn]; done) | decide +kernel
theorem efn (m : MethodId) (x0 : Addr) : entryFrame m #[(.ref x0)] 1 = mkF m 0 #[.val (.ref x0)] [] := by first | (simp [entryFrame, mkF, argsToLocals, Value.category]; done) | rfl
set_option maxRecDepth 65536 in
set_option maxHeartbeats 40000000 in
theorem rmn (l : Launch) (Z : State) (a0 : Array Value) (hw : ∀ d ∈ tables_1, d.before a0 Z = true) (ws : List Jvm.Cond) (a : Addr) (h0 : Heap) (n0 : Nat) (Z0 : n0 ≤ h0.size) :
    MetFree l (⟨"java/lang/Number", "<init>", "()V"⟩ : MethodName) (head1 (Jvm.Cond.code (⟨"java/lang/Number", "<init>", "()V"⟩ : MethodName) jdk_18_method_1_code 1 none :: ws) ({ frames := 1, cells := 0, slots := 0, locals := 12 } : Room)) (fun aa_ U => aa_ = #[(.ref a)] ∧ Z.Warmed39 U.vm ∧ U.heap = h0) (fun _ _ _ _ _ => True) (fun _ U o U' => ∃ vv_ LL_, o = .returned vv_ ∧ QN h0 n0 vv_ U'.heap LL_ ∧ FrameEnd U o U' LL_ ({ frames := 1, cells := 0, slots := 0, locals := 12 } : Room).cells ({ frames := 1, cells := 0, slots := 0, locals := 12 } : Room).slots) := by
  refine MetFree.of_bodySF (plainFor_of_name pnn) hisR ?_
  intro p e s m args below meth c s₁ Bd hml0 hP hK
  obtain ⟨rfl, hZ, hh⟩ := hP
  have hx := Bd.exec
  have hby := Bd.bytes
  have hml : c.maxLocals = 1 := hml0
  have hown : s.vm.findClass "java/lang/Number" = some m.cls := findClass_of_methodNamed Bd.named
  have hnm := (name_of_methodNamed Bd.named Bd.method).1
  have X0 : Stand p l e ({ frames := 1, cells := 0, slots := 0, locals := 12 } : Room) s m #[(.ref a)] below meth c s₁ [] 0 0 := Stand.of_body Bd
  have e0 : s₁.heap = h0 := by rw [← hh, Bd.state]; rfl
  have N0 := Fr.nil n0
  have pre0 : ∀ tg_, Steps p.tables e below (s₁.setTop (mkF m 0 #[.val (.ref a)] [])) tg_ → Steps p.tables e below (s₁.setTop (entryFrame m #[(.ref a)] 1)) tg_ := fun tg_ kt => castTop (efn m a) kt
  obtain ⟨T2, X2, e2, st2⟩ := initO X0 hx hZ hown (hw _ (List.mem_of_getElem? (i := 31) rfl)) (hw _ (List.mem_of_getElem? (i := 32) rfl)) (hw _ (List.mem_of_getElem? (i := 33) rfl)) e0 (g := (mkF m 1 #[.val (.ref a)] [(.ref a)])) rfl (by rw [hml]; rfl) rfl (hb hby dn_1) (by decide) (W := 0) (by show 2 * 0 + _ ≤ _; exact Nat.le_of_eq rfl) (by decide)
  have pre3 : ∀ tg_, Steps p.tables e below (T2.setTop (mkF m 4 #[.val (.ref a)] [])) tg_ → Steps p.tables e below (s₁.setTop (entryFrame m #[(.ref a)] 1)) tg_ := by
    intro tg_ kt
    refine pre0 _ ?_
    show Steps p.tables e below (s₁.setTop (mkF m 0 #[.val (.ref a)] [])) _
    refine XS.aloadN X0.here hx rfl (hb hby dn_0) rfl rfl ?_
    show Steps p.tables e below (s₁.setTop (mkF m 1 #[.val (.ref a)] [(.ref a)])) _
    refine st2 _ ?_
    exact kt
  obtain ⟨fs, hr, hrun, hended, hW, hsame⟩ := X2.leave (v := none) (fun _ => rfl)
  refine ⟨_, _, pre3 _ ?_, hrun, hended, _, _, rfl, ?_, ⟨_, rfl⟩, hW, hsame.mono (by decide) (by decide)⟩
  · show Steps p.tables e below (T2.setTop (mkF m 4 #[.val (.ref a)] [])) _
    exact X2.returnOut hx Bd.returns (hb hby dn_4) hr
  · show QN h0 n0 _ T2.heap _
    rw [e2]
    exact ⟨rfl, N0, rfl⟩
theorem dli_0 : decode jdk_35_method_26_code 0 = .ok (.aload_n 0, 1) := by decide +kernel
theorem dli_1 : decode jdk_35_method_26_code 1 = .ok (.invokespecial 270, 3) := by decide +kernel
theorem dli_4 : decode jdk_35_method_26_code 4 = .ok (.aload_n 0, 1) := by decide +kernel
theorem dli_5 : decode jdk_35_method_26_code 5 = .ok (.lload_n 1, 1) := by decide +kernel
theorem dli_6 : decode jdk_35_method_26_code 6 = .ok (.putfield 273, 3) := by decide +kernel
theorem dli_9 : decode jdk_35_method_26_code 9 = .ok (.return_, 1) := by decide +kernel
theorem pnli : plainName "java/lang/Long" = true := by first | (simp [plainName, overriddenIn]; done) | decide +kernel
theorem pdli_0 : parseMethodDescriptor "()V" = some ⟨[], none⟩ := by decide +kernel
theorem efli (m : MethodId) (x0 : Addr) (x1 : Int64) : entryFrame m #[(.ref x0), (.long x1)] 3 = mkF m 0 #[.val (.ref x0), .val (.long x1), .second] [] := by first | (simp [entryFrame, mkF, argsToLocals, Value.category]; done) | rfl
set_option maxRecDepth 65536 in
set_option maxHeartbeats 40000000 in
theorem rmli (l : Launch) (Z : State) (a0 : Array Value) (hw : ∀ d ∈ tables_1, d.before a0 Z = true) (ws : List Jvm.Cond) (a : Addr) (q : Int64) (h0 : Heap) (n0 : Nat) (Z0 : n0 ≤ h0.size) (EX : Exa Z h0 a "java/lang/Long") (FV : Fld Z h0 a "java/lang/Long" "value" "J" (.long (0 : Int64))) (gb_a : n0 ≤ a) :
    MetFree l (⟨"java/lang/Long", "<init>", "(J)V"⟩ : MethodName) (head1 (Jvm.Cond.code (⟨"java/lang/Long", "<init>", "(J)V"⟩ : MethodName) jdk_35_method_26_code 3 none :: ws) ({ frames := 2, cells := 0, slots := 0, locals := 24 } : Room)) (fun aa_ U => aa_ = #[(.ref a), (.long q)] ∧ Z.Warmed39 U.vm ∧ U.heap = h0) (fun _ _ _ _ _ => True) (fun _ U o U' => ∃ vv_ LL_, o = .returned vv_ ∧ QI Z a "java/lang/Long" h0 n0 vv_ U'.heap LL_ ∧ FrameEnd U o U' LL_ ({ frames := 2, cells := 0, slots := 0, locals := 24 } : Room).cells ({ frames := 2, cells := 0, slots := 0, locals := 24 } : Room).slots) := by
  refine MetFree.of_bodySF (plainFor_of_name pnli) hisR ?_
  intro p e s m args below meth c s₁ Bd hml0 hP hK
  obtain ⟨rfl, hZ, hh⟩ := hP
  have hx := Bd.exec
  have hby := Bd.bytes
  have hml : c.maxLocals = 3 := hml0
  have hown : s.vm.findClass "java/lang/Long" = some m.cls := findClass_of_methodNamed Bd.named
  have hnm := (name_of_methodNamed Bd.named Bd.method).1
  have X0 : Stand p l e ({ frames := 2, cells := 0, slots := 0, locals := 24 } : Room) s m #[(.ref a), (.long q)] below meth c s₁ [] 0 0 := Stand.of_body Bd
  have e0 : s₁.heap = h0 := by rw [← hh, Bd.state]; rfl
  have N0 := Fr.nil n0
  have pre0 : ∀ tg_, Steps p.tables e below (s₁.setTop (mkF m 0 #[.val (.ref a), .val (.long q), .second] [])) tg_ → Steps p.tables e below (s₁.setTop (entryFrame m #[(.ref a), (.long q)] 3)) tg_ := fun tg_ kt => castTop (efli m a q) kt
  obtain ⟨_, _, ⟨T1, L1, k1, n1⟩, -, X1, ⟨Lc1, hQ1, l1, y1, z1⟩, st1⟩ := X0.specialBack hx (y := (⟨"java/lang/Number", "<init>", "()V"⟩ : MethodName)) rfl hown (mvT hZ (hw _ (List.mem_of_getElem? (i := 45) rfl))) (mvT hZ (hw _ (List.mem_of_getElem? (i := 26) rfl))) (mvT hZ (hw _ (List.mem_of_getElem? (i := 30) rfl))) (by decide) (backOf (W := 0) (rmn l Z a0 hw [] a h0 n0 Z0) hZ (hw _ (List.mem_of_getElem? (i := 30) rfl)) (hw _ (List.mem_of_getElem? (i := 29) rfl)) (by decide) (by decide)) (g := (mkF m 1 #[.val (.ref a), .val (.long q), .second] [(.ref a)])) rfl (by rw [hml]; rfl) (Steps.refl _) (a := a) (argsL := []) (rest := []) (lenOf pdli_0 rfl) rfl (by show 2 * 0 + _ ≤ _; exact Nat.le_of_eq rfl) (hb hby dli_1) (fun _ _ => ⟨rfl, e0, (by decide : 0 + 0 ≤ _), (by decide : 0 + 0 ≤ _)⟩)
  dsimp only [Pt.U, Pt.locs, Pt.cells, Pt.slots] at X1 l1 y1 z1 st1 hQ1
  subst l1 y1 z1
  obtain ⟨rfl, N1q, e1⟩ := hQ1
  have N1 := Fr.app N0 N1q
  obtain ⟨T2, h2, X2, e2, W2, st2⟩ := putF X1 hx hZ hown (host := "") (Or.inl (hw _ (List.mem_of_getElem? (i := 47) rfl))) Via.refl e1 FV EX (Or.inr ⟨(hw _ (List.mem_of_getElem? (i := 48) rfl)), rfl, hnm⟩) (hw _ (List.mem_of_getElem? (i := 41) rfl)) (ty := .long) (by decide) rfl rfl (g := (mkF m 6 #[.val (.ref a), .val (.long q), .second] [(.long q), (.ref a)])) rfl rfl (hb hby dli_6)
  have Fn2 := FV.same W2
  have N2 := Fr.snoc X2 N1 gb_a
  have f2_3 := EX.wr W2
  have K4 : Keep h0 h2 [a] := (Keep.refl h0 [a]).wr W2 (Or.inl (List.mem_of_getElem? (i := 0) rfl))
  have Z5 : n0 ≤ h2.size := by rw [W2.size]; exact Z0
  have pre6 : ∀ tg_, Steps p.tables e below (T2.setTop (mkF m 9 #[.val (.ref a), .val (.long q), .second] [])) tg_ → Steps p.tables e below (s₁.setTop (entryFrame m #[(.ref a), (.long q)] 3)) tg_ := by
    intro tg_ kt
    refine pre0 _ ?_
    show Steps p.tables e below (s₁.setTop (mkF m 0 #[.val (.ref a), .val (.long q), .second] [])) _
    refine XS.aloadN X0.here hx rfl (hb hby dli_0) rfl rfl ?_
    show Steps p.tables e below (s₁.setTop (mkF m 1 #[.val (.ref a), .val (.long q), .second] [(.ref a)])) _
    refine st1.trans ?_
    show Steps p.tables e below (T1.setTop (mkF m 4 #[.val (.ref a), .val (.long q), .second] [])) _
    refine XS.aloadN X1.here hx rfl (hb hby dli_4) rfl rfl ?_
    show Steps p.tables e below (T1.setTop (mkF m 5 #[.val (.ref a), .val (.long q), .second] [(.ref a)])) _
    refine XS.lloadN X1.here hx rfl (hb hby dli_5) rfl ?_
    show Steps p.tables e below (T1.setTop (mkF m 6 #[.val (.ref a), .val (.long q), .second] [(.long q), (.ref a)])) _
    refine st2 _ ?_
    exact kt
  obtain ⟨fs, hr, hrun, hended, hW, hsame⟩ := X2.leave (v := none) (fun _ => rfl)
  refine ⟨_, _, pre6 _ ?_, hrun, hended, _, _, rfl, ?_, ⟨_, rfl⟩, hW, hsame.mono (by decide) (by decide)⟩
  · show Steps p.tables e below (T2.setTop (mkF m 9 #[.val (.ref a), .val (.long q), .second] [])) _
    exact X2.returnOut hx Bd.returns (hb hby dli_9) hr
  · show QI Z a "java/lang/Long" h0 n0 _ T2.heap _
    rw [e2]
    exact ⟨rfl, N2, K4, f2_3⟩
theorem ddi_0 : decode jdk_117_method_9_code 0 = .ok (.aload_n 0, 1) := by decide +kernel
theorem ddi_1 : decode jdk_117_method_9_code 1 = .ok (.invokespecial 113, 3) := by decide +kernel
theorem ddi_4 : decode jdk_117_method_9_code 4 = .ok (.aload_n 0, 1) := by decide +kernel
theorem ddi_5 : decode jdk_117_method_9_code 5 = .ok (.dload_n 1, 1) := by decide +kernel
theorem ddi_6 : decode jdk_117_method_9_code 6 = .ok (.putfield 118, 3) := by decide +kernel
theorem ddi_9 : decode jdk_117_method_9_code 9 = .ok (.return_, 1) := by decide +kernel
theorem pndi : plainName "java/lang/Double" = true := by first | (simp [plainName, overriddenIn]; done) | decide +kernel
theorem pddi_0 : parseMethodDescriptor "()V" = some ⟨[], none⟩ := by decide +kernel
theorem efdi (m : MethodId) (x0 : Addr) (x1 : UInt64) : entryFrame m #[(.ref x0), (.double x1)] 3 = mkF m 0 #[.val (.ref x0), .val (.double x1), .second] [] := by first | (simp [entryFrame, mkF, argsToLocals, Value.category]; done) | rfl
set_option maxRecDepth 65536 in
set_option maxHeartbeats 40000000 in
theorem rmdi (l : Launch) (Z : State) (a0 : Array Value) (hw : ∀ d ∈ tables_1, d.before a0 Z = true) (ws : List Jvm.Cond) (a : Addr) (q : UInt64) (h0 : Heap) (n0 : Nat) (Z0 : n0 ≤ h0.size) (EX : Exa Z h0 a "java/lang/Double") (FV : Fld Z h0 a "java/lang/Double" "value" "D" (.double 0)) (gb_a : n0 ≤ a) :
    MetFree l (⟨"java/lang/Double", "<init>", "(D)V"⟩ : MethodName) (head1 (Jvm.Cond.code (⟨"java/lang/Double", "<init>", "(D)V"⟩ : MethodName) jdk_117_method_9_code 3 none :: ws) ({ frames := 2, cells := 0, slots := 0, locals := 24 } : Room)) (fun aa_ U => aa_ = #[(.ref a), (.double q)] ∧ Z.Warmed39 U.vm ∧ U.heap = h0) (fun _ _ _ _ _ => True) (fun _ U o U' => ∃ vv_ LL_, o = .returned vv_ ∧ QI Z a "java/lang/Double" h0 n0 vv_ U'.heap LL_ ∧ FrameEnd U o U' LL_ ({ frames := 2, cells := 0, slots := 0, locals := 24 } : Room).cells ({ frames := 2, cells := 0, slots := 0, locals := 24 } : Room).slots) := by
  refine MetFree.of_bodySF (plainFor_of_name pndi) hisR ?_
  intro p e s m args below meth c s₁ Bd hml0 hP hK
  obtain ⟨rfl, hZ, hh⟩ := hP
  have hx := Bd.exec
  have hby := Bd.bytes
  have hml : c.maxLocals = 3 := hml0
  have hown : s.vm.findClass "java/lang/Double" = some m.cls := findClass_of_methodNamed Bd.named
  have hnm := (name_of_methodNamed Bd.named Bd.method).1
  have X0 : Stand p l e ({ frames := 2, cells := 0, slots := 0, locals := 24 } : Room) s m #[(.ref a), (.double q)] below meth c s₁ [] 0 0 := Stand.of_body Bd
  have e0 : s₁.heap = h0 := by rw [← hh, Bd.state]; rfl
  have N0 := Fr.nil n0
  have pre0 : ∀ tg_, Steps p.tables e below (s₁.setTop (mkF m 0 #[.val (.ref a), .val (.double q), .second] [])) tg_ → Steps p.tables e below (s₁.setTop (entryFrame m #[(.ref a), (.double q)] 3)) tg_ := fun tg_ kt => castTop (efdi m a q) kt
  obtain ⟨_, _, ⟨T1, L1, k1, n1⟩, -, X1, ⟨Lc1, hQ1, l1, y1, z1⟩, st1⟩ := X0.specialBack hx (y := (⟨"java/lang/Number", "<init>", "()V"⟩ : MethodName)) rfl hown (mvT hZ (hw _ (List.mem_of_getElem? (i := 25) rfl))) (mvT hZ (hw _ (List.mem_of_getElem? (i := 26) rfl))) (mvT hZ (hw _ (List.mem_of_getElem? (i := 30) rfl))) (by decide) (backOf (W := 0) (rmn l Z a0 hw [] a h0 n0 Z0) hZ (hw _ (List.mem_of_getElem? (i := 30) rfl)) (hw _ (List.mem_of_getElem? (i := 29) rfl)) (by decide) (by decide)) (g := (mkF m 1 #[.val (.ref a), .val (.double q), .second] [(.ref a)])) rfl (by rw [hml]; rfl) (Steps.refl _) (a := a) (argsL := []) (rest := []) (lenOf pddi_0 rfl) rfl (by show 2 * 0 + _ ≤ _; exact Nat.le_of_eq rfl) (hb hby ddi_1) (fun _ _ => ⟨rfl, e0, (by decide : 0 + 0 ≤ _), (by decide : 0 + 0 ≤ _)⟩)
  dsimp only [Pt.U, Pt.locs, Pt.cells, Pt.slots] at X1 l1 y1 z1 st1 hQ1
  subst l1 y1 z1
  obtain ⟨rfl, N1q, e1⟩ := hQ1
  have N1 := Fr.app N0 N1q
  obtain ⟨T2, h2, X2, e2, W2, st2⟩ := putF X1 hx hZ hown (host := "") (Or.inl (hw _ (List.mem_of_getElem? (i := 34) rfl))) Via.refl e1 FV EX (Or.inr ⟨(hw _ (List.mem_of_getElem? (i := 35) rfl)), rfl, hnm⟩) (hw _ (List.mem_of_getElem? (i := 20) rfl)) (ty := .double) (by decide) rfl rfl (g := (mkF m 6 #[.val (.ref a), .val (.double q), .second] [(.double q), (.ref a)])) rfl rfl (hb hby ddi_6)
  have Fn2 := FV.same W2
  have N2 := Fr.snoc X2 N1 gb_a
  have f2_3 := EX.wr W2
  have K4 : Keep h0 h2 [a] := (Keep.refl h0 [a]).wr W2 (Or.inl (List.mem_of_getElem? (i := 0) rfl))
  have Z5 : n0 ≤ h2.size := by rw [W2.size]; exact Z0
  have pre6 : ∀ tg_, Steps p.tables e below (T2.setTop (mkF m 9 #[.val (.ref a), .val (.double q), .second] [])) tg_ → Steps p.tables e below (s₁.setTop (entryFrame m #[(.ref a), (.double q)] 3)) tg_ := by
    intro tg_ kt
    refine pre0 _ ?_
    show Steps p.tables e below (s₁.setTop (mkF m 0 #[.val (.ref a), .val (.double q), .second] [])) _
    refine XS.aloadN X0.here hx rfl (hb hby ddi_0) rfl rfl ?_
    show Steps p.tables e below (s₁.setTop (mkF m 1 #[.val (.ref a), .val (.double q), .second] [(.ref a)])) _
    refine st1.trans ?_
    show Steps p.tables e below (T1.setTop (mkF m 4 #[.val (.ref a), .val (.double q), .second] [])) _
    refine XS.aloadN X1.here hx rfl (hb hby ddi_4) rfl rfl ?_
    show Steps p.tables e below (T1.setTop (mkF m 5 #[.val (.ref a), .val (.double q), .second] [(.ref a)])) _
    refine XS.dloadN X1.here hx rfl (hb hby ddi_5) rfl ?_
    show Steps p.tables e below (T1.setTop (mkF m 6 #[.val (.ref a), .val (.double q), .second] [(.double q), (.ref a)])) _
    refine st2 _ ?_
    exact kt
  obtain ⟨fs, hr, hrun, hended, hW, hsame⟩ := X2.leave (v := none) (fun _ => rfl)
  refine ⟨_, _, pre6 _ ?_, hrun, hended, _, _, rfl, ?_, ⟨_, rfl⟩, hW, hsame.mono (by decide) (by decide)⟩
  · show Steps p.tables e below (T2.setTop (mkF m 9 #[.val (.ref a), .val (.double q), .second] [])) _
    exact X2.returnOut hx Bd.returns (hb hby ddi_9) hr
  · show QI Z a "java/lang/Double" h0 n0 _ T2.heap _
    rw [e2]
    exact ⟨rfl, N2, K4, f2_3⟩
theorem own_cidx {cc : Cell} {q : Int64} (hsz : cc.slots.size = 256) (h1 : ¬ q < (-128 : Int64)) (h2 : ¬ (127 : Int64) < q) : ¬ ((q.toInt32 + (128 : Int32)) < 0 ∨ cc.slots.size ≤ (q.toInt32 + (128 : Int32)).toNatClampNeg) := by
  have a1 : -128 ≤ q.toInt := Int.not_lt.mp fun z => h1 (Int64.lt_iff_toInt_lt.mpr z)
  have a2 : q.toInt ≤ 127 := Int.not_lt.mp fun z => h2 (Int64.lt_iff_toInt_lt.mpr z)
  have e1 : q.toInt32.toInt = q.toInt := by rw [Int64.toInt_toInt32]; exact Int.bmod_eq_of_le (by omega) (by omega)
  have e2 : (q.toInt32 + (128 : Int32)).toInt = q.toInt + 128 := by
    rw [Int32.toInt_add, e1]; exact Int.bmod_eq_of_le (by show -(2147483648 : Int) ≤ q.toInt + 128; omega) (by show q.toInt + 128 < 2147483648; omega)
  rw [Int32.lt_iff_toInt_lt, e2, hsz]
  have e3 : (q.toInt32 + (128 : Int32)).toNatClampNeg = (q.toInt + 128).toNat := by show (q.toInt32 + (128 : Int32)).toInt.toNat = _; rw [e2]
  have e0 : (0 : Int32).toInt = 0 := rfl
  omega
theorem dlv_0 : decode jdk_35_method_24_code 0 = .ok (.sipush 128, 3) := by decide +kernel
theorem dlv_3 : decode jdk_35_method_24_code 3 = .ok (.istore_n 2, 1) := by decide +kernel
theorem dlv_4 : decode jdk_35_method_24_code 4 = .ok (.lload_n 0, 1) := by decide +kernel
theorem dlv_5 : decode jdk_35_method_24_code 5 = .ok (.ldc2_w 230, 3) := by decide +kernel
theorem dlv_8 : decode jdk_35_method_24_code 8 = .ok (.lcmp, 1) := by decide +kernel
theorem dlv_9 : decode jdk_35_method_24_code 9 = .ok (.ifCond .lt 22, 3) := by decide +kernel
theorem dlv_12 : decode jdk_35_method_24_code 12 = .ok (.lload_n 0, 1) := by decide +kernel
theorem dlv_13 : decode jdk_35_method_24_code 13 = .ok (.ldc2_w 232, 3) := by decide +kernel
theorem dlv_16 : decode jdk_35_method_24_code 16 = .ok (.lcmp, 1) := by decide +kernel
theorem dlv_17 : decode jdk_35_method_24_code 17 = .ok (.ifCond .gt 14, 3) := by decide +kernel
theorem dlv_20 : decode jdk_35_method_24_code 20 = .ok (.getstatic 234, 3) := by decide +kernel
theorem dlv_23 : decode jdk_35_method_24_code 23 = .ok (.lload_n 0, 1) := by decide +kernel
theorem dlv_24 : decode jdk_35_method_24_code 24 = .ok (.l2i, 1) := by decide +kernel
theorem dlv_25 : decode jdk_35_method_24_code 25 = .ok (.sipush 128, 3) := by decide +kernel
theorem dlv_28 : decode jdk_35_method_24_code 28 = .ok (.iadd, 1) := by decide +kernel
theorem dlv_29 : decode jdk_35_method_24_code 29 = .ok (.aaload, 1) := by decide +kernel
theorem dlv_30 : decode jdk_35_method_24_code 30 = .ok (.areturn, 1) := by decide +kernel
theorem dlv_31 : decode jdk_35_method_24_code 31 = .ok (.new 1, 3) := by decide +kernel
theorem dlv_34 : decode jdk_35_method_24_code 34 = .ok (.dup, 1) := by decide +kernel
theorem dlv_35 : decode jdk_35_method_24_code 35 = .ok (.lload_n 0, 1) := by decide +kernel
theorem dlv_36 : decode jdk_35_method_24_code 36 = .ok (.invokespecial 240, 3) := by decide +kernel
theorem dlv_39 : decode jdk_35_method_24_code 39 = .ok (.areturn, 1) := by decide +kernel
theorem pnlv : plainName "java/lang/Long" = true := by first | (simp [plainName, overriddenIn]; done) | decide +kernel
theorem pdlv_0 : parseMethodDescriptor "(J)V" = some ⟨[.long], none⟩ := by decide +kernel
theorem eflv (m : MethodId) (x0 : Int64) : entryFrame m #[(.long x0)] 3 = mkF m 0 #[.val (.long x0), .second, .unset] [] := by first | (simp [entryFrame, mkF, argsToLocals, Value.category]; done) | rfl
set_option maxRecDepth 65536 in
set_option maxHeartbeats 40000000 in
theorem rmlv (l : Launch) (Z : State) (a0 : Array Value) (hw : ∀ d ∈ tables_1, d.before a0 Z = true) (ws : List Jvm.Cond) (q : Int64) (ca : Addr) (cc : Cell) (h0 : Heap) (n0 : Nat) (Z0 : n0 ≤ h0.size) (S_C : Sta Z h0 "java/lang/Long$LongCache" "cache" "[Ljava/lang/Long;" (.ref ca)) (Ar : Arr Z h0 ca cc (.object "java/lang/Long")) (hsz : cc.slots.size = 256) (hB : ∀ j : Int32, ¬ (j < 0 ∨ cc.slots.size ≤ j.toNatClampNeg) → ∃ b : Addr, cc.slots[j.toNatClampNeg]? = some (.ref b) ∧ Exa Z h0 b "java/lang/Long") :
    MetFree l (⟨"java/lang/Long", "valueOf", "(J)Ljava/lang/Long;"⟩ : MethodName) (head1 (Jvm.Cond.code (⟨"java/lang/Long", "valueOf", "(J)Ljava/lang/Long;"⟩ : MethodName) jdk_35_method_24_code 3 (some (.object "java/lang/Long")) :: ws) ({ frames := 3, cells := 1, slots := 1, locals := 39 } : Room)) (fun aa_ U => aa_ = #[(.long q)] ∧ Z.Warmed39 U.vm ∧ U.heap = h0) (fun _ _ _ _ _ => True) (fun _ U o U' => ∃ vv_ LL_, o = .returned vv_ ∧ QO Z "java/lang/Long" h0 n0 vv_ U'.heap LL_ ∧ FrameEnd U o U' LL_ ({ frames := 3, cells := 1, slots := 1, locals := 39 } : Room).cells ({ frames := 3, cells := 1, slots := 1, locals := 39 } : Room).slots) := by
  refine MetFree.of_bodySF (plainFor_of_name pnlv) hisR ?_
  intro p e s m args below meth c s₁ Bd hml0 hP hK
  obtain ⟨rfl, hZ, hh⟩ := hP
  have hx := Bd.exec
  have hby := Bd.bytes
  have hml : c.maxLocals = 3 := hml0
  have hown : s.vm.findClass "java/lang/Long" = some m.cls := findClass_of_methodNamed Bd.named
  have hnm := (name_of_methodNamed Bd.named Bd.method).1
  have X0 : Stand p l e ({ frames := 3, cells := 1, slots := 1, locals := 39 } : Room) s m #[(.long q)] below meth c s₁ [] 0 0 := Stand.of_body Bd
  have e0 : s₁.heap = h0 := by rw [← hh, Bd.state]; rfl
  have N0 := Fr.nil n0
  have pre0 : ∀ tg_, Steps p.tables e below (s₁.setTop (mkF m 0 #[.val (.long q), .second, .unset] [])) tg_ → Steps p.tables e below (s₁.setTop (entryFrame m #[(.long q)] 3)) tg_ := fun tg_ kt => castTop (eflv m q) kt
  have pre1 : ∀ tg_, Steps p.tables e below (s₁.setTop (mkF m 9 #[.val (.long q), .second, .val (.int (128 : Int32))] [(.int (XT.cmpL q (-128 : Int64)))])) tg_ → Steps p.tables e below (s₁.setTop (entryFrame m #[(.long q)] 3)) tg_ := by
    intro tg_ kt
    refine pre0 _ ?_
    show Steps p.tables e below (s₁.setTop (mkF m 0 #[.val (.long q), .second, .unset] [])) _
    refine XS.sipush X0.here hx rfl (hb hby dlv_0) ?_
    show Steps p.tables e below (s₁.setTop (mkF m 3 #[.val (.long q), .second, .unset] [(.int (128 : Int32))])) _
    refine XS.istoreN X0.here hx rfl (hb hby dlv_3) rfl (l' := #[.val (.long q), .second, .val (.int (128 : Int32))]) rfl ?_
    show Steps p.tables e below (s₁.setTop (mkF m 4 #[.val (.long q), .second, .val (.int (128 : Int32))] [])) _
    refine XS.lloadN X0.here hx rfl (hb hby dlv_4) rfl ?_
    show Steps p.tables e below (s₁.setTop (mkF m 5 #[.val (.long q), .second, .val (.int (128 : Int32))] [(.long q)])) _
    refine X0.ldc2J hx hown (mvT hZ (hw _ (List.mem_of_getElem? (i := 5) rfl))) (g := (mkF m 5 #[.val (.long q), .second, .val (.int (128 : Int32))] [(.long q)])) rfl (hb hby dlv_5) ?_
    show Steps p.tables e below (s₁.setTop (mkF m 8 #[.val (.long q), .second, .val (.int (128 : Int32))] [(.long (-128 : Int64)), (.long q)])) _
    refine XT.lcmp X0.here hx rfl (hb hby dlv_8) rfl ?_
    exact kt
  by_cases hc9_2 : q < (-128 : Int64)
  · obtain ⟨T3, h3, X3, e3, E3, A3, D3, -, st3⟩ := newO X0 hx hZ hown (hw _ (List.mem_of_getElem? (i := 40) rfl)) (hw _ (List.mem_of_getElem? (i := 41) rfl)) (hw _ (List.mem_of_getElem? (i := 3) rfl)) e0 (g := (mkF m 31 #[.val (.long q), .second, .val (.int (128 : Int32))] [])) rfl (hb hby dlv_31) (by decide) (by decide)
    obtain ⟨b3, g3⟩ : ∃ z, z = h0.size := ⟨_, rfl⟩
    rw [← g3] at A3 D3 st3
    have F3_value : Fld Z h3 b3 "java/lang/Long" "value" "J" (.long (0 : Int64)) := D3 (Or.inr (hw _ (List.mem_of_getElem? (i := 48) rfl))) (ty := .long) (by decide)
    have d_ca_b3 : ca ≠ b3 := Nat.ne_of_lt (Nat.lt_of_lt_of_le Ar.lt (Nat.le_of_eq g3.symm))
    have gb_b3 : n0 ≤ b3 := Nat.le_trans Z0 (Nat.le_of_eq g3.symm)
    have sz_b3 : h0.size ≤ b3 := Nat.le_trans (Keep.refl h0 []).1 (Nat.le_of_eq g3.symm)
    have f3_4 := Ar.ext E3
    have K5 : Keep h0 h3 [] := (Keep.refl h0 []).ext E3
    have Z6 : n0 ≤ h3.size := Nat.le_trans Z0 E3.1
    obtain ⟨_, _, ⟨T7, L7, k7, n7⟩, -, X7, ⟨Lc7, hQ7, l7, y7, z7⟩, st7⟩ := X3.specialBack hx (y := (⟨"java/lang/Long", "<init>", "(J)V"⟩ : MethodName)) rfl hown (mvT hZ (hw _ (List.mem_of_getElem? (i := 42) rfl))) (mvT hZ (hw _ (List.mem_of_getElem? (i := 43) rfl))) (mvT hZ (hw _ (List.mem_of_getElem? (i := 44) rfl))) (by decide) (backOf (W := 1) (rmli l Z a0 hw [] b3 q h3 n0 Z6 A3 F3_value gb_b3) hZ (hw _ (List.mem_of_getElem? (i := 44) rfl)) (hw _ (List.mem_of_getElem? (i := 3) rfl)) (by decide) (by decide)) (g := (mkF m 36 #[.val (.long q), .second, .val (.int (128 : Int32))] [(.long q), (.ref b3), (.ref b3)])) rfl (by rw [hml]; rfl) (Steps.refl _) (a := b3) (argsL := [(.long q)]) (rest := [(.ref b3)]) (lenOf pdlv_0 rfl) rfl (by show 2 * 0 + _ ≤ _; exact Nat.le_of_eq rfl) (hb hby dlv_36) (fun _ _ => ⟨rfl, e3, (by decide : 1 + 0 ≤ _), (by decide : 1 + 0 ≤ _)⟩)
    dsimp only [Pt.U, Pt.locs, Pt.cells, Pt.slots] at X7 l7 y7 z7 st7 hQ7
    subst l7 y7 z7
    obtain ⟨rfl, N7q, KC7, EB7⟩ := hQ7
    have K8 : Keep h0 T7.heap [] := K5.trans KC7 (allS (Or.inr sz_b3) all0)
    have N7 := Fr.app N0 N7q
    have pre9 : ∀ tg_, Steps p.tables e below (T7.setTop (mkF m 39 #[.val (.long q), .second, .val (.int (128 : Int32))] [(.ref b3)])) tg_ → Steps p.tables e below (s₁.setTop (entryFrame m #[(.long q)] 3)) tg_ := by
      intro tg_ kt
      refine pre1 _ ?_
      show Steps p.tables e below (s₁.setTop (mkF m 9 #[.val (.long q), .second, .val (.int (128 : Int32))] [(.int (XT.cmpL q (-128 : Int64)))])) _
      refine XS.ifYes X0.here hx rfl (pc0 := 9) (pc' := 31) rfl (hb hby dlv_9) rfl (XT.ll_lt_t hc9_2) (by decide) (by decide) ?_
      show Steps p.tables e below (s₁.setTop (mkF m 31 #[.val (.long q), .second, .val (.int (128 : Int32))] [])) _
      refine st3 _ ?_
      show Steps p.tables e below (T3.setTop (mkF m 34 #[.val (.long q), .second, .val (.int (128 : Int32))] [(.ref b3)])) _
      refine XS.dup X3.here hx rfl (hb hby dlv_34) rfl rfl ?_
      show Steps p.tables e below (T3.setTop (mkF m 35 #[.val (.long q), .second, .val (.int (128 : Int32))] [(.ref b3), (.ref b3)])) _
      refine XS.lloadN X3.here hx rfl (hb hby dlv_35) rfl ?_
      show Steps p.tables e below (T3.setTop (mkF m 36 #[.val (.long q), .second, .val (.int (128 : Int32))] [(.long q), (.ref b3), (.ref b3)])) _
      refine st7.trans ?_
      exact kt
    obtain ⟨fs, hr, hrun, hended, hW, hsame⟩ := X7.leave (v := some (.ref b3)) (fun h => by rw [Bd.returns] at h; cases h)
    refine ⟨_, _, pre9 _ ?_, hrun, hended, _, _, rfl, ?_, ⟨_, rfl⟩, hW, hsame.mono (by decide) (by decide)⟩
    · show Steps p.tables e below (T7.setTop (mkF m 39 #[.val (.long q), .second, .val (.int (128 : Int32))] [(.ref b3)])) _
      jvm_step X7.here [X7.here.top, hx, (hb hby dlv_39), X7.method', Bd.returns, Value.isRef, FieldType.isReference]
      first | (intro acts; rw [hr _ acts rfl rfl rfl]) | rw [hr _ _ rfl rfl rfl]
      exact Steps.refl _
    · show QO Z "java/lang/Long" h0 n0 _ T7.heap _
      exact ⟨_, rfl, N7, K8, EB7⟩
  · have pre10 : ∀ tg_, Steps p.tables e below (s₁.setTop (mkF m 17 #[.val (.long q), .second, .val (.int (128 : Int32))] [(.int (XT.cmpL q (127 : Int64)))])) tg_ → Steps p.tables e below (s₁.setTop (entryFrame m #[(.long q)] 3)) tg_ := by
      intro tg_ kt
      refine pre1 _ ?_
      show Steps p.tables e below (s₁.setTop (mkF m 9 #[.val (.long q), .second, .val (.int (128 : Int32))] [(.int (XT.cmpL q (-128 : Int64)))])) _
      refine XS.ifNo X0.here hx rfl (hb hby dlv_9) rfl (XT.ll_lt_f hc9_2) ?_
      show Steps p.tables e below (s₁.setTop (mkF m 12 #[.val (.long q), .second, .val (.int (128 : Int32))] [])) _
      refine XS.lloadN X0.here hx rfl (hb hby dlv_12) rfl ?_
      show Steps p.tables e below (s₁.setTop (mkF m 13 #[.val (.long q), .second, .val (.int (128 : Int32))] [(.long q)])) _
      refine X0.ldc2J hx hown (mvT hZ (hw _ (List.mem_of_getElem? (i := 6) rfl))) (g := (mkF m 13 #[.val (.long q), .second, .val (.int (128 : Int32))] [(.long q)])) rfl (hb hby dlv_13) ?_
      show Steps p.tables e below (s₁.setTop (mkF m 16 #[.val (.long q), .second, .val (.int (128 : Int32))] [(.long (127 : Int64)), (.long q)])) _
      refine XT.lcmp X0.here hx rfl (hb hby dlv_16) rfl ?_
      exact kt
    by_cases hc17_11 : (127 : Int64) < q
    · obtain ⟨T12, h12, X12, e12, E12, A12, D12, -, st12⟩ := newO X0 hx hZ hown (hw _ (List.mem_of_getElem? (i := 40) rfl)) (hw _ (List.mem_of_getElem? (i := 41) rfl)) (hw _ (List.mem_of_getElem? (i := 3) rfl)) e0 (g := (mkF m 31 #[.val (.long q), .second, .val (.int (128 : Int32))] [])) rfl (hb hby dlv_31) (by decide) (by decide)
      obtain ⟨b12, g12⟩ : ∃ z, z = h0.size := ⟨_, rfl⟩
      rw [← g12] at A12 D12 st12
      have F12_value : Fld Z h12 b12 "java/lang/Long" "value" "J" (.long (0 : Int64)) := D12 (Or.inr (hw _ (List.mem_of_getElem? (i := 48) rfl))) (ty := .long) (by decide)
      have d_ca_b12 : ca ≠ b12 := Nat.ne_of_lt (Nat.lt_of_lt_of_le Ar.lt (Nat.le_of_eq g12.symm))
      have gb_b12 : n0 ≤ b12 := Nat.le_trans Z0 (Nat.le_of_eq g12.symm)
      have sz_b12 : h0.size ≤ b12 := Nat.le_trans (Keep.refl h0 []).1 (Nat.le_of_eq g12.symm)
      have f12_13 := Ar.ext E12
      have K14 : Keep h0 h12 [] := (Keep.refl h0 []).ext E12
      have Z15 : n0 ≤ h12.size := Nat.le_trans Z0 E12.1
      obtain ⟨_, _, ⟨T16, L16, k16, n16⟩, -, X16, ⟨Lc16, hQ16, l16, y16, z16⟩, st16⟩ := X12.specialBack hx (y := (⟨"java/lang/Long", "<init>", "(J)V"⟩ : MethodName)) rfl hown (mvT hZ (hw _ (List.mem_of_getElem? (i := 42) rfl))) (mvT hZ (hw _ (List.mem_of_getElem? (i := 43) rfl))) (mvT hZ (hw _ (List.mem_of_getElem? (i := 44) rfl))) (by decide) (backOf (W := 1) (rmli l Z a0 hw [] b12 q h12 n0 Z15 A12 F12_value gb_b12) hZ (hw _ (List.mem_of_getElem? (i := 44) rfl)) (hw _ (List.mem_of_getElem? (i := 3) rfl)) (by decide) (by decide)) (g := (mkF m 36 #[.val (.long q), .second, .val (.int (128 : Int32))] [(.long q), (.ref b12), (.ref b12)])) rfl (by rw [hml]; rfl) (Steps.refl _) (a := b12) (argsL := [(.long q)]) (rest := [(.ref b12)]) (lenOf pdlv_0 rfl) rfl (by show 2 * 0 + _ ≤ _; exact Nat.le_of_eq rfl) (hb hby dlv_36) (fun _ _ => ⟨rfl, e12, (by decide : 1 + 0 ≤ _), (by decide : 1 + 0 ≤ _)⟩)
      dsimp only [Pt.U, Pt.locs, Pt.cells, Pt.slots] at X16 l16 y16 z16 st16 hQ16
      subst l16 y16 z16
      obtain ⟨rfl, N16q, KC16, EB16⟩ := hQ16
      have K17 : Keep h0 T16.heap [] := K14.trans KC16 (allS (Or.inr sz_b12) all0)
      have N16 := Fr.app N0 N16q
      have pre18 : ∀ tg_, Steps p.tables e below (T16.setTop (mkF m 39 #[.val (.long q), .second, .val (.int (128 : Int32))] [(.ref b12)])) tg_ → Steps p.tables e below (s₁.setTop (entryFrame m #[(.long q)] 3)) tg_ := by
        intro tg_ kt
        refine pre10 _ ?_
        show Steps p.tables e below (s₁.setTop (mkF m 17 #[.val (.long q), .second, .val (.int (128 : Int32))] [(.int (XT.cmpL q (127 : Int64)))])) _
        refine XS.ifYes X0.here hx rfl (pc0 := 17) (pc' := 31) rfl (hb hby dlv_17) rfl (XT.ll_gt_t hc17_11) (by decide) (by decide) ?_
        show Steps p.tables e below (s₁.setTop (mkF m 31 #[.val (.long q), .second, .val (.int (128 : Int32))] [])) _
        refine st12 _ ?_
        show Steps p.tables e below (T12.setTop (mkF m 34 #[.val (.long q), .second, .val (.int (128 : Int32))] [(.ref b12)])) _
        refine XS.dup X12.here hx rfl (hb hby dlv_34) rfl rfl ?_
        show Steps p.tables e below (T12.setTop (mkF m 35 #[.val (.long q), .second, .val (.int (128 : Int32))] [(.ref b12), (.ref b12)])) _
        refine XS.lloadN X12.here hx rfl (hb hby dlv_35) rfl ?_
        show Steps p.tables e below (T12.setTop (mkF m 36 #[.val (.long q), .second, .val (.int (128 : Int32))] [(.long q), (.ref b12), (.ref b12)])) _
        refine st16.trans ?_
        exact kt
      obtain ⟨fs, hr, hrun, hended, hW, hsame⟩ := X16.leave (v := some (.ref b12)) (fun h => by rw [Bd.returns] at h; cases h)
      refine ⟨_, _, pre18 _ ?_, hrun, hended, _, _, rfl, ?_, ⟨_, rfl⟩, hW, hsame.mono (by decide) (by decide)⟩
      · show Steps p.tables e below (T16.setTop (mkF m 39 #[.val (.long q), .second, .val (.int (128 : Int32))] [(.ref b12)])) _
        jvm_step X16.here [X16.here.top, hx, (hb hby dlv_39), X16.method', Bd.returns, Value.isRef, FieldType.isReference]
        first | (intro acts; rw [hr _ acts rfl rfl rfl]) | rw [hr _ _ rfl rfl rfl]
        exact Steps.refl _
      · show QO Z "java/lang/Long" h0 n0 _ T16.heap _
        exact ⟨_, rfl, N16, K17, EB16⟩
    · obtain ⟨T19, X19, e19, st19⟩ := getS2 X0 hx hZ hown (host := "") (Or.inl (hw _ (List.mem_of_getElem? (i := 7) rfl))) Via.refl e0 S_C (g := (mkF m 20 #[.val (.long q), .second, .val (.int (128 : Int32))] [])) rfl (hb hby dlv_20)
      have hin20 : ¬ ((q.toInt32 + (128 : Int32)) < 0 ∨ cc.slots.size ≤ ((q.toInt32 + (128 : Int32))).toNatClampNeg) := own_cidx hsz hc9_2 hc17_11
      obtain ⟨b20, hat20, EB20⟩ := hB _ hin20
      have pre21 : ∀ tg_, Steps p.tables e below (T19.setTop (mkF m 30 #[.val (.long q), .second, .val (.int (128 : Int32))] [(.ref b20)])) tg_ → Steps p.tables e below (s₁.setTop (entryFrame m #[(.long q)] 3)) tg_ := by
        intro tg_ kt
        refine pre10 _ ?_
        show Steps p.tables e below (s₁.setTop (mkF m 17 #[.val (.long q), .second, .val (.int (128 : Int32))] [(.int (XT.cmpL q (127 : Int64)))])) _
        refine XS.ifNo X0.here hx rfl (hb hby dlv_17) rfl (XT.ll_gt_f hc17_11) ?_
        show Steps p.tables e below (s₁.setTop (mkF m 20 #[.val (.long q), .second, .val (.int (128 : Int32))] [])) _
        refine st19 _ ?_
        show Steps p.tables e below (T19.setTop (mkF m 23 #[.val (.long q), .second, .val (.int (128 : Int32))] [(.ref ca)])) _
        refine XS.lloadN X19.here hx rfl (hb hby dlv_23) rfl ?_
        show Steps p.tables e below (T19.setTop (mkF m 24 #[.val (.long q), .second, .val (.int (128 : Int32))] [(.long q), (.ref ca)])) _
        refine XS.l2i X19.here hx rfl (hb hby dlv_24) rfl ?_
        show Steps p.tables e below (T19.setTop (mkF m 25 #[.val (.long q), .second, .val (.int (128 : Int32))] [(.int q.toInt32), (.ref ca)])) _
        refine XS.sipush X19.here hx rfl (hb hby dlv_25) ?_
        show Steps p.tables e below (T19.setTop (mkF m 28 #[.val (.long q), .second, .val (.int (128 : Int32))] [(.int (128 : Int32)), (.int q.toInt32), (.ref ca)])) _
        refine XS.iadd X19.here hx rfl (hb hby dlv_28) rfl ?_
        show Steps p.tables e below (T19.setTop (mkF m 29 #[.val (.long q), .second, .val (.int (128 : Int32))] [(.int (q.toInt32 + (128 : Int32))), (.ref ca)])) _
        refine X19.aaload hx (j := (q.toInt32 + (128 : Int32))) (v := (.ref b20)) (by rw [e19]; exact Ar.1) (State.isArrayOf_alike hZ.alike Ar.2.1) rfl Ar.2.2 hin20 hat20 (g := (mkF m 29 #[.val (.long q), .second, .val (.int (128 : Int32))] [(.int (q.toInt32 + (128 : Int32))), (.ref ca)])) rfl rfl (hb hby dlv_29) _ ?_
        exact kt
      obtain ⟨fs, hr, hrun, hended, hW, hsame⟩ := X19.leave (v := some (.ref b20)) (fun h => by rw [Bd.returns] at h; cases h)
      refine ⟨_, _, pre21 _ ?_, hrun, hended, _, _, rfl, ?_, ⟨_, rfl⟩, hW, hsame.mono (by decide) (by decide)⟩
      · show Steps p.tables e below (T19.setTop (mkF m 30 #[.val (.long q), .second, .val (.int (128 : Int32))] [(.ref b20)])) _
        jvm_step X19.here [X19.here.top, hx, (hb hby dlv_30), X19.method', Bd.returns, Value.isRef, FieldType.isReference]
        first | (intro acts; rw [hr _ acts rfl rfl rfl]) | rw [hr _ _ rfl rfl rfl]
        exact Steps.refl _
      · show QO Z "java/lang/Long" h0 n0 _ T19.heap _
        rw [e19]
        exact ⟨_, rfl, N0, (Keep.refl h0 []), EB20⟩
theorem ddv_0 : decode jdk_117_method_4_code 0 = .ok (.new 1, 3) := by decide +kernel
theorem ddv_3 : decode jdk_117_method_4_code 3 = .ok (.dup, 1) := by decide +kernel
theorem ddv_4 : decode jdk_117_method_4_code 4 = .ok (.dload_n 0, 1) := by decide +kernel
theorem ddv_5 : decode jdk_117_method_4_code 5 = .ok (.invokespecial 105, 3) := by decide +kernel
theorem ddv_8 : decode jdk_117_method_4_code 8 = .ok (.areturn, 1) := by decide +kernel
theorem pndv : plainName "java/lang/Double" = true := by first | (simp [plainName, overriddenIn]; done) | decide +kernel
theorem pddv_0 : parseMethodDescriptor "(D)V" = some ⟨[.double], none⟩ := by decide +kernel
theorem efdv (m : MethodId) (x0 : UInt64) : entryFrame m #[(.double x0)] 2 = mkF m 0 #[.val (.double x0), .second] [] := by first | (simp [entryFrame, mkF, argsToLocals, Value.category]; done) | rfl
set_option maxRecDepth 65536 in
set_option maxHeartbeats 40000000 in
theorem rmdv (l : Launch) (Z : State) (a0 : Array Value) (hw : ∀ d ∈ tables_1, d.before a0 Z = true) (ws : List Jvm.Cond) (q : UInt64) (h0 : Heap) (n0 : Nat) (Z0 : n0 ≤ h0.size) :
    MetFree l (⟨"java/lang/Double", "valueOf", "(D)Ljava/lang/Double;"⟩ : MethodName) (head1 (Jvm.Cond.code (⟨"java/lang/Double", "valueOf", "(D)Ljava/lang/Double;"⟩ : MethodName) jdk_117_method_4_code 2 (some (.object "java/lang/Double")) :: ws) ({ frames := 3, cells := 1, slots := 1, locals := 39 } : Room)) (fun aa_ U => aa_ = #[(.double q)] ∧ Z.Warmed39 U.vm ∧ U.heap = h0) (fun _ _ _ _ _ => True) (fun _ U o U' => ∃ vv_ LL_, o = .returned vv_ ∧ QO Z "java/lang/Double" h0 n0 vv_ U'.heap LL_ ∧ FrameEnd U o U' LL_ ({ frames := 3, cells := 1, slots := 1, locals := 39 } : Room).cells ({ frames := 3, cells := 1, slots := 1, locals := 39 } : Room).slots) := by
  refine MetFree.of_bodySF (plainFor_of_name pndv) hisR ?_
  intro p e s m args below meth c s₁ Bd hml0 hP hK
  obtain ⟨rfl, hZ, hh⟩ := hP
  have hx := Bd.exec
  have hby := Bd.bytes
  have hml : c.maxLocals = 2 := hml0
  have hown : s.vm.findClass "java/lang/Double" = some m.cls := findClass_of_methodNamed Bd.named
  have hnm := (name_of_methodNamed Bd.named Bd.method).1
  have X0 : Stand p l e ({ frames := 3, cells := 1, slots := 1, locals := 39 } : Room) s m #[(.double q)] below meth c s₁ [] 0 0 := Stand.of_body Bd
  have e0 : s₁.heap = h0 := by rw [← hh, Bd.state]; rfl
  have N0 := Fr.nil n0
  have pre0 : ∀ tg_, Steps p.tables e below (s₁.setTop (mkF m 0 #[.val (.double q), .second] [])) tg_ → Steps p.tables e below (s₁.setTop (entryFrame m #[(.double q)] 2)) tg_ := fun tg_ kt => castTop (efdv m q) kt
  obtain ⟨T1, h1, X1, e1, E1, A1, D1, -, st1⟩ := newO X0 hx hZ hown (hw _ (List.mem_of_getElem? (i := 19) rfl)) (hw _ (List.mem_of_getElem? (i := 20) rfl)) (hw _ (List.mem_of_getElem? (i := 17) rfl)) e0 (g := (mkF m 0 #[.val (.double q), .second] [])) rfl (hb hby ddv_0) (by decide) (by decide)
  obtain ⟨b1, g1⟩ : ∃ z, z = h0.size := ⟨_, rfl⟩
  rw [← g1] at A1 D1 st1
  have F1_value : Fld Z h1 b1 "java/lang/Double" "value" "D" (.double 0) := D1 (Or.inr (hw _ (List.mem_of_getElem? (i := 35) rfl))) (ty := .double) (by decide)
  have gb_b1 : n0 ≤ b1 := Nat.le_trans Z0 (Nat.le_of_eq g1.symm)
  have sz_b1 : h0.size ≤ b1 := Nat.le_trans (Keep.refl h0 []).1 (Nat.le_of_eq g1.symm)
  have K2 : Keep h0 h1 [] := (Keep.refl h0 []).ext E1
  have Z3 : n0 ≤ h1.size := Nat.le_trans Z0 E1.1
  obtain ⟨_, _, ⟨T4, L4, k4, n4⟩, -, X4, ⟨Lc4, hQ4, l4, y4, z4⟩, st4⟩ := X1.specialBack hx (y := (⟨"java/lang/Double", "<init>", "(D)V"⟩ : MethodName)) rfl hown (mvT hZ (hw _ (List.mem_of_getElem? (i := 21) rfl))) (mvT hZ (hw _ (List.mem_of_getElem? (i := 22) rfl))) (mvT hZ (hw _ (List.mem_of_getElem? (i := 24) rfl))) (by decide) (backOf (W := 1) (rmdi l Z a0 hw [] b1 q h1 n0 Z3 A1 F1_value gb_b1) hZ (hw _ (List.mem_of_getElem? (i := 24) rfl)) (hw _ (List.mem_of_getElem? (i := 17) rfl)) (by decide) (by decide)) (g := (mkF m 5 #[.val (.double q), .second] [(.double q), (.ref b1), (.ref b1)])) rfl (by rw [hml]; rfl) (Steps.refl _) (a := b1) (argsL := [(.double q)]) (rest := [(.ref b1)]) (lenOf pddv_0 rfl) rfl (by show 2 * 0 + _ ≤ _; exact Nat.le_of_eq rfl) (hb hby ddv_5) (fun _ _ => ⟨rfl, e1, (by decide : 1 + 0 ≤ _), (by decide : 1 + 0 ≤ _)⟩)
  dsimp only [Pt.U, Pt.locs, Pt.cells, Pt.slots] at X4 l4 y4 z4 st4 hQ4
  subst l4 y4 z4
  obtain ⟨rfl, N4q, KC4, EB4⟩ := hQ4
  have K5 : Keep h0 T4.heap [] := K2.trans KC4 (allS (Or.inr sz_b1) all0)
  have N4 := Fr.app N0 N4q
  have pre6 : ∀ tg_, Steps p.tables e below (T4.setTop (mkF m 8 #[.val (.double q), .second] [(.ref b1)])) tg_ → Steps p.tables e below (s₁.setTop (entryFrame m #[(.double q)] 2)) tg_ := by
    intro tg_ kt
    refine pre0 _ ?_
    show Steps p.tables e below (s₁.setTop (mkF m 0 #[.val (.double q), .second] [])) _
    refine st1 _ ?_
    show Steps p.tables e below (T1.setTop (mkF m 3 #[.val (.double q), .second] [(.ref b1)])) _
    refine XS.dup X1.here hx rfl (hb hby ddv_3) rfl rfl ?_
    show Steps p.tables e below (T1.setTop (mkF m 4 #[.val (.double q), .second] [(.ref b1), (.ref b1)])) _
    refine XS.dloadN X1.here hx rfl (hb hby ddv_4) rfl ?_
    show Steps p.tables e below (T1.setTop (mkF m 5 #[.val (.double q), .second] [(.double q), (.ref b1), (.ref b1)])) _
    refine st4.trans ?_
    exact kt
  obtain ⟨fs, hr, hrun, hended, hW, hsame⟩ := X4.leave (v := some (.ref b1)) (fun h => by rw [Bd.returns] at h; cases h)
  refine ⟨_, _, pre6 _ ?_, hrun, hended, _, _, rfl, ?_, ⟨_, rfl⟩, hW, hsame.mono (by decide) (by decide)⟩
  · show Steps p.tables e below (T4.setTop (mkF m 8 #[.val (.double q), .second] [(.ref b1)])) _
    jvm_step X4.here [X4.here.top, hx, (hb hby ddv_8), X4.method', Bd.returns, Value.isRef, FieldType.isReference]
    first | (intro acts; rw [hr _ acts rfl rfl rfl]) | rw [hr _ _ rfl rfl rfl]
    exact Steps.refl _
  · show QO Z "java/lang/Double" h0 n0 _ T4.heap _
    exact ⟨_, rfl, N4, K5, EB4⟩
theorem dkl_0 : decode prog_203_method_2_code 0 = .ok (.aload_n 0, 1) := by decide +kernel
theorem dkl_1 : decode prog_203_method_2_code 1 = .ok (.instanceof 10, 3) := by decide +kernel
theorem dkl_4 : decode prog_203_method_2_code 4 = .ok (.ifCond .eq 8, 3) := by decide +kernel
theorem dkl_7 : decode prog_203_method_2_code 7 = .ok (.iconst 0, 1) := by decide +kernel
theorem dkl_8 : decode prog_203_method_2_code 8 = .ok (.istore_n 1, 1) := by decide +kernel
theorem dkl_9 : decode prog_203_method_2_code 9 = .ok (.goto 37, 3) := by decide +kernel
theorem dkl_46 : decode prog_203_method_2_code 46 = .ok (.iload_n 1, 1) := by decide +kernel
theorem dkl_47 : decode prog_203_method_2_code 47 = .ok (.ireturn, 1) := by decide +kernel
theorem pnkl : plainName "com/example/hornbrook/hornbrook/Values" = true := by first | (simp [plainName, overriddenIn]; done) | decide +kernel
theorem efkl (m : MethodId) (x0 : Addr) : entryFrame m #[(.ref x0)] 2 = mkF m 0 #[.val (.ref x0), .unset] [] := by first | (simp [entryFrame, mkF, argsToLocals, Value.category]; done) | rfl
set_option maxRecDepth 65536 in
set_option maxHeartbeats 40000000 in
theorem rmkl (l : Launch) (Z : State) (a0 : Array Value) (hw : ∀ d ∈ tables_1, d.before a0 Z = true) (ws : List Jvm.Cond) (a : Addr) (h0 : Heap) (n0 : Nat) (Z0 : n0 ≤ h0.size) (EX : Exa Z h0 a "java/lang/Long") :
    MetFree l (⟨"com/example/hornbrook/hornbrook/Values", "kind", "(Ljava/lang/Object;)B"⟩ : MethodName) (head1 (Jvm.Cond.code (⟨"com/example/hornbrook/hornbrook/Values", "kind", "(Ljava/lang/Object;)B"⟩ : MethodName) prog_203_method_2_code 2 (some .byte) :: ws) ({ frames := 0, cells := 0, slots := 0, locals := 0 } : Room)) (fun aa_ U => aa_ = #[(.ref a)] ∧ Z.Warmed39 U.vm ∧ U.heap = h0) (fun _ _ _ _ _ => True) (fun _ U o U' => ∃ vv_ LL_, o = .returned vv_ ∧ Q1 Z (.int 0) h0 n0 vv_ U'.heap LL_ ∧ FrameEnd U o U' LL_ ({ frames := 0, cells := 0, slots := 0, locals := 0 } : Room).cells ({ frames := 0, cells := 0, slots := 0, locals := 0 } : Room).slots) := by
  refine MetFree.of_bodySF (plainFor_of_name pnkl) hisR ?_
  intro p e s m args below meth c s₁ Bd hml0 hP hK
  obtain ⟨rfl, hZ, hh⟩ := hP
  have hx := Bd.exec
  have hby := Bd.bytes
  have hml : c.maxLocals = 2 := hml0
  have hown : s.vm.findClass "com/example/hornbrook/hornbrook/Values" = some m.cls := findClass_of_methodNamed Bd.named
  have hnm := (name_of_methodNamed Bd.named Bd.method).1
  have X0 : Stand p l e ({ frames := 0, cells := 0, slots := 0, locals := 0 } : Room) s m #[(.ref a)] below meth c s₁ [] 0 0 := Stand.of_body Bd
  have e0 : s₁.heap = h0 := by rw [← hh, Bd.state]; rfl
  have N0 := Fr.nil n0
  have pre0 : ∀ tg_, Steps p.tables e below (s₁.setTop (mkF m 0 #[.val (.ref a), .unset] [])) tg_ → Steps p.tables e below (s₁.setTop (entryFrame m #[(.ref a)] 2)) tg_ := fun tg_ kt => castTop (efkl m a) kt
  obtain ⟨T1, X1, e1, st1⟩ := instY X0 hx hZ hown (hw _ (List.mem_of_getElem? (i := 13) rfl)) e0 (Ins.self EX) (g := (mkF m 1 #[.val (.ref a), .unset] [(.ref a)])) rfl rfl (hb hby dkl_1)
  have pre2 : ∀ tg_, Steps p.tables e below (T1.setTop (mkF m 47 #[.val (.ref a), .val (.int (0 : Int32))] [(.int (0 : Int32))])) tg_ → Steps p.tables e below (s₁.setTop (entryFrame m #[(.ref a)] 2)) tg_ := by
    intro tg_ kt
    refine pre0 _ ?_
    show Steps p.tables e below (s₁.setTop (mkF m 0 #[.val (.ref a), .unset] [])) _
    refine XS.aloadN X0.here hx rfl (hb hby dkl_0) rfl rfl ?_
    show Steps p.tables e below (s₁.setTop (mkF m 1 #[.val (.ref a), .unset] [(.ref a)])) _
    refine st1 _ ?_
    show Steps p.tables e below (T1.setTop (mkF m 4 #[.val (.ref a), .unset] [(.int (1 : Int32))])) _
    refine XS.ifNo X1.here hx rfl (hb hby dkl_4) rfl (XT.i0_eq_f (by decide)) ?_
    show Steps p.tables e below (T1.setTop (mkF m 7 #[.val (.ref a), .unset] [])) _
    refine XS.iconst X1.here hx rfl (hb hby dkl_7) ?_
    show Steps p.tables e below (T1.setTop (mkF m 8 #[.val (.ref a), .unset] [(.int (0 : Int32))])) _
    refine XS.istoreN X1.here hx rfl (hb hby dkl_8) rfl (l' := #[.val (.ref a), .val (.int (0 : Int32))]) rfl ?_
    show Steps p.tables e below (T1.setTop (mkF m 9 #[.val (.ref a), .val (.int (0 : Int32))] [])) _
    refine XS.goto X1.here hx rfl (pc0 := 9) (pc' := 46) rfl (hb hby dkl_9) (by decide) (by decide) ?_
    show Steps p.tables e below (T1.setTop (mkF m 46 #[.val (.ref a), .val (.int (0 : Int32))] [])) _
    refine XS.iloadN X1.here hx rfl (hb hby dkl_46) rfl ?_
    exact kt
  obtain ⟨fs, hr, hrun, hended, hW, hsame⟩ := X1.leave (v := some (.int (0 : Int32))) (fun h => by rw [Bd.returns] at h; cases h)
  refine ⟨_, _, pre2 _ ?_, hrun, hended, _, _, rfl, ?_, ⟨_, rfl⟩, hW, hsame.mono (by decide) (by decide)⟩
  · show Steps p.tables e below (T1.setTop (mkF m 47 #[.val (.ref a), .val (.int (0 : Int32))] [(.int (0 : Int32))])) _
    exact retN X1 hx (t := .byte) Bd.returns (by simp) (hb hby dkl_47) hr
  · show Q1 Z (.int 0) h0 n0 _ T1.heap _
    rw [e1]
    exact ⟨rfl, N0, rfl⟩
theorem dkd_0 : decode prog_203_method_2_code 0 = .ok (.aload_n 0, 1) := by decide +kernel
theorem dkd_1 : decode prog_203_method_2_code 1 = .ok (.instanceof 10, 3) := by decide +kernel
theorem dkd_4 : decode prog_203_method_2_code 4 = .ok (.ifCond .eq 8, 3) := by decide +kernel
theorem dkd_12 : decode prog_203_method_2_code 12 = .ok (.aload_n 0, 1) := by decide +kernel
theorem dkd_13 : decode prog_203_method_2_code 13 = .ok (.instanceof 14, 3) := by decide +kernel
theorem dkd_16 : decode prog_203_method_2_code 16 = .ok (.ifCond .eq 8, 3) := by decide +kernel
theorem dkd_19 : decode prog_203_method_2_code 19 = .ok (.iconst 1, 1) := by decide +kernel
theorem dkd_20 : decode prog_203_method_2_code 20 = .ok (.istore_n 1, 1) := by decide +kernel
theorem dkd_21 : decode prog_203_method_2_code 21 = .ok (.goto 25, 3) := by decide +kernel
theorem dkd_46 : decode prog_203_method_2_code 46 = .ok (.iload_n 1, 1) := by decide +kernel
theorem dkd_47 : decode prog_203_method_2_code 47 = .ok (.ireturn, 1) := by decide +kernel
theorem pnkd : plainName "com/example/hornbrook/hornbrook/Values" = true := by first | (simp [plainName, overriddenIn]; done) | decide +kernel
theorem efkd (m : MethodId) (x0 : Addr) : entryFrame m #[(.ref x0)] 2 = mkF m 0 #[.val (.ref x0), .unset] [] := by first | (simp [entryFrame, mkF, argsToLocals, Value.category]; done) | rfl
set_option maxRecDepth 65536 in
set_option maxHeartbeats 40000000 in
theorem rmkd (l : Launch) (Z : State) (a0 : Array Value) (hw : ∀ d ∈ tables_1, d.before a0 Z = true) (ws : List Jvm.Cond) (a : Addr) (h0 : Heap) (n0 : Nat) (Z0 : n0 ≤ h0.size) (EX : Exa Z h0 a "java/lang/Double") :
    MetFree l (⟨"com/example/hornbrook/hornbrook/Values", "kind", "(Ljava/lang/Object;)B"⟩ : MethodName) (head1 (Jvm.Cond.code (⟨"com/example/hornbrook/hornbrook/Values", "kind", "(Ljava/lang/Object;)B"⟩ : MethodName) prog_203_method_2_code 2 (some .byte) :: ws) ({ frames := 0, cells := 0, slots := 0, locals := 0 } : Room)) (fun aa_ U => aa_ = #[(.ref a)] ∧ Z.Warmed39 U.vm ∧ U.heap = h0) (fun _ _ _ _ _ => True) (fun _ U o U' => ∃ vv_ LL_, o = .returned vv_ ∧ Q1 Z (.int 1) h0 n0 vv_ U'.heap LL_ ∧ FrameEnd U o U' LL_ ({ frames := 0, cells := 0, slots := 0, locals := 0 } : Room).cells ({ frames := 0, cells := 0, slots := 0, locals := 0 } : Room).slots) := by
  refine MetFree.of_bodySF (plainFor_of_name pnkd) hisR ?_
  intro p e s m args below meth c s₁ Bd hml0 hP hK
  obtain ⟨rfl, hZ, hh⟩ := hP
  have hx := Bd.exec
  have hby := Bd.bytes
  have hml : c.maxLocals = 2 := hml0
  have hown : s.vm.findClass "com/example/hornbrook/hornbrook/Values" = some m.cls := findClass_of_methodNamed Bd.named
  have hnm := (name_of_methodNamed Bd.named Bd.method).1
  have X0 : Stand p l e ({ frames := 0, cells := 0, slots := 0, locals := 0 } : Room) s m #[(.ref a)] below meth c s₁ [] 0 0 := Stand.of_body Bd
  have e0 : s₁.heap = h0 := by rw [← hh, Bd.state]; rfl
  have N0 := Fr.nil n0
  have pre0 : ∀ tg_, Steps p.tables e below (s₁.setTop (mkF m 0 #[.val (.ref a), .unset] [])) tg_ → Steps p.tables e below (s₁.setTop (entryFrame m #[(.ref a)] 2)) tg_ := fun tg_ kt => castTop (efkd m a) kt
  obtain ⟨T1, X1, e1, st1⟩ := instNo X0 hx hZ hown (hw _ (List.mem_of_getElem? (i := 13) rfl)) e0 EX (own_no (hw _ (List.mem_of_getElem? (i := 36) rfl)) (hw _ (List.mem_of_getElem? (i := 41) rfl)) (NS.step (hw _ (List.mem_of_getElem? (i := 36) rfl)) (NS.step (hw _ (List.mem_of_getElem? (i := 37) rfl)) (own_root (hw _ (List.mem_of_getElem? (i := 38) rfl)) (hw _ (List.mem_of_getElem? (i := 41) rfl)) (by decide)) (by decide)) (by decide)) (by decide)) (g := (mkF m 1 #[.val (.ref a), .unset] [(.ref a)])) rfl rfl (hb hby dkd_1)
  obtain ⟨T2, X2, e2, st2⟩ := instY X1 hx hZ hown (hw _ (List.mem_of_getElem? (i := 39) rfl)) e1 (Ins.self EX) (g := (mkF m 13 #[.val (.ref a), .unset] [(.ref a)])) rfl rfl (hb hby dkd_13)
  have pre3 : ∀ tg_, Steps p.tables e below (T2.setTop (mkF m 47 #[.val (.ref a), .val (.int (1 : Int32))] [(.int (1 : Int32))])) tg_ → Steps p.tables e below (s₁.setTop (entryFrame m #[(.ref a)] 2)) tg_ := by
    intro tg_ kt
    refine pre0 _ ?_
    show Steps p.tables e below (s₁.setTop (mkF m 0 #[.val (.ref a), .unset] [])) _
    refine XS.aloadN X0.here hx rfl (hb hby dkd_0) rfl rfl ?_
    show Steps p.tables e below (s₁.setTop (mkF m 1 #[.val (.ref a), .unset] [(.ref a)])) _
    refine st1 _ ?_
    show Steps p.tables e below (T1.setTop (mkF m 4 #[.val (.ref a), .unset] [(.int (0 : Int32))])) _
    refine XS.ifYes X1.here hx rfl (pc0 := 4) (pc' := 12) rfl (hb hby dkd_4) rfl (XT.i0_eq_t (by decide)) (by decide) (by decide) ?_
    show Steps p.tables e below (T1.setTop (mkF m 12 #[.val (.ref a), .unset] [])) _
    refine XS.aloadN X1.here hx rfl (hb hby dkd_12) rfl rfl ?_
    show Steps p.tables e below (T1.setTop (mkF m 13 #[.val (.ref a), .unset] [(.ref a)])) _
    refine st2 _ ?_
    show Steps p.tables e below (T2.setTop (mkF m 16 #[.val (.ref a), .unset] [(.int (1 : Int32))])) _
    refine XS.ifNo X2.here hx rfl (hb hby dkd_16) rfl (XT.i0_eq_f (by decide)) ?_
    show Steps p.tables e below (T2.setTop (mkF m 19 #[.val (.ref a), .unset] [])) _
    refine XS.iconst X2.here hx rfl (hb hby dkd_19) ?_
    show Steps p.tables e below (T2.setTop (mkF m 20 #[.val (.ref a), .unset] [(.int (1 : Int32))])) _
    refine XS.istoreN X2.here hx rfl (hb hby dkd_20) rfl (l' := #[.val (.ref a), .val (.int (1 : Int32))]) rfl ?_
    show Steps p.tables e below (T2.setTop (mkF m 21 #[.val (.ref a), .val (.int (1 : Int32))] [])) _
    refine XS.goto X2.here hx rfl (pc0 := 21) (pc' := 46) rfl (hb hby dkd_21) (by decide) (by decide) ?_
    show Steps p.tables e below (T2.setTop (mkF m 46 #[.val (.ref a), .val (.int (1 : Int32))] [])) _
    refine XS.iloadN X2.here hx rfl (hb hby dkd_46) rfl ?_
    exact kt
  obtain ⟨fs, hr, hrun, hended, hW, hsame⟩ := X2.leave (v := some (.int (1 : Int32))) (fun h => by rw [Bd.returns] at h; cases h)
  refine ⟨_, _, pre3 _ ?_, hrun, hended, _, _, rfl, ?_, ⟨_, rfl⟩, hW, hsame.mono (by decide) (by decide)⟩
  · show Steps p.tables e below (T2.setTop (mkF m 47 #[.val (.ref a), .val (.int (1 : Int32))] [(.int (1 : Int32))])) _
    exact retN X2 hx (t := .byte) Bd.returns (by simp) (hb hby dkd_47) hr
  · show Q1 Z (.int 1) h0 n0 _ T2.heap _
    rw [e2]
    exact ⟨rfl, N0, rfl⟩
theorem dks_0 : decode prog_203_method_2_code 0 = .ok (.aload_n 0, 1) := by decide +kernel
theorem dks_1 : decode prog_203_method_2_code 1 = .ok (.instanceof 10, 3) := by decide +kernel
theorem dks_4 : decode prog_203_method_2_code 4 = .ok (.ifCond .eq 8, 3) := by decide +kernel
theorem dks_12 : decode prog_203_method_2_code 12 = .ok (.aload_n 0, 1) := by decide +kernel
theorem dks_13 : decode prog_203_method_2_code 13 = .ok (.instanceof 14, 3) := by decide +kernel
theorem dks_16 : decode prog_203_method_2_code 16 = .ok (.ifCond .eq 8, 3) := by decide +kernel
theorem dks_24 : decode prog_203_method_2_code 24 = .ok (.aload_n 0, 1) := by decide +kernel
theorem dks_25 : decode prog_203_method_2_code 25 = .ok (.instanceof 16, 3) := by decide +kernel
theorem dks_28 : decode prog_203_method_2_code 28 = .ok (.ifCond .eq 8, 3) := by decide +kernel
theorem dks_31 : decode prog_203_method_2_code 31 = .ok (.iconst 2, 1) := by decide +kernel
theorem dks_32 : decode prog_203_method_2_code 32 = .ok (.istore_n 1, 1) := by decide +kernel
theorem dks_33 : decode prog_203_method_2_code 33 = .ok (.goto 13, 3) := by decide +kernel
theorem dks_46 : decode prog_203_method_2_code 46 = .ok (.iload_n 1, 1) := by decide +kernel
theorem dks_47 : decode prog_203_method_2_code 47 = .ok (.ireturn, 1) := by decide +kernel
theorem pnks : plainName "com/example/hornbrook/hornbrook/Values" = true := by first | (simp [plainName, overriddenIn]; done) | decide +kernel
theorem efks (m : MethodId) (x0 : Addr) : entryFrame m #[(.ref x0)] 2 = mkF m 0 #[.val (.ref x0), .unset] [] := by first | (simp [entryFrame, mkF, argsToLocals, Value.category]; done) | rfl
set_option maxRecDepth 65536 in
set_option maxHeartbeats 40000000 in
theorem rmks (l : Launch) (Z : State) (a0 : Array Value) (hw : ∀ d ∈ tables_1, d.before a0 Z = true) (ws : List Jvm.Cond) (a : Addr) (h0 : Heap) (n0 : Nat) (Z0 : n0 ≤ h0.size) (EX : Exa Z h0 a "java/lang/String") :
    MetFree l (⟨"com/example/hornbrook/hornbrook/Values", "kind", "(Ljava/lang/Object;)B"⟩ : MethodName) (head1 (Jvm.Cond.code (⟨"com/example/hornbrook/hornbrook/Values", "kind", "(Ljava/lang/Object;)B"⟩ : MethodName) prog_203_method_2_code 2 (some .byte) :: ws) ({ frames := 0, cells := 0, slots := 0, locals := 0 } : Room)) (fun aa_ U => aa_ = #[(.ref a)] ∧ Z.Warmed39 U.vm ∧ U.heap = h0) (fun _ _ _ _ _ => True) (fun _ U o U' => ∃ vv_ LL_, o = .returned vv_ ∧ Q1 Z (.int 2) h0 n0 vv_ U'.heap LL_ ∧ FrameEnd U o U' LL_ ({ frames := 0, cells := 0, slots := 0, locals := 0 } : Room).cells ({ frames := 0, cells := 0, slots := 0, locals := 0 } : Room).slots) := by
  refine MetFree.of_bodySF (plainFor_of_name pnks) hisR ?_
  intro p e s m args below meth c s₁ Bd hml0 hP hK
  obtain ⟨rfl, hZ, hh⟩ := hP
  have hx := Bd.exec
  have hby := Bd.bytes
  have hml : c.maxLocals = 2 := hml0
  have hown : s.vm.findClass "com/example/hornbrook/hornbrook/Values" = some m.cls := findClass_of_methodNamed Bd.named
  have hnm := (name_of_methodNamed Bd.named Bd.method).1
  have X0 : Stand p l e ({ frames := 0, cells := 0, slots := 0, locals := 0 } : Room) s m #[(.ref a)] below meth c s₁ [] 0 0 := Stand.of_body Bd
  have e0 : s₁.heap = h0 := by rw [← hh, Bd.state]; rfl
  have N0 := Fr.nil n0
  have pre0 : ∀ tg_, Steps p.tables e below (s₁.setTop (mkF m 0 #[.val (.ref a), .unset] [])) tg_ → Steps p.tables e below (s₁.setTop (entryFrame m #[(.ref a)] 2)) tg_ := fun tg_ kt => castTop (efks m a) kt
  obtain ⟨T1, X1, e1, st1⟩ := instNo X0 hx hZ hown (hw _ (List.mem_of_getElem? (i := 13) rfl)) e0 EX (own_no (hw _ (List.mem_of_getElem? (i := 85) rfl)) (hw _ (List.mem_of_getElem? (i := 41) rfl)) (NS.step (hw _ (List.mem_of_getElem? (i := 85) rfl)) (own_root (hw _ (List.mem_of_getElem? (i := 38) rfl)) (hw _ (List.mem_of_getElem? (i := 41) rfl)) (by decide)) (by decide)) (by decide)) (g := (mkF m 1 #[.val (.ref a), .unset] [(.ref a)])) rfl rfl (hb hby dks_1)
  obtain ⟨T2, X2, e2, st2⟩ := instNo X1 hx hZ hown (hw _ (List.mem_of_getElem? (i := 39) rfl)) e1 EX (own_no (hw _ (List.mem_of_getElem? (i := 85) rfl)) (hw _ (List.mem_of_getElem? (i := 20) rfl)) (NS.step (hw _ (List.mem_of_getElem? (i := 85) rfl)) (own_root (hw _ (List.mem_of_getElem? (i := 38) rfl)) (hw _ (List.mem_of_getElem? (i := 20) rfl)) (by decide)) (by decide)) (by decide)) (g := (mkF m 13 #[.val (.ref a), .unset] [(.ref a)])) rfl rfl (hb hby dks_13)
  obtain ⟨T3, X3, e3, st3⟩ := instY X2 hx hZ hown (hw _ (List.mem_of_getElem? (i := 52) rfl)) e2 (Ins.self EX) (g := (mkF m 25 #[.val (.ref a), .unset] [(.ref a)])) rfl rfl (hb hby dks_25)
  have pre4 : ∀ tg_, Steps p.tables e below (T3.setTop (mkF m 47 #[.val (.ref a), .val (.int (2 : Int32))] [(.int (2 : Int32))])) tg_ → Steps p.tables e below (s₁.setTop (entryFrame m #[(.ref a)] 2)) tg_ := by
    intro tg_ kt
    refine pre0 _ ?_
    show Steps p.tables e below (s₁.setTop (mkF m 0 #[.val (.ref a), .unset] [])) _
    refine XS.aloadN X0.here hx rfl (hb hby dks_0) rfl rfl ?_
    show Steps p.tables e below (s₁.setTop (mkF m 1 #[.val (.ref a), .unset] [(.ref a)])) _
    refine st1 _ ?_
    show Steps p.tables e below (T1.setTop (mkF m 4 #[.val (.ref a), .unset] [(.int (0 : Int32))])) _
    refine XS.ifYes X1.here hx rfl (pc0 := 4) (pc' := 12) rfl (hb hby dks_4) rfl (XT.i0_eq_t (by decide)) (by decide) (by decide) ?_
    show Steps p.tables e below (T1.setTop (mkF m 12 #[.val (.ref a), .unset] [])) _
    refine XS.aloadN X1.here hx rfl (hb hby dks_12) rfl rfl ?_
    show Steps p.tables e below (T1.setTop (mkF m 13 #[.val (.ref a), .unset] [(.ref a)])) _
    refine st2 _ ?_
    show Steps p.tables e below (T2.setTop (mkF m 16 #[.val (.ref a), .unset] [(.int (0 : Int32))])) _
    refine XS.ifYes X2.here hx rfl (pc0 := 16) (pc' := 24) rfl (hb hby dks_16) rfl (XT.i0_eq_t (by decide)) (by decide) (by decide) ?_
    show Steps p.tables e below (T2.setTop (mkF m 24 #[.val (.ref a), .unset] [])) _
    refine XS.aloadN X2.here hx rfl (hb hby dks_24) rfl rfl ?_
    show Steps p.tables e below (T2.setTop (mkF m 25 #[.val (.ref a), .unset] [(.ref a)])) _
    refine st3 _ ?_
    show Steps p.tables e below (T3.setTop (mkF m 28 #[.val (.ref a), .unset] [(.int (1 : Int32))])) _
    refine XS.ifNo X3.here hx rfl (hb hby dks_28) rfl (XT.i0_eq_f (by decide)) ?_
    show Steps p.tables e below (T3.setTop (mkF m 31 #[.val (.ref a), .unset] [])) _
    refine XS.iconst X3.here hx rfl (hb hby dks_31) ?_
    show Steps p.tables e below (T3.setTop (mkF m 32 #[.val (.ref a), .unset] [(.int (2 : Int32))])) _
    refine XS.istoreN X3.here hx rfl (hb hby dks_32) rfl (l' := #[.val (.ref a), .val (.int (2 : Int32))]) rfl ?_
    show Steps p.tables e below (T3.setTop (mkF m 33 #[.val (.ref a), .val (.int (2 : Int32))] [])) _
    refine XS.goto X3.here hx rfl (pc0 := 33) (pc' := 46) rfl (hb hby dks_33) (by decide) (by decide) ?_
    show Steps p.tables e below (T3.setTop (mkF m 46 #[.val (.ref a), .val (.int (2 : Int32))] [])) _
    refine XS.iloadN X3.here hx rfl (hb hby dks_46) rfl ?_
    exact kt
  obtain ⟨fs, hr, hrun, hended, hW, hsame⟩ := X3.leave (v := some (.int (2 : Int32))) (fun h => by rw [Bd.returns] at h; cases h)
  refine ⟨_, _, pre4 _ ?_, hrun, hended, _, _, rfl, ?_, ⟨_, rfl⟩, hW, hsame.mono (by decide) (by decide)⟩
  · show Steps p.tables e below (T3.setTop (mkF m 47 #[.val (.ref a), .val (.int (2 : Int32))] [(.int (2 : Int32))])) _
    exact retN X3 hx (t := .byte) Bd.returns (by simp) (hb hby dks_47) hr
  · show Q1 Z (.int 2) h0 n0 _ T3.heap _
    rw [e3]
    exact ⟨rfl, N0, rfl⟩
theorem dkb_0 : decode prog_203_method_2_code 0 = .ok (.aload_n 0, 1) := by decide +kernel
theorem dkb_1 : decode prog_203_method_2_code 1 = .ok (.instanceof 10, 3) := by decide +kernel
theorem dkb_4 : decode prog_203_method_2_code 4 = .ok (.ifCond .eq 8, 3) := by decide +kernel
theorem dkb_12 : decode prog_203_method_2_code 12 = .ok (.aload_n 0, 1) := by decide +kernel
theorem dkb_13 : decode prog_203_method_2_code 13 = .ok (.instanceof 14, 3) := by decide +kernel
theorem dkb_16 : decode prog_203_method_2_code 16 = .ok (.ifCond .eq 8, 3) := by decide +kernel
theorem dkb_24 : decode prog_203_method_2_code 24 = .ok (.aload_n 0, 1) := by decide +kernel
theorem dkb_25 : decode prog_203_method_2_code 25 = .ok (.instanceof 16, 3) := by decide +kernel
theorem dkb_28 : decode prog_203_method_2_code 28 = .ok (.ifCond .eq 8, 3) := by decide +kernel
theorem dkb_36 : decode prog_203_method_2_code 36 = .ok (.aload_n 0, 1) := by decide +kernel
theorem dkb_37 : decode prog_203_method_2_code 37 = .ok (.ifnonnull 7, 3) := by decide +kernel
theorem dkb_44 : decode prog_203_method_2_code 44 = .ok (.iconst 3, 1) := by decide +kernel
theorem dkb_45 : decode prog_203_method_2_code 45 = .ok (.istore_n 1, 1) := by decide +kernel
theorem dkb_46 : decode prog_203_method_2_code 46 = .ok (.iload_n 1, 1) := by decide +kernel
theorem dkb_47 : decode prog_203_method_2_code 47 = .ok (.ireturn, 1) := by decide +kernel
theorem pnkb : plainName "com/example/hornbrook/hornbrook/Values" = true := by first | (simp [plainName, overriddenIn]; done) | decide +kernel
theorem efkb (m : MethodId) (x0 : Addr) : entryFrame m #[(.ref x0)] 2 = mkF m 0 #[.val (.ref x0), .unset] [] := by first | (simp [entryFrame, mkF, argsToLocals, Value.category]; done) | rfl
set_option maxRecDepth 65536 in
set_option maxHeartbeats 40000000 in
theorem rmkb (l : Launch) (Z : State) (a0 : Array Value) (hw : ∀ d ∈ tables_1, d.before a0 Z = true) (ws : List Jvm.Cond) (a : Addr) (h0 : Heap) (n0 : Nat) (Z0 : n0 ≤ h0.size) (EX : Exa Z h0 a "java/lang/Boolean") :
    MetFree l (⟨"com/example/hornbrook/hornbrook/Values", "kind", "(Ljava/lang/Object;)B"⟩ : MethodName) (head1 (Jvm.Cond.code (⟨"com/example/hornbrook/hornbrook/Values", "kind", "(Ljava/lang/Object;)B"⟩ : MethodName) prog_203_method_2_code 2 (some .byte) :: ws) ({ frames := 0, cells := 0, slots := 0, locals := 0 } : Room)) (fun aa_ U => aa_ = #[(.ref a)] ∧ Z.Warmed39 U.vm ∧ U.heap = h0) (fun _ _ _ _ _ => True) (fun _ U o U' => ∃ vv_ LL_, o = .returned vv_ ∧ Q1 Z (.int 3) h0 n0 vv_ U'.heap LL_ ∧ FrameEnd U o U' LL_ ({ frames := 0, cells := 0, slots := 0, locals := 0 } : Room).cells ({ frames := 0, cells := 0, slots := 0, locals := 0 } : Room).slots) := by
  refine MetFree.of_bodySF (plainFor_of_name pnkb) hisR ?_
  intro p e s m args below meth c s₁ Bd hml0 hP hK
  obtain ⟨rfl, hZ, hh⟩ := hP
  have hx := Bd.exec
  have hby := Bd.bytes
  have hml : c.maxLocals = 2 := hml0
  have hown : s.vm.findClass "com/example/hornbrook/hornbrook/Values" = some m.cls := findClass_of_methodNamed Bd.named
  have hnm := (name_of_methodNamed Bd.named Bd.method).1
  have X0 : Stand p l e ({ frames := 0, cells := 0, slots := 0, locals := 0 } : Room) s m #[(.ref a)] below meth c s₁ [] 0 0 := Stand.of_body Bd
  have e0 : s₁.heap = h0 := by rw [← hh, Bd.state]; rfl
  have N0 := Fr.nil n0
  have pre0 : ∀ tg_, Steps p.tables e below (s₁.setTop (mkF m 0 #[.val (.ref a), .unset] [])) tg_ → Steps p.tables e below (s₁.setTop (entryFrame m #[(.ref a)] 2)) tg_ := fun tg_ kt => castTop (efkb m a) kt
  obtain ⟨T1, X1, e1, st1⟩ := instNo X0 hx hZ hown (hw _ (List.mem_of_getElem? (i := 13) rfl)) e0 EX (own_no (hw _ (List.mem_of_getElem? (i := 51) rfl)) (hw _ (List.mem_of_getElem? (i := 41) rfl)) (NS.step (hw _ (List.mem_of_getElem? (i := 51) rfl)) (own_root (hw _ (List.mem_of_getElem? (i := 38) rfl)) (hw _ (List.mem_of_getElem? (i := 41) rfl)) (by decide)) (by decide)) (by decide)) (g := (mkF m 1 #[.val (.ref a), .unset] [(.ref a)])) rfl rfl (hb hby dkb_1)
  obtain ⟨T2, X2, e2, st2⟩ := instNo X1 hx hZ hown (hw _ (List.mem_of_getElem? (i := 39) rfl)) e1 EX (own_no (hw _ (List.mem_of_getElem? (i := 51) rfl)) (hw _ (List.mem_of_getElem? (i := 20) rfl)) (NS.step (hw _ (List.mem_of_getElem? (i := 51) rfl)) (own_root (hw _ (List.mem_of_getElem? (i := 38) rfl)) (hw _ (List.mem_of_getElem? (i := 20) rfl)) (by decide)) (by decide)) (by decide)) (g := (mkF m 13 #[.val (.ref a), .unset] [(.ref a)])) rfl rfl (hb hby dkb_13)
  obtain ⟨T3, X3, e3, st3⟩ := instNo X2 hx hZ hown (hw _ (List.mem_of_getElem? (i := 52) rfl)) e2 EX (own_no (hw _ (List.mem_of_getElem? (i := 51) rfl)) (hw _ (List.mem_of_getElem? (i := 58) rfl)) (NS.step (hw _ (List.mem_of_getElem? (i := 51) rfl)) (own_root (hw _ (List.mem_of_getElem? (i := 38) rfl)) (hw _ (List.mem_of_getElem? (i := 58) rfl)) (by decide)) (by decide)) (by decide)) (g := (mkF m 25 #[.val (.ref a), .unset] [(.ref a)])) rfl rfl (hb hby dkb_25)
  have pre4 : ∀ tg_, Steps p.tables e below (T3.setTop (mkF m 47 #[.val (.ref a), .val (.int (3 : Int32))] [(.int (3 : Int32))])) tg_ → Steps p.tables e below (s₁.setTop (entryFrame m #[(.ref a)] 2)) tg_ := by
    intro tg_ kt
    refine pre0 _ ?_
    show Steps p.tables e below (s₁.setTop (mkF m 0 #[.val (.ref a), .unset] [])) _
    refine XS.aloadN X0.here hx rfl (hb hby dkb_0) rfl rfl ?_
    show Steps p.tables e below (s₁.setTop (mkF m 1 #[.val (.ref a), .unset] [(.ref a)])) _
    refine st1 _ ?_
    show Steps p.tables e below (T1.setTop (mkF m 4 #[.val (.ref a), .unset] [(.int (0 : Int32))])) _
    refine XS.ifYes X1.here hx rfl (pc0 := 4) (pc' := 12) rfl (hb hby dkb_4) rfl (XT.i0_eq_t (by decide)) (by decide) (by decide) ?_
    show Steps p.tables e below (T1.setTop (mkF m 12 #[.val (.ref a), .unset] [])) _
    refine XS.aloadN X1.here hx rfl (hb hby dkb_12) rfl rfl ?_
    show Steps p.tables e below (T1.setTop (mkF m 13 #[.val (.ref a), .unset] [(.ref a)])) _
    refine st2 _ ?_
    show Steps p.tables e below (T2.setTop (mkF m 16 #[.val (.ref a), .unset] [(.int (0 : Int32))])) _
    refine XS.ifYes X2.here hx rfl (pc0 := 16) (pc' := 24) rfl (hb hby dkb_16) rfl (XT.i0_eq_t (by decide)) (by decide) (by decide) ?_
    show Steps p.tables e below (T2.setTop (mkF m 24 #[.val (.ref a), .unset] [])) _
    refine XS.aloadN X2.here hx rfl (hb hby dkb_24) rfl rfl ?_
    show Steps p.tables e below (T2.setTop (mkF m 25 #[.val (.ref a), .unset] [(.ref a)])) _
    refine st3 _ ?_
    show Steps p.tables e below (T3.setTop (mkF m 28 #[.val (.ref a), .unset] [(.int (0 : Int32))])) _
    refine XS.ifYes X3.here hx rfl (pc0 := 28) (pc' := 36) rfl (hb hby dkb_28) rfl (XT.i0_eq_t (by decide)) (by decide) (by decide) ?_
    show Steps p.tables e below (T3.setTop (mkF m 36 #[.val (.ref a), .unset] [])) _
    refine XS.aloadN X3.here hx rfl (hb hby dkb_36) rfl rfl ?_
    show Steps p.tables e below (T3.setTop (mkF m 37 #[.val (.ref a), .unset] [(.ref a)])) _
    refine XS.ifnonnullYes X3.here hx rfl (pc0 := 37) (pc' := 44) rfl (hb hby dkb_37) rfl (by decide) (by decide) ?_
    show Steps p.tables e below (T3.setTop (mkF m 44 #[.val (.ref a), .unset] [])) _
    refine XS.iconst X3.here hx rfl (hb hby dkb_44) ?_
    show Steps p.tables e below (T3.setTop (mkF m 45 #[.val (.ref a), .unset] [(.int (3 : Int32))])) _
    refine XS.istoreN X3.here hx rfl (hb hby dkb_45) rfl (l' := #[.val (.ref a), .val (.int (3 : Int32))]) rfl ?_
    show Steps p.tables e below (T3.setTop (mkF m 46 #[.val (.ref a), .val (.int (3 : Int32))] [])) _
    refine XS.iloadN X3.here hx rfl (hb hby dkb_46) rfl ?_
    exact kt
  obtain ⟨fs, hr, hrun, hended, hW, hsame⟩ := X3.leave (v := some (.int (3 : Int32))) (fun h => by rw [Bd.returns] at h; cases h)
  refine ⟨_, _, pre4 _ ?_, hrun, hended, _, _, rfl, ?_, ⟨_, rfl⟩, hW, hsame.mono (by decide) (by decide)⟩
  · show Steps p.tables e below (T3.setTop (mkF m 47 #[.val (.ref a), .val (.int (3 : Int32))] [(.int (3 : Int32))])) _
    exact retN X3 hx (t := .byte) Bd.returns (by simp) (hb hby dkb_47) hr
  · show Q1 Z (.int 3) h0 n0 _ T3.heap _
    rw [e3]
    exact ⟨rfl, N0, rfl⟩
theorem dk0_0 : decode prog_203_method_2_code 0 = .ok (.aload_n 0, 1) := by decide +kernel
theorem dk0_1 : decode prog_203_method_2_code 1 = .ok (.instanceof 10, 3) := by decide +kernel
theorem dk0_4 : decode prog_203_method_2_code 4 = .ok (.ifCond .eq 8, 3) := by decide +kernel
theorem dk0_12 : decode prog_203_method_2_code 12 = .ok (.aload_n 0, 1) := by decide +kernel
theorem dk0_13 : decode prog_203_method_2_code 13 = .ok (.instanceof 14, 3) := by decide +kernel
theorem dk0_16 : decode prog_203_method_2_code 16 = .ok (.ifCond .eq 8, 3) := by decide +kernel
theorem dk0_24 : decode prog_203_method_2_code 24 = .ok (.aload_n 0, 1) := by decide +kernel
theorem dk0_25 : decode prog_203_method_2_code 25 = .ok (.instanceof 16, 3) := by decide +kernel
theorem dk0_28 : decode prog_203_method_2_code 28 = .ok (.ifCond .eq 8, 3) := by decide +kernel
theorem dk0_36 : decode prog_203_method_2_code 36 = .ok (.aload_n 0, 1) := by decide +kernel
theorem dk0_37 : decode prog_203_method_2_code 37 = .ok (.ifnonnull 7, 3) := by decide +kernel
theorem dk0_40 : decode prog_203_method_2_code 40 = .ok (.iconst 4, 1) := by decide +kernel
theorem dk0_41 : decode prog_203_method_2_code 41 = .ok (.goto 4, 3) := by decide +kernel
theorem dk0_45 : decode prog_203_method_2_code 45 = .ok (.istore_n 1, 1) := by decide +kernel
theorem dk0_46 : decode prog_203_method_2_code 46 = .ok (.iload_n 1, 1) := by decide +kernel
theorem dk0_47 : decode prog_203_method_2_code 47 = .ok (.ireturn, 1) := by decide +kernel
theorem pnk0 : plainName "com/example/hornbrook/hornbrook/Values" = true := by first | (simp [plainName, overriddenIn]; done) | decide +kernel
theorem efk0 (m : MethodId)  : entryFrame m #[.null] 2 = mkF m 0 #[.val .null, .unset] [] := by first | (simp [entryFrame, mkF, argsToLocals, Value.category]; done) | rfl
set_option maxRecDepth 65536 in
set_option maxHeartbeats 40000000 in
theorem rmk0 (l : Launch) (Z : State) (a0 : Array Value) (hw : ∀ d ∈ tables_1, d.before a0 Z = true) (ws : List Jvm.Cond) (h0 : Heap) (n0 : Nat) (Z0 : n0 ≤ h0.size) :
    MetFree l (⟨"com/example/hornbrook/hornbrook/Values", "kind", "(Ljava/lang/Object;)B"⟩ : MethodName) (head1 (Jvm.Cond.code (⟨"com/example/hornbrook/hornbrook/Values", "kind", "(Ljava/lang/Object;)B"⟩ : MethodName) prog_203_method_2_code 2 (some .byte) :: ws) ({ frames := 0, cells := 0, slots := 0, locals := 0 } : Room)) (fun aa_ U => aa_ = #[.null] ∧ Z.Warmed39 U.vm ∧ U.heap = h0) (fun _ _ _ _ _ => True) (fun _ U o U' => ∃ vv_ LL_, o = .returned vv_ ∧ Q1 Z (.int 4) h0 n0 vv_ U'.heap LL_ ∧ FrameEnd U o U' LL_ ({ frames := 0, cells := 0, slots := 0, locals := 0 } : Room).cells ({ frames := 0, cells := 0, slots := 0, locals := 0 } : Room).slots) := by
  refine MetFree.of_bodySF (plainFor_of_name pnk0) hisR ?_
  intro p e s m args below meth c s₁ Bd hml0 hP hK
  obtain ⟨rfl, hZ, hh⟩ := hP
  have hx := Bd.exec
  have hby := Bd.bytes
  have hml : c.maxLocals = 2 := hml0
  have hown : s.vm.findClass "com/example/hornbrook/hornbrook/Values" = some m.cls := findClass_of_methodNamed Bd.named
  have hnm := (name_of_methodNamed Bd.named Bd.method).1
  have X0 : Stand p l e ({ frames := 0, cells := 0, slots := 0, locals := 0 } : Room) s m #[.null] below meth c s₁ [] 0 0 := Stand.of_body Bd
  have e0 : s₁.heap = h0 := by rw [← hh, Bd.state]; rfl
  have N0 := Fr.nil n0
  have pre0 : ∀ tg_, Steps p.tables e below (s₁.setTop (mkF m 0 #[.val .null, .unset] [])) tg_ → Steps p.tables e below (s₁.setTop (entryFrame m #[.null] 2)) tg_ := fun tg_ kt => castTop (efk0 m ) kt
  have pre1 : ∀ tg_, Steps p.tables e below (s₁.setTop (mkF m 47 #[.val .null, .val (.int (4 : Int32))] [(.int (4 : Int32))])) tg_ → Steps p.tables e below (s₁.setTop (entryFrame m #[.null] 2)) tg_ := by
    intro tg_ kt
    refine pre0 _ ?_
    show Steps p.tables e below (s₁.setTop (mkF m 0 #[.val .null, .unset] [])) _
    refine XS.aloadN X0.here hx rfl (hb hby dk0_0) rfl rfl ?_
    show Steps p.tables e below (s₁.setTop (mkF m 1 #[.val .null, .unset] [.null])) _
    refine X0.instanceofNull hx (g := (mkF m 1 #[.val .null, .unset] [.null])) rfl rfl (hb hby dk0_1) _ ?_
    show Steps p.tables e below (s₁.setTop (mkF m 4 #[.val .null, .unset] [(.int (0 : Int32))])) _
    refine XS.ifYes X0.here hx rfl (pc0 := 4) (pc' := 12) rfl (hb hby dk0_4) rfl (XT.i0_eq_t (by decide)) (by decide) (by decide) ?_
    show Steps p.tables e below (s₁.setTop (mkF m 12 #[.val .null, .unset] [])) _
    refine XS.aloadN X0.here hx rfl (hb hby dk0_12) rfl rfl ?_
    show Steps p.tables e below (s₁.setTop (mkF m 13 #[.val .null, .unset] [.null])) _
    refine X0.instanceofNull hx (g := (mkF m 13 #[.val .null, .unset] [.null])) rfl rfl (hb hby dk0_13) _ ?_
    show Steps p.tables e below (s₁.setTop (mkF m 16 #[.val .null, .unset] [(.int (0 : Int32))])) _
    refine XS.ifYes X0.here hx rfl (pc0 := 16) (pc' := 24) rfl (hb hby dk0_16) rfl (XT.i0_eq_t (by decide)) (by decide) (by decide) ?_
    show Steps p.tables e below (s₁.setTop (mkF m 24 #[.val .null, .unset] [])) _
    refine XS.aloadN X0.here hx rfl (hb hby dk0_24) rfl rfl ?_
    show Steps p.tables e below (s₁.setTop (mkF m 25 #[.val .null, .unset] [.null])) _
    refine X0.instanceofNull hx (g := (mkF m 25 #[.val .null, .unset] [.null])) rfl rfl (hb hby dk0_25) _ ?_
    show Steps p.tables e below (s₁.setTop (mkF m 28 #[.val .null, .unset] [(.int (0 : Int32))])) _
    refine XS.ifYes X0.here hx rfl (pc0 := 28) (pc' := 36) rfl (hb hby dk0_28) rfl (XT.i0_eq_t (by decide)) (by decide) (by decide) ?_
    show Steps p.tables e below (s₁.setTop (mkF m 36 #[.val .null, .unset] [])) _
    refine XS.aloadN X0.here hx rfl (hb hby dk0_36) rfl rfl ?_
    show Steps p.tables e below (s₁.setTop (mkF m 37 #[.val .null, .unset] [.null])) _
    refine XS.ifnonnullNo X0.here hx rfl (hb hby dk0_37) rfl ?_
    show Steps p.tables e below (s₁.setTop (mkF m 40 #[.val .null, .unset] [])) _
    refine XS.iconst X0.here hx rfl (hb hby dk0_40) ?_
    show Steps p.tables e below (s₁.setTop (mkF m 41 #[.val .null, .unset] [(.int (4 : Int32))])) _
    refine XS.goto X0.here hx rfl (pc0 := 41) (pc' := 45) rfl (hb hby dk0_41) (by decide) (by decide) ?_
    show Steps p.tables e below (s₁.setTop (mkF m 45 #[.val .null, .unset] [(.int (4 : Int32))])) _
    refine XS.istoreN X0.here hx rfl (hb hby dk0_45) rfl (l' := #[.val .null, .val (.int (4 : Int32))]) rfl ?_
    show Steps p.tables e below (s₁.setTop (mkF m 46 #[.val .null, .val (.int (4 : Int32))] [])) _
    refine XS.iloadN X0.here hx rfl (hb hby dk0_46) rfl ?_
    exact kt
  obtain ⟨fs, hr, hrun, hended, hW, hsame⟩ := X0.leave (v := some (.int (4 : Int32))) (fun h => by rw [Bd.returns] at h; cases h)
  refine ⟨_, _, pre1 _ ?_, hrun, hended, _, _, rfl, ?_, ⟨_, rfl⟩, hW, hsame.mono (by decide) (by decide)⟩
  · show Steps p.tables e below (s₁.setTop (mkF m 47 #[.val .null, .val (.int (4 : Int32))] [(.int (4 : Int32))])) _
    exact retN X0 hx (t := .byte) Bd.returns (by simp) (hb hby dk0_47) hr
  · show Q1 Z (.int 4) h0 n0 _ s₁.heap _
    rw [e0]
    exact ⟨rfl, N0, rfl⟩
theorem own_and255 (x : Int32) : ¬ (x &&& 255) < 0 ∧ ¬ (255 : Int32) < (x &&& 255) := by
  have h := c_and x (255 : Int32) (by decide)
  rw [Int32.lt_iff_toInt_lt, Int32.lt_iff_toInt_lt]
  have e0 : (0 : Int32).toInt = 0 := rfl
  have e1 : (255 : Int32).toInt = 255 := rfl
  omega
theorem dt_0 : decode method_2_code 0 = .ok (.iload_n 0, 1) := by decide +kernel
theorem dt_1 : decode method_2_code 1 = .ok (.ldc 7, 2) := by decide +kernel
theorem dt_3 : decode method_2_code 3 = .ok (.iand, 1) := by decide +kernel
theorem dt_4 : decode method_2_code 4 = .ok (.iconst 3, 1) := by decide +kernel
theorem dt_5 : decode method_2_code 5 = .ok (.irem, 1) := by decide +kernel
theorem dt_6 : decode method_2_code 6 = .ok (.istore_n 3, 1) := by decide +kernel
theorem dt_7 : decode method_2_code 7 = .ok (.iload_n 1, 1) := by decide +kernel
theorem dt_8 : decode method_2_code 8 = .ok (.sipush 255, 3) := by decide +kernel
theorem dt_11 : decode method_2_code 11 = .ok (.iand, 1) := by decide +kernel
theorem dt_12 : decode method_2_code 12 = .ok (.i2c, 1) := by decide +kernel
theorem dt_13 : decode method_2_code 13 = .ok (.istore 4, 2) := by decide +kernel
theorem dt_15 : decode method_2_code 15 = .ok (.iload_n 2, 1) := by decide +kernel
theorem dt_16 : decode method_2_code 16 = .ok (.sipush 255, 3) := by decide +kernel
theorem dt_19 : decode method_2_code 19 = .ok (.iand, 1) := by decide +kernel
theorem dt_20 : decode method_2_code 20 = .ok (.i2c, 1) := by decide +kernel
theorem dt_21 : decode method_2_code 21 = .ok (.istore 5, 2) := by decide +kernel
theorem dt_23 : decode method_2_code 23 = .ok (.iload_n 3, 1) := by decide +kernel
theorem dt_24 : decode method_2_code 24 = .ok (.ifCond .ne 14, 3) := by decide +kernel
theorem dt_38 : decode method_2_code 38 = .ok (.iload_n 3, 1) := by decide +kernel
theorem dt_39 : decode method_2_code 39 = .ok (.iconst 1, 1) := by decide +kernel
theorem dt_40 : decode method_2_code 40 = .ok (.if_icmp .ne 19, 3) := by decide +kernel
theorem dt_43 : decode method_2_code 43 = .ok (.new 8, 3) := by decide +kernel
theorem dt_46 : decode method_2_code 46 = .ok (.dup, 1) := by decide +kernel
theorem dt_47 : decode method_2_code 47 = .ok (.iconst 1, 1) := by decide +kernel
theorem dt_48 : decode method_2_code 48 = .ok (.newarray .char, 2) := by decide +kernel
theorem dt_50 : decode method_2_code 50 = .ok (.dup, 1) := by decide +kernel
theorem dt_51 : decode method_2_code 51 = .ok (.iconst 0, 1) := by decide +kernel
theorem dt_52 : decode method_2_code 52 = .ok (.iload 4, 2) := by decide +kernel
theorem dt_54 : decode method_2_code 54 = .ok (.castore, 1) := by decide +kernel
theorem dt_55 : decode method_2_code 55 = .ok (.invokespecial 10, 3) := by decide +kernel
theorem dt_58 : decode method_2_code 58 = .ok (.areturn, 1) := by decide +kernel
theorem dt_59 : decode method_2_code 59 = .ok (.new 8, 3) := by decide +kernel
theorem dt_62 : decode method_2_code 62 = .ok (.dup, 1) := by decide +kernel
theorem dt_63 : decode method_2_code 63 = .ok (.iconst 2, 1) := by decide +kernel
theorem dt_64 : decode method_2_code 64 = .ok (.newarray .char, 2) := by decide +kernel
theorem dt_66 : decode method_2_code 66 = .ok (.dup, 1) := by decide +kernel
theorem dt_67 : decode method_2_code 67 = .ok (.iconst 0, 1) := by decide +kernel
theorem dt_68 : decode method_2_code 68 = .ok (.iload 4, 2) := by decide +kernel
theorem dt_70 : decode method_2_code 70 = .ok (.castore, 1) := by decide +kernel
theorem dt_71 : decode method_2_code 71 = .ok (.dup, 1) := by decide +kernel
theorem dt_72 : decode method_2_code 72 = .ok (.iconst 1, 1) := by decide +kernel
theorem dt_73 : decode method_2_code 73 = .ok (.iload 5, 2) := by decide +kernel
theorem dt_75 : decode method_2_code 75 = .ok (.castore, 1) := by decide +kernel
theorem dt_76 : decode method_2_code 76 = .ok (.invokespecial 10, 3) := by decide +kernel
theorem dt_79 : decode method_2_code 79 = .ok (.areturn, 1) := by decide +kernel
theorem pnt : plainName "com/example/hornbrook/hornbrook/ValuesKindPinLaw" = true := by first | (simp [plainName, overriddenIn]; done) | decide +kernel
theorem pdt_0 : parseMethodDescriptor "([C)V" = some ⟨[(.array .char)], none⟩ := by decide +kernel
theorem eft (m : MethodId) (x0 : Int32) (x1 : Int32) (x2 : Int32) : entryFrame m #[(.int x0), (.int x1), (.int x2)] 6 = mkF m 0 #[.val (.int x0), .val (.int x1), .val (.int x2), .unset, .unset, .unset] [] := by first | (simp [entryFrame, mkF, argsToLocals, Value.category]; done) | rfl
set_option maxRecDepth 65536 in
set_option maxHeartbeats 40000000 in
theorem rmt (l : Launch) (Z : State) (a0 : Array Value) (hw : ∀ d ∈ tables_1, d.before a0 Z = true) (ws : List Jvm.Cond) (n c0 c1 zc : Int32) (h0 : Heap) (n0 : Nat) (Z0 : n0 ≤ h0.size) (S_C : Sta Z h0 "java/lang/String" "COMPACT_STRINGS" "Z" (.int zc)) (hzc : ¬ zc = 0) (hne : ¬ ((n &&& (2147483647 : Int32)) % (3 : Int32)) = (0 : Int32)) :
    MetFree l (⟨"com/example/hornbrook/hornbrook/ValuesKindPinLaw", "text", "(III)Ljava/lang/String;"⟩ : MethodName) (head1 (Jvm.Cond.code (⟨"com/example/hornbrook/hornbrook/ValuesKindPinLaw", "text", "(III)Ljava/lang/String;"⟩ : MethodName) method_2_code 6 (some (.object "java/lang/String")) :: ws) ({ frames := 4, cells := 3, slots := 8, locals := 66 } : Room)) (fun aa_ U => aa_ = #[(.int n), (.int c0), (.int c1)] ∧ Z.Warmed39 U.vm ∧ U.heap = h0) (fun _ _ _ _ _ => True) (fun _ U o U' => ∃ vv_ LL_, o = .returned vv_ ∧ QO Z "java/lang/String" h0 n0 vv_ U'.heap LL_ ∧ FrameEnd U o U' LL_ ({ frames := 4, cells := 3, slots := 8, locals := 66 } : Room).cells ({ frames := 4, cells := 3, slots := 8, locals := 66 } : Room).slots) := by
  refine MetFree.of_bodySF (plainFor_of_name pnt) hisR ?_
  intro p e s m args below meth c s₁ Bd hml0 hP hK
  obtain ⟨rfl, hZ, hh⟩ := hP
  have hx := Bd.exec
  have hby := Bd.bytes
  have hml : c.maxLocals = 6 := hml0
  have hown : s.vm.findClass "com/example/hornbrook/hornbrook/ValuesKindPinLaw" = some m.cls := findClass_of_methodNamed Bd.named
  have hnm := (name_of_methodNamed Bd.named Bd.method).1
  have X0 : Stand p l e ({ frames := 4, cells := 3, slots := 8, locals := 66 } : Room) s m #[(.int n), (.int c0), (.int c1)] below meth c s₁ [] 0 0 := Stand.of_body Bd
  have e0 : s₁.heap = h0 := by rw [← hh, Bd.state]; rfl
  have N0 := Fr.nil n0
  have pre0 : ∀ tg_, Steps p.tables e below (s₁.setTop (mkF m 0 #[.val (.int n), .val (.int c0), .val (.int c1), .unset, .unset, .unset] [])) tg_ → Steps p.tables e below (s₁.setTop (entryFrame m #[(.int n), (.int c0), (.int c1)] 6)) tg_ := fun tg_ kt => castTop (eft m n c0 c1) kt
  have pre1 : ∀ tg_, Steps p.tables e below (s₁.setTop (mkF m 40 #[.val (.int n), .val (.int c0), .val (.int c1), .val (.int ((n &&& (2147483647 : Int32)) % (3 : Int32))), .val (.int (c0 &&& (255 : Int32)).toUInt32.toUInt16.toUInt32.toInt32), .val (.int (c1 &&& (255 : Int32)).toUInt32.toUInt16.toUInt32.toInt32)] [(.int (1 : Int32)), (.int ((n &&& (2147483647 : Int32)) % (3 : Int32)))])) tg_ → Steps p.tables e below (s₁.setTop (entryFrame m #[(.int n), (.int c0), (.int c1)] 6)) tg_ := by
    intro tg_ kt
    refine pre0 _ ?_
    show Steps p.tables e below (s₁.setTop (mkF m 0 #[.val (.int n), .val (.int c0), .val (.int c1), .unset, .unset, .unset] [])) _
    refine XS.iloadN X0.here hx rfl (hb hby dt_0) rfl ?_
    show Steps p.tables e below (s₁.setTop (mkF m 1 #[.val (.int n), .val (.int c0), .val (.int c1), .unset, .unset, .unset] [(.int n)])) _
    refine X0.ldcI hx hown (mvT hZ (hw _ (List.mem_of_getElem? (i := 0) rfl))) (g := (mkF m 1 #[.val (.int n), .val (.int c0), .val (.int c1), .unset, .unset, .unset] [(.int n)])) rfl (hb hby dt_1) ?_
    show Steps p.tables e below (s₁.setTop (mkF m 3 #[.val (.int n), .val (.int c0), .val (.int c1), .unset, .unset, .unset] [(.int (2147483647 : Int32)), (.int n)])) _
    refine XS.iand X0.here hx rfl (hb hby dt_3) rfl ?_
    show Steps p.tables e below (s₁.setTop (mkF m 4 #[.val (.int n), .val (.int c0), .val (.int c1), .unset, .unset, .unset] [(.int (n &&& (2147483647 : Int32)))])) _
    refine XS.iconst X0.here hx rfl (hb hby dt_4) ?_
    show Steps p.tables e below (s₁.setTop (mkF m 5 #[.val (.int n), .val (.int c0), .val (.int c1), .unset, .unset, .unset] [(.int (3 : Int32)), (.int (n &&& (2147483647 : Int32)))])) _
    refine iremM X0 hx rfl (hb hby dt_5) rfl (by decide) ?_
    show Steps p.tables e below (s₁.setTop (mkF m 6 #[.val (.int n), .val (.int c0), .val (.int c1), .unset, .unset, .unset] [(.int ((n &&& (2147483647 : Int32)) % (3 : Int32)))])) _
    refine XS.istoreN X0.here hx rfl (hb hby dt_6) rfl (l' := #[.val (.int n), .val (.int c0), .val (.int c1), .val (.int ((n &&& (2147483647 : Int32)) % (3 : Int32))), .unset, .unset]) rfl ?_
    show Steps p.tables e below (s₁.setTop (mkF m 7 #[.val (.int n), .val (.int c0), .val (.int c1), .val (.int ((n &&& (2147483647 : Int32)) % (3 : Int32))), .unset, .unset] [])) _
    refine XS.iloadN X0.here hx rfl (hb hby dt_7) rfl ?_
    show Steps p.tables e below (s₁.setTop (mkF m 8 #[.val (.int n), .val (.int c0), .val (.int c1), .val (.int ((n &&& (2147483647 : Int32)) % (3 : Int32))), .unset, .unset] [(.int c0)])) _
    refine XS.sipush X0.here hx rfl (hb hby dt_8) ?_
    show Steps p.tables e below (s₁.setTop (mkF m 11 #[.val (.int n), .val (.int c0), .val (.int c1), .val (.int ((n &&& (2147483647 : Int32)) % (3 : Int32))), .unset, .unset] [(.int (255 : Int32)), (.int c0)])) _
    refine XS.iand X0.here hx rfl (hb hby dt_11) rfl ?_
    show Steps p.tables e below (s₁.setTop (mkF m 12 #[.val (.int n), .val (.int c0), .val (.int c1), .val (.int ((n &&& (2147483647 : Int32)) % (3 : Int32))), .unset, .unset] [(.int (c0 &&& (255 : Int32)))])) _
    refine XS.i2c X0.here hx rfl (hb hby dt_12) rfl ?_
    show Steps p.tables e below (s₁.setTop (mkF m 13 #[.val (.int n), .val (.int c0), .val (.int c1), .val (.int ((n &&& (2147483647 : Int32)) % (3 : Int32))), .unset, .unset] [(.int (c0 &&& (255 : Int32)).toUInt32.toUInt16.toUInt32.toInt32)])) _
    refine XS.istore X0.here hx rfl (hb hby dt_13) rfl (l' := #[.val (.int n), .val (.int c0), .val (.int c1), .val (.int ((n &&& (2147483647 : Int32)) % (3 : Int32))), .val (.int (c0 &&& (255 : Int32)).toUInt32.toUInt16.toUInt32.toInt32), .unset]) rfl ?_
    show Steps p.tables e below (s₁.setTop (mkF m 15 #[.val (.int n), .val (.int c0), .val (.int c1), .val (.int ((n &&& (2147483647 : Int32)) % (3 : Int32))), .val (.int (c0 &&& (255 : Int32)).toUInt32.toUInt16.toUInt32.toInt32), .unset] [])) _
    refine XS.iloadN X0.here hx rfl (hb hby dt_15) rfl ?_
    show Steps p.tables e below (s₁.setTop (mkF m 16 #[.val (.int n), .val (.int c0), .val (.int c1), .val (.int ((n &&& (2147483647 : Int32)) % (3 : Int32))), .val (.int (c0 &&& (255 : Int32)).toUInt32.toUInt16.toUInt32.toInt32), .unset] [(.int c1)])) _
    refine XS.sipush X0.here hx rfl (hb hby dt_16) ?_
    show Steps p.tables e below (s₁.setTop (mkF m 19 #[.val (.int n), .val (.int c0), .val (.int c1), .val (.int ((n &&& (2147483647 : Int32)) % (3 : Int32))), .val (.int (c0 &&& (255 : Int32)).toUInt32.toUInt16.toUInt32.toInt32), .unset] [(.int (255 : Int32)), (.int c1)])) _
    refine XS.iand X0.here hx rfl (hb hby dt_19) rfl ?_
    show Steps p.tables e below (s₁.setTop (mkF m 20 #[.val (.int n), .val (.int c0), .val (.int c1), .val (.int ((n &&& (2147483647 : Int32)) % (3 : Int32))), .val (.int (c0 &&& (255 : Int32)).toUInt32.toUInt16.toUInt32.toInt32), .unset] [(.int (c1 &&& (255 : Int32)))])) _
    refine XS.i2c X0.here hx rfl (hb hby dt_20) rfl ?_
    show Steps p.tables e below (s₁.setTop (mkF m 21 #[.val (.int n), .val (.int c0), .val (.int c1), .val (.int ((n &&& (2147483647 : Int32)) % (3 : Int32))), .val (.int (c0 &&& (255 : Int32)).toUInt32.toUInt16.toUInt32.toInt32), .unset] [(.int (c1 &&& (255 : Int32)).toUInt32.toUInt16.toUInt32.toInt32)])) _
    refine XS.istore X0.here hx rfl (hb hby dt_21) rfl (l' := #[.val (.int n), .val (.int c0), .val (.int c1), .val (.int ((n &&& (2147483647 : Int32)) % (3 : Int32))), .val (.int (c0 &&& (255 : Int32)).toUInt32.toUInt16.toUInt32.toInt32), .val (.int (c1 &&& (255 : Int32)).toUInt32.toUInt16.toUInt32.toInt32)]) rfl ?_
    show Steps p.tables e below (s₁.setTop (mkF m 23 #[.val (.int n), .val (.int c0), .val (.int c1), .val (.int ((n &&& (2147483647 : Int32)) % (3 : Int32))), .val (.int (c0 &&& (255 : Int32)).toUInt32.toUInt16.toUInt32.toInt32), .val (.int (c1 &&& (255 : Int32)).toUInt32.toUInt16.toUInt32.toInt32)] [])) _
    refine XS.iloadN X0.here hx rfl (hb hby dt_23) rfl ?_
    show Steps p.tables e below (s₁.setTop (mkF m 24 #[.val (.int n), .val (.int c0), .val (.int c1), .val (.int ((n &&& (2147483647 : Int32)) % (3 : Int32))), .val (.int (c0 &&& (255 : Int32)).toUInt32.toUInt16.toUInt32.toInt32), .val (.int (c1 &&& (255 : Int32)).toUInt32.toUInt16.toUInt32.toInt32)] [(.int ((n &&& (2147483647 : Int32)) % (3 : Int32)))])) _
    refine XS.ifYes X0.here hx rfl (pc0 := 24) (pc' := 38) rfl (hb hby dt_24) rfl (XT.i0_ne_t hne) (by decide) (by decide) ?_
    show Steps p.tables e below (s₁.setTop (mkF m 38 #[.val (.int n), .val (.int c0), .val (.int c1), .val (.int ((n &&& (2147483647 : Int32)) % (3 : Int32))), .val (.int (c0 &&& (255 : Int32)).toUInt32.toUInt16.toUInt32.toInt32), .val (.int (c1 &&& (255 : Int32)).toUInt32.toUInt16.toUInt32.toInt32)] [])) _
    refine XS.iloadN X0.here hx rfl (hb hby dt_38) rfl ?_
    show Steps p.tables e below (s₁.setTop (mkF m 39 #[.val (.int n), .val (.int c0), .val (.int c1), .val (.int ((n &&& (2147483647 : Int32)) % (3 : Int32))), .val (.int (c0 &&& (255 : Int32)).toUInt32.toUInt16.toUInt32.toInt32), .val (.int (c1 &&& (255 : Int32)).toUInt32.toUInt16.toUInt32.toInt32)] [(.int ((n &&& (2147483647 : Int32)) % (3 : Int32)))])) _
    refine XS.iconst X0.here hx rfl (hb hby dt_39) ?_
    exact kt
  by_cases hc40_2 : ((n &&& (2147483647 : Int32)) % (3 : Int32)) = (1 : Int32)
  · obtain ⟨T3, h3, X3, e3, E3, A3, D3, -, st3⟩ := newO X0 hx hZ hown (hw _ (List.mem_of_getElem? (i := 57) rfl)) (hw _ (List.mem_of_getElem? (i := 58) rfl)) (hw _ (List.mem_of_getElem? (i := 59) rfl)) e0 (g := (mkF m 43 #[.val (.int n), .val (.int c0), .val (.int c1), .val (.int ((n &&& (2147483647 : Int32)) % (3 : Int32))), .val (.int (c0 &&& (255 : Int32)).toUInt32.toUInt16.toUInt32.toInt32), .val (.int (c1 &&& (255 : Int32)).toUInt32.toUInt16.toUInt32.toInt32)] [])) rfl (hb hby dt_43) (by decide) (by decide)
    obtain ⟨b3, g3⟩ : ∃ z, z = h0.size := ⟨_, rfl⟩
    rw [← g3] at A3 D3 st3
    have F3_value : Fld Z h3 b3 "java/lang/String" "value" "[B" .null := D3 (Or.inr (hw _ (List.mem_of_getElem? (i := 84) rfl))) (ty := (.array .byte)) (by decide)
    have F3_coder : Fld Z h3 b3 "java/lang/String" "coder" "B" (.int (0 : Int32)) := D3 (Or.inr (hw _ (List.mem_of_getElem? (i := 82) rfl))) (ty := .byte) (by decide)
    have gb_b3 : n0 ≤ b3 := Nat.le_trans Z0 (Nat.le_of_eq g3.symm)
    have sz_b3 : h0.size ≤ b3 := Nat.le_trans (Keep.refl h0 []).1 (Nat.le_of_eq g3.symm)
    have f3_4 := S_C.ext E3
    have K5 : Keep h0 h3 [] := (Keep.refl h0 []).ext E3
    have Z6 : n0 ≤ h3.size := Nat.le_trans Z0 E3.1
    obtain ⟨T7, h7, k7, X7, e7, E7, A7, M7, st7⟩ := newPE X3 hx hZ (hw _ (List.mem_of_getElem? (i := 60) rfl)) e3 (g := (mkF m 48 #[.val (.int n), .val (.int c0), .val (.int c1), .val (.int ((n &&& (2147483647 : Int32)) % (3 : Int32))), .val (.int (c0 &&& (255 : Int32)).toUInt32.toUInt16.toUInt32.toInt32), .val (.int (c1 &&& (255 : Int32)).toUInt32.toUInt16.toUInt32.toInt32)] [(.int (1 : Int32)), (.ref b3), (.ref b3)])) rfl (hb hby dt_48) rfl (by decide) (cap := 1) (by decide) (by decide) (by decide) (by decide) (ad := "[C") (by first | rfl | decide +kernel)
    obtain ⟨b7, g7⟩ : ∃ z, z = h3.size := ⟨_, rfl⟩
    rw [← g7] at A7 M7 st7
    have V7 : Arv Z h7 b7 k7 .char (1 : Int32) [(.int (0 : Int32))] (.int (0 : Int32)) := (Arv.new A7 (by decide)).pad (pad_rep [] (.int (0 : Int32)) 1)
    have d_b3_b7 : b3 ≠ b7 := Nat.ne_of_lt (Nat.lt_of_lt_of_le A3.lt (Nat.le_of_eq g7.symm))
    have gb_b7 : n0 ≤ b7 := Nat.le_trans Z6 (Nat.le_of_eq g7.symm)
    have sz_b7 : h0.size ≤ b7 := Nat.le_trans K5.1 (Nat.le_of_eq g7.symm)
    have f7_8 := f3_4.ext E7
    have f7_9 := A3.ext E7
    have f7_10 := F3_value.ext E7
    have f7_11 := F3_coder.ext E7
    have K12 : Keep h0 h7 [] := K5.ext E7
    have Z13 : n0 ≤ h7.size := Nat.le_trans Z6 E7.1
    obtain ⟨cl14, Ar14, q14, S14, L14, H14, G14⟩ := id V7
    have hin14 : ¬ ((0 : Int32) < 0 ∨ cl14.slots.size ≤ ((0 : Int32)).toNatClampNeg) := inb_of S14 ⟨by decide, by decide⟩
    obtain ⟨T14, h14, X14, e14, W14, st14⟩ := stC X7 hx hZ e7 Ar14 (j := (0 : Int32)) hin14 (g := (mkF m 54 #[.val (.int n), .val (.int c0), .val (.int c1), .val (.int ((n &&& (2147483647 : Int32)) % (3 : Int32))), .val (.int (c0 &&& (255 : Int32)).toUInt32.toUInt16.toUInt32.toInt32), .val (.int (c1 &&& (255 : Int32)).toUInt32.toUInt16.toUInt32.toInt32)] [(.int (c0 &&& (255 : Int32)).toUInt32.toUInt16.toUInt32.toInt32), (.int (0 : Int32)), (.ref b7), (.ref b7), (.ref b3), (.ref b3)])) rfl rfl (hb hby dt_54)
    have V14 := Arv.set Ar14 q14 S14 L14 H14 G14 (fits_nar_char _) W14 0 rfl (Nat.le_of_ble_eq_true rfl)
    have N14 := Fr.snoc X14 N0 gb_b7
    have f14_15 := f7_8.wr W14
    have f14_16 := f7_9.wr W14
    have f14_17 := f7_10.other W14 (Or.inl d_b3_b7)
    have f14_18 := f7_11.other W14 (Or.inl d_b3_b7)
    have f14_19 := M7.wr W14
    have K20 : Keep h0 h14 [] := K12.wr W14 (Or.inr sz_b7)
    have Z21 : n0 ≤ h14.size := by rw [W14.size]; exact Z13
    have hws23 : ∀ d ∈ StrChars.Road.words, d.before a0 Z = true := fun d hd => hw d ((by decide +kernel : ∀ d ∈ StrChars.Road.words, d ∈ tables_1) d hd)
    have hlat23 : ∀ c ∈ [(nar .char ((c0 &&& (255 : Int32)).toUInt32.toUInt16.toUInt32.toInt32))], ¬ c < 0 ∧ ¬ (255 : Int32) < c := by
      intro c hc
      simp only [List.mem_cons, List.not_mem_nil, or_false] at hc
      rcases hc with rfl
      · rw [show nar .char ((c0 &&& (255 : Int32)).toUInt32.toUInt16.toUInt32.toInt32) = c0 &&& 255 from by simp only [nar, i2c_mask]]; exact own_and255 c0
    obtain ⟨_, _, ⟨T22, L22, k22, n22⟩, -, X22, ⟨Lc22, hQ22, l22, y22, z22⟩, st22⟩ := X14.specialBack hx (y := (⟨"java/lang/String", "<init>", "([C)V"⟩ : MethodName)) rfl hown (mvT hZ (hw _ (List.mem_of_getElem? (i := 61) rfl))) (mvT hZ (hw _ (List.mem_of_getElem? (i := 62) rfl))) (mvT hZ (hw _ (List.mem_of_getElem? (i := 63) rfl))) (by decide) (StrChars.Road.backV (W := 1) hZ hws23 (kI := 4) (hw _ (List.mem_of_getElem? (i := 58) rfl)) (cs := [(nar .char ((c0 &&& (255 : Int32)).toUInt32.toUInt16.toUInt32.toInt32))]) (bs := [(nar .char ((c0 &&& (255 : Int32)).toUInt32.toUInt16.toUInt32.toInt32)).toInt8.toInt32]) (n := 1) gb_b3 Z21 f14_16 f14_17 f14_18 V14 f14_15 hzc rfl rfl (by decide) (by decide) hlat23 rfl (by decide) (by decide)) (g := (mkF m 55 #[.val (.int n), .val (.int c0), .val (.int c1), .val (.int ((n &&& (2147483647 : Int32)) % (3 : Int32))), .val (.int (c0 &&& (255 : Int32)).toUInt32.toUInt16.toUInt32.toInt32), .val (.int (c1 &&& (255 : Int32)).toUInt32.toUInt16.toUInt32.toInt32)] [(.ref b7), (.ref b3), (.ref b3)])) rfl (by rw [hml]; rfl) (Steps.refl _) (a := b3) (argsL := [(.ref b7)]) (rest := [(.ref b3)]) (lenOf pdt_0 rfl) rfl (by show 2 * 0 + _ ≤ _; exact Nat.le_of_eq rfl) (hb hby dt_55) (fun _ _ => ⟨rfl, e14, (by decide : 2 + 1 ≤ _), (by decide : 5 + 1 ≤ _)⟩)
    dsimp only [Pt.U, Pt.locs, Pt.cells, Pt.slots] at X22 l22 y22 z22 st22 hQ22
    subst l22 y22 z22
    obtain ⟨rfl, N22q, KC22, EB22, -⟩ := hQ22
    have K24 : Keep h0 T22.heap [] := K20.trans KC22 (allS (Or.inr sz_b3) all0)
    have N22 := Fr.app N14 N22q
    have pre25 : ∀ tg_, Steps p.tables e below (T22.setTop (mkF m 58 #[.val (.int n), .val (.int c0), .val (.int c1), .val (.int ((n &&& (2147483647 : Int32)) % (3 : Int32))), .val (.int (c0 &&& (255 : Int32)).toUInt32.toUInt16.toUInt32.toInt32), .val (.int (c1 &&& (255 : Int32)).toUInt32.toUInt16.toUInt32.toInt32)] [(.ref b3)])) tg_ → Steps p.tables e below (s₁.setTop (entryFrame m #[(.int n), (.int c0), (.int c1)] 6)) tg_ := by
      intro tg_ kt
      refine pre1 _ ?_
      show Steps p.tables e below (s₁.setTop (mkF m 40 #[.val (.int n), .val (.int c0), .val (.int c1), .val (.int ((n &&& (2147483647 : Int32)) % (3 : Int32))), .val (.int (c0 &&& (255 : Int32)).toUInt32.toUInt16.toUInt32.toInt32), .val (.int (c1 &&& (255 : Int32)).toUInt32.toUInt16.toUInt32.toInt32)] [(.int (1 : Int32)), (.int ((n &&& (2147483647 : Int32)) % (3 : Int32)))])) _
      refine XS.icmpNo X0.here hx rfl (hb hby dt_40) rfl (XT.ii_ne_f hc40_2) ?_
      show Steps p.tables e below (s₁.setTop (mkF m 43 #[.val (.int n), .val (.int c0), .val (.int c1), .val (.int ((n &&& (2147483647 : Int32)) % (3 : Int32))), .val (.int (c0 &&& (255 : Int32)).toUInt32.toUInt16.toUInt32.toInt32), .val (.int (c1 &&& (255 : Int32)).toUInt32.toUInt16.toUInt32.toInt32)] [])) _
      refine st3 _ ?_
      show Steps p.tables e below (T3.setTop (mkF m 46 #[.val (.int n), .val (.int c0), .val (.int c1), .val (.int ((n &&& (2147483647 : Int32)) % (3 : Int32))), .val (.int (c0 &&& (255 : Int32)).toUInt32.toUInt16.toUInt32.toInt32), .val (.int (c1 &&& (255 : Int32)).toUInt32.toUInt16.toUInt32.toInt32)] [(.ref b3)])) _
      refine XS.dup X3.here hx rfl (hb hby dt_46) rfl rfl ?_
      show Steps p.tables e below (T3.setTop (mkF m 47 #[.val (.int n), .val (.int c0), .val (.int c1), .val (.int ((n &&& (2147483647 : Int32)) % (3 : Int32))), .val (.int (c0 &&& (255 : Int32)).toUInt32.toUInt16.toUInt32.toInt32), .val (.int (c1 &&& (255 : Int32)).toUInt32.toUInt16.toUInt32.toInt32)] [(.ref b3), (.ref b3)])) _
      refine XS.iconst X3.here hx rfl (hb hby dt_47) ?_
      show Steps p.tables e below (T3.setTop (mkF m 48 #[.val (.int n), .val (.int c0), .val (.int c1), .val (.int ((n &&& (2147483647 : Int32)) % (3 : Int32))), .val (.int (c0 &&& (255 : Int32)).toUInt32.toUInt16.toUInt32.toInt32), .val (.int (c1 &&& (255 : Int32)).toUInt32.toUInt16.toUInt32.toInt32)] [(.int (1 : Int32)), (.ref b3), (.ref b3)])) _
      refine st7 _ ?_
      show Steps p.tables e below (T7.setTop (mkF m 50 #[.val (.int n), .val (.int c0), .val (.int c1), .val (.int ((n &&& (2147483647 : Int32)) % (3 : Int32))), .val (.int (c0 &&& (255 : Int32)).toUInt32.toUInt16.toUInt32.toInt32), .val (.int (c1 &&& (255 : Int32)).toUInt32.toUInt16.toUInt32.toInt32)] [(.ref b7), (.ref b3), (.ref b3)])) _
      refine XS.dup X7.here hx rfl (hb hby dt_50) rfl rfl ?_
      show Steps p.tables e below (T7.setTop (mkF m 51 #[.val (.int n), .val (.int c0), .val (.int c1), .val (.int ((n &&& (2147483647 : Int32)) % (3 : Int32))), .val (.int (c0 &&& (255 : Int32)).toUInt32.toUInt16.toUInt32.toInt32), .val (.int (c1 &&& (255 : Int32)).toUInt32.toUInt16.toUInt32.toInt32)] [(.ref b7), (.ref b7), (.ref b3), (.ref b3)])) _
      refine XS.iconst X7.here hx rfl (hb hby dt_51) ?_
      show Steps p.tables e below (T7.setTop (mkF m 52 #[.val (.int n), .val (.int c0), .val (.int c1), .val (.int ((n &&& (2147483647 : Int32)) % (3 : Int32))), .val (.int (c0 &&& (255 : Int32)).toUInt32.toUInt16.toUInt32.toInt32), .val (.int (c1 &&& (255 : Int32)).toUInt32.toUInt16.toUInt32.toInt32)] [(.int (0 : Int32)), (.ref b7), (.ref b7), (.ref b3), (.ref b3)])) _
      refine XS.iload X7.here hx rfl (hb hby dt_52) rfl ?_
      show Steps p.tables e below (T7.setTop (mkF m 54 #[.val (.int n), .val (.int c0), .val (.int c1), .val (.int ((n &&& (2147483647 : Int32)) % (3 : Int32))), .val (.int (c0 &&& (255 : Int32)).toUInt32.toUInt16.toUInt32.toInt32), .val (.int (c1 &&& (255 : Int32)).toUInt32.toUInt16.toUInt32.toInt32)] [(.int (c0 &&& (255 : Int32)).toUInt32.toUInt16.toUInt32.toInt32), (.int (0 : Int32)), (.ref b7), (.ref b7), (.ref b3), (.ref b3)])) _
      refine st14 _ ?_
      show Steps p.tables e below (T14.setTop (mkF m 55 #[.val (.int n), .val (.int c0), .val (.int c1), .val (.int ((n &&& (2147483647 : Int32)) % (3 : Int32))), .val (.int (c0 &&& (255 : Int32)).toUInt32.toUInt16.toUInt32.toInt32), .val (.int (c1 &&& (255 : Int32)).toUInt32.toUInt16.toUInt32.toInt32)] [(.ref b7), (.ref b3), (.ref b3)])) _
      refine st22.trans ?_
      exact kt
    obtain ⟨fs, hr, hrun, hended, hW, hsame⟩ := X22.leave (v := some (.ref b3)) (fun h => by rw [Bd.returns] at h; cases h)
    refine ⟨_, _, pre25 _ ?_, hrun, hended, _, _, rfl, ?_, ⟨_, rfl⟩, hW, hsame.mono (by decide) (by decide)⟩
    · show Steps p.tables e below (T22.setTop (mkF m 58 #[.val (.int n), .val (.int c0), .val (.int c1), .val (.int ((n &&& (2147483647 : Int32)) % (3 : Int32))), .val (.int (c0 &&& (255 : Int32)).toUInt32.toUInt16.toUInt32.toInt32), .val (.int (c1 &&& (255 : Int32)).toUInt32.toUInt16.toUInt32.toInt32)] [(.ref b3)])) _
      jvm_step X22.here [X22.here.top, hx, (hb hby dt_58), X22.method', Bd.returns, Value.isRef, FieldType.isReference]
      first | (intro acts; rw [hr _ acts rfl rfl rfl]) | rw [hr _ _ rfl rfl rfl]
      exact Steps.refl _
    · show QO Z "java/lang/String" h0 n0 _ T22.heap _
      exact ⟨_, rfl, N22, K24, EB22⟩
  · obtain ⟨T26, h26, X26, e26, E26, A26, D26, -, st26⟩ := newO X0 hx hZ hown (hw _ (List.mem_of_getElem? (i := 57) rfl)) (hw _ (List.mem_of_getElem? (i := 58) rfl)) (hw _ (List.mem_of_getElem? (i := 59) rfl)) e0 (g := (mkF m 59 #[.val (.int n), .val (.int c0), .val (.int c1), .val (.int ((n &&& (2147483647 : Int32)) % (3 : Int32))), .val (.int (c0 &&& (255 : Int32)).toUInt32.toUInt16.toUInt32.toInt32), .val (.int (c1 &&& (255 : Int32)).toUInt32.toUInt16.toUInt32.toInt32)] [])) rfl (hb hby dt_59) (by decide) (by decide)
    obtain ⟨b26, g26⟩ : ∃ z, z = h0.size := ⟨_, rfl⟩
    rw [← g26] at A26 D26 st26
    have F26_value : Fld Z h26 b26 "java/lang/String" "value" "[B" .null := D26 (Or.inr (hw _ (List.mem_of_getElem? (i := 84) rfl))) (ty := (.array .byte)) (by decide)
    have F26_coder : Fld Z h26 b26 "java/lang/String" "coder" "B" (.int (0 : Int32)) := D26 (Or.inr (hw _ (List.mem_of_getElem? (i := 82) rfl))) (ty := .byte) (by decide)
    have gb_b26 : n0 ≤ b26 := Nat.le_trans Z0 (Nat.le_of_eq g26.symm)
    have sz_b26 : h0.size ≤ b26 := Nat.le_trans (Keep.refl h0 []).1 (Nat.le_of_eq g26.symm)
    have f26_27 := S_C.ext E26
    have K28 : Keep h0 h26 [] := (Keep.refl h0 []).ext E26
    have Z29 : n0 ≤ h26.size := Nat.le_trans Z0 E26.1
    obtain ⟨T30, h30, k30, X30, e30, E30, A30, M30, st30⟩ := newPE X26 hx hZ (hw _ (List.mem_of_getElem? (i := 60) rfl)) e26 (g := (mkF m 64 #[.val (.int n), .val (.int c0), .val (.int c1), .val (.int ((n &&& (2147483647 : Int32)) % (3 : Int32))), .val (.int (c0 &&& (255 : Int32)).toUInt32.toUInt16.toUInt32.toInt32), .val (.int (c1 &&& (255 : Int32)).toUInt32.toUInt16.toUInt32.toInt32)] [(.int (2 : Int32)), (.ref b26), (.ref b26)])) rfl (hb hby dt_64) rfl (by decide) (cap := 2) (by decide) (by decide) (by decide) (by decide) (ad := "[C") (by first | rfl | decide +kernel)
    obtain ⟨b30, g30⟩ : ∃ z, z = h26.size := ⟨_, rfl⟩
    rw [← g30] at A30 M30 st30
    have V30 : Arv Z h30 b30 k30 .char (2 : Int32) [(.int (0 : Int32)), (.int (0 : Int32))] (.int (0 : Int32)) := (Arv.new A30 (by decide)).pad (pad_rep [] (.int (0 : Int32)) 2)
    have d_b26_b30 : b26 ≠ b30 := Nat.ne_of_lt (Nat.lt_of_lt_of_le A26.lt (Nat.le_of_eq g30.symm))
    have gb_b30 : n0 ≤ b30 := Nat.le_trans Z29 (Nat.le_of_eq g30.symm)
    have sz_b30 : h0.size ≤ b30 := Nat.le_trans K28.1 (Nat.le_of_eq g30.symm)
    have f30_31 := f26_27.ext E30
    have f30_32 := A26.ext E30
    have f30_33 := F26_value.ext E30
    have f30_34 := F26_coder.ext E30
    have K35 : Keep h0 h30 [] := K28.ext E30
    have Z36 : n0 ≤ h30.size := Nat.le_trans Z29 E30.1
    obtain ⟨cl37, Ar37, q37, S37, L37, H37, G37⟩ := id V30
    have hin37 : ¬ ((0 : Int32) < 0 ∨ cl37.slots.size ≤ ((0 : Int32)).toNatClampNeg) := inb_of S37 ⟨by decide, by decide⟩
    obtain ⟨T37, h37, X37, e37, W37, st37⟩ := stC X30 hx hZ e30 Ar37 (j := (0 : Int32)) hin37 (g := (mkF m 70 #[.val (.int n), .val (.int c0), .val (.int c1), .val (.int ((n &&& (2147483647 : Int32)) % (3 : Int32))), .val (.int (c0 &&& (255 : Int32)).toUInt32.toUInt16.toUInt32.toInt32), .val (.int (c1 &&& (255 : Int32)).toUInt32.toUInt16.toUInt32.toInt32)] [(.int (c0 &&& (255 : Int32)).toUInt32.toUInt16.toUInt32.toInt32), (.int (0 : Int32)), (.ref b30), (.ref b30), (.ref b26), (.ref b26)])) rfl rfl (hb hby dt_70)
    have V37 := Arv.set Ar37 q37 S37 L37 H37 G37 (fits_nar_char _) W37 0 rfl (Nat.le_of_ble_eq_true rfl)
    have N37 := Fr.snoc X37 N0 gb_b30
    have f37_38 := f30_31.wr W37
    have f37_39 := f30_32.wr W37
    have f37_40 := f30_33.other W37 (Or.inl d_b26_b30)
    have f37_41 := f30_34.other W37 (Or.inl d_b26_b30)
    have f37_42 := M30.wr W37
    have K43 : Keep h0 h37 [] := K35.wr W37 (Or.inr sz_b30)
    have Z44 : n0 ≤ h37.size := by rw [W37.size]; exact Z36
    obtain ⟨cl45, Ar45, q45, S45, L45, H45, G45⟩ := id V37
    have hin45 : ¬ ((1 : Int32) < 0 ∨ cl45.slots.size ≤ ((1 : Int32)).toNatClampNeg) := inb_of S45 ⟨by decide, by decide⟩
    obtain ⟨T45, h45, X45, e45, W45, st45⟩ := stC X37 hx hZ e37 Ar45 (j := (1 : Int32)) hin45 (g := (mkF m 75 #[.val (.int n), .val (.int c0), .val (.int c1), .val (.int ((n &&& (2147483647 : Int32)) % (3 : Int32))), .val (.int (c0 &&& (255 : Int32)).toUInt32.toUInt16.toUInt32.toInt32), .val (.int (c1 &&& (255 : Int32)).toUInt32.toUInt16.toUInt32.toInt32)] [(.int (c1 &&& (255 : Int32)).toUInt32.toUInt16.toUInt32.toInt32), (.int (1 : Int32)), (.ref b30), (.ref b30), (.ref b26), (.ref b26)])) rfl rfl (hb hby dt_75)
    have V45 := Arv.set Ar45 q45 S45 L45 H45 G45 (fits_nar_char _) W45 1 rfl (Nat.le_of_ble_eq_true rfl)
    have N45 := Fr.snoc X45 N37 gb_b30
    have f45_46 := f37_38.wr W45
    have f45_47 := f37_39.wr W45
    have f45_48 := f37_40.other W45 (Or.inl d_b26_b30)
    have f45_49 := f37_41.other W45 (Or.inl d_b26_b30)
    have f45_50 := f37_42.wr W45
    have K51 : Keep h0 h45 [] := K43.wr W45 (Or.inr sz_b30)
    have Z52 : n0 ≤ h45.size := by rw [W45.size]; exact Z44
    have hws54 : ∀ d ∈ StrChars.Road.words, d.before a0 Z = true := fun d hd => hw d ((by decide +kernel : ∀ d ∈ StrChars.Road.words, d ∈ tables_1) d hd)
    have hlat54 : ∀ c ∈ [(nar .char ((c0 &&& (255 : Int32)).toUInt32.toUInt16.toUInt32.toInt32)), (nar .char ((c1 &&& (255 : Int32)).toUInt32.toUInt16.toUInt32.toInt32))], ¬ c < 0 ∧ ¬ (255 : Int32) < c := by
      intro c hc
      simp only [List.mem_cons, List.not_mem_nil, or_false] at hc
      rcases hc with rfl | rfl
      · rw [show nar .char ((c0 &&& (255 : Int32)).toUInt32.toUInt16.toUInt32.toInt32) = c0 &&& 255 from by simp only [nar, i2c_mask]]; exact own_and255 c0
      · rw [show nar .char ((c1 &&& (255 : Int32)).toUInt32.toUInt16.toUInt32.toInt32) = c1 &&& 255 from by simp only [nar, i2c_mask]]; exact own_and255 c1
    obtain ⟨_, _, ⟨T53, L53, k53, n53⟩, -, X53, ⟨Lc53, hQ53, l53, y53, z53⟩, st53⟩ := X45.specialBack hx (y := (⟨"java/lang/String", "<init>", "([C)V"⟩ : MethodName)) rfl hown (mvT hZ (hw _ (List.mem_of_getElem? (i := 61) rfl))) (mvT hZ (hw _ (List.mem_of_getElem? (i := 62) rfl))) (mvT hZ (hw _ (List.mem_of_getElem? (i := 63) rfl))) (by decide) (StrChars.Road.backV (W := 1) hZ hws54 (kI := 4) (hw _ (List.mem_of_getElem? (i := 58) rfl)) (cs := [(nar .char ((c0 &&& (255 : Int32)).toUInt32.toUInt16.toUInt32.toInt32)), (nar .char ((c1 &&& (255 : Int32)).toUInt32.toUInt16.toUInt32.toInt32))]) (bs := [(nar .char ((c0 &&& (255 : Int32)).toUInt32.toUInt16.toUInt32.toInt32)).toInt8.toInt32, (nar .char ((c1 &&& (255 : Int32)).toUInt32.toUInt16.toUInt32.toInt32)).toInt8.toInt32]) (n := 2) gb_b26 Z52 f45_47 f45_48 f45_49 V45 f45_46 hzc rfl rfl (by decide) (by decide) hlat54 rfl (by decide) (by decide)) (g := (mkF m 76 #[.val (.int n), .val (.int c0), .val (.int c1), .val (.int ((n &&& (2147483647 : Int32)) % (3 : Int32))), .val (.int (c0 &&& (255 : Int32)).toUInt32.toUInt16.toUInt32.toInt32), .val (.int (c1 &&& (255 : Int32)).toUInt32.toUInt16.toUInt32.toInt32)] [(.ref b30), (.ref b26), (.ref b26)])) rfl (by rw [hml]; rfl) (Steps.refl _) (a := b26) (argsL := [(.ref b30)]) (rest := [(.ref b26)]) (lenOf pdt_0 rfl) rfl (by show 2 * 0 + _ ≤ _; exact Nat.le_of_eq rfl) (hb hby dt_76) (fun _ _ => ⟨rfl, e45, (by decide : 2 + 1 ≤ _), (by decide : 6 + 2 ≤ _)⟩)
    dsimp only [Pt.U, Pt.locs, Pt.cells, Pt.slots] at X53 l53 y53 z53 st53 hQ53
    subst l53 y53 z53
    obtain ⟨rfl, N53q, KC53, EB53, -⟩ := hQ53
    have K55 : Keep h0 T53.heap [] := K51.trans KC53 (allS (Or.inr sz_b26) all0)
    have N53 := Fr.app N45 N53q
    have pre56 : ∀ tg_, Steps p.tables e below (T53.setTop (mkF m 79 #[.val (.int n), .val (.int c0), .val (.int c1), .val (.int ((n &&& (2147483647 : Int32)) % (3 : Int32))), .val (.int (c0 &&& (255 : Int32)).toUInt32.toUInt16.toUInt32.toInt32), .val (.int (c1 &&& (255 : Int32)).toUInt32.toUInt16.toUInt32.toInt32)] [(.ref b26)])) tg_ → Steps p.tables e below (s₁.setTop (entryFrame m #[(.int n), (.int c0), (.int c1)] 6)) tg_ := by
      intro tg_ kt
      refine pre1 _ ?_
      show Steps p.tables e below (s₁.setTop (mkF m 40 #[.val (.int n), .val (.int c0), .val (.int c1), .val (.int ((n &&& (2147483647 : Int32)) % (3 : Int32))), .val (.int (c0 &&& (255 : Int32)).toUInt32.toUInt16.toUInt32.toInt32), .val (.int (c1 &&& (255 : Int32)).toUInt32.toUInt16.toUInt32.toInt32)] [(.int (1 : Int32)), (.int ((n &&& (2147483647 : Int32)) % (3 : Int32)))])) _
      refine XS.icmpYes X0.here hx rfl (pc0 := 40) (pc' := 59) rfl (hb hby dt_40) rfl (XT.ii_ne_t hc40_2) (by decide) (by decide) ?_
      show Steps p.tables e below (s₁.setTop (mkF m 59 #[.val (.int n), .val (.int c0), .val (.int c1), .val (.int ((n &&& (2147483647 : Int32)) % (3 : Int32))), .val (.int (c0 &&& (255 : Int32)).toUInt32.toUInt16.toUInt32.toInt32), .val (.int (c1 &&& (255 : Int32)).toUInt32.toUInt16.toUInt32.toInt32)] [])) _
      refine st26 _ ?_
      show Steps p.tables e below (T26.setTop (mkF m 62 #[.val (.int n), .val (.int c0), .val (.int c1), .val (.int ((n &&& (2147483647 : Int32)) % (3 : Int32))), .val (.int (c0 &&& (255 : Int32)).toUInt32.toUInt16.toUInt32.toInt32), .val (.int (c1 &&& (255 : Int32)).toUInt32.toUInt16.toUInt32.toInt32)] [(.ref b26)])) _
      refine XS.dup X26.here hx rfl (hb hby dt_62) rfl rfl ?_
      show Steps p.tables e below (T26.setTop (mkF m 63 #[.val (.int n), .val (.int c0), .val (.int c1), .val (.int ((n &&& (2147483647 : Int32)) % (3 : Int32))), .val (.int (c0 &&& (255 : Int32)).toUInt32.toUInt16.toUInt32.toInt32), .val (.int (c1 &&& (255 : Int32)).toUInt32.toUInt16.toUInt32.toInt32)] [(.ref b26), (.ref b26)])) _
      refine XS.iconst X26.here hx rfl (hb hby dt_63) ?_
      show Steps p.tables e below (T26.setTop (mkF m 64 #[.val (.int n), .val (.int c0), .val (.int c1), .val (.int ((n &&& (2147483647 : Int32)) % (3 : Int32))), .val (.int (c0 &&& (255 : Int32)).toUInt32.toUInt16.toUInt32.toInt32), .val (.int (c1 &&& (255 : Int32)).toUInt32.toUInt16.toUInt32.toInt32)] [(.int (2 : Int32)), (.ref b26), (.ref b26)])) _
      refine st30 _ ?_
      show Steps p.tables e below (T30.setTop (mkF m 66 #[.val (.int n), .val (.int c0), .val (.int c1), .val (.int ((n &&& (2147483647 : Int32)) % (3 : Int32))), .val (.int (c0 &&& (255 : Int32)).toUInt32.toUInt16.toUInt32.toInt32), .val (.int (c1 &&& (255 : Int32)).toUInt32.toUInt16.toUInt32.toInt32)] [(.ref b30), (.ref b26), (.ref b26)])) _
      refine XS.dup X30.here hx rfl (hb hby dt_66) rfl rfl ?_
      show Steps p.tables e below (T30.setTop (mkF m 67 #[.val (.int n), .val (.int c0), .val (.int c1), .val (.int ((n &&& (2147483647 : Int32)) % (3 : Int32))), .val (.int (c0 &&& (255 : Int32)).toUInt32.toUInt16.toUInt32.toInt32), .val (.int (c1 &&& (255 : Int32)).toUInt32.toUInt16.toUInt32.toInt32)] [(.ref b30), (.ref b30), (.ref b26), (.ref b26)])) _
      refine XS.iconst X30.here hx rfl (hb hby dt_67) ?_
      show Steps p.tables e below (T30.setTop (mkF m 68 #[.val (.int n), .val (.int c0), .val (.int c1), .val (.int ((n &&& (2147483647 : Int32)) % (3 : Int32))), .val (.int (c0 &&& (255 : Int32)).toUInt32.toUInt16.toUInt32.toInt32), .val (.int (c1 &&& (255 : Int32)).toUInt32.toUInt16.toUInt32.toInt32)] [(.int (0 : Int32)), (.ref b30), (.ref b30), (.ref b26), (.ref b26)])) _
      refine XS.iload X30.here hx rfl (hb hby dt_68) rfl ?_
      show Steps p.tables e below (T30.setTop (mkF m 70 #[.val (.int n), .val (.int c0), .val (.int c1), .val (.int ((n &&& (2147483647 : Int32)) % (3 : Int32))), .val (.int (c0 &&& (255 : Int32)).toUInt32.toUInt16.toUInt32.toInt32), .val (.int (c1 &&& (255 : Int32)).toUInt32.toUInt16.toUInt32.toInt32)] [(.int (c0 &&& (255 : Int32)).toUInt32.toUInt16.toUInt32.toInt32), (.int (0 : Int32)), (.ref b30), (.ref b30), (.ref b26), (.ref b26)])) _
      refine st37 _ ?_
      show Steps p.tables e below (T37.setTop (mkF m 71 #[.val (.int n), .val (.int c0), .val (.int c1), .val (.int ((n &&& (2147483647 : Int32)) % (3 : Int32))), .val (.int (c0 &&& (255 : Int32)).toUInt32.toUInt16.toUInt32.toInt32), .val (.int (c1 &&& (255 : Int32)).toUInt32.toUInt16.toUInt32.toInt32)] [(.ref b30), (.ref b26), (.ref b26)])) _
      refine XS.dup X37.here hx rfl (hb hby dt_71) rfl rfl ?_
      show Steps p.tables e below (T37.setTop (mkF m 72 #[.val (.int n), .val (.int c0), .val (.int c1), .val (.int ((n &&& (2147483647 : Int32)) % (3 : Int32))), .val (.int (c0 &&& (255 : Int32)).toUInt32.toUInt16.toUInt32.toInt32), .val (.int (c1 &&& (255 : Int32)).toUInt32.toUInt16.toUInt32.toInt32)] [(.ref b30), (.ref b30), (.ref b26), (.ref b26)])) _
      refine XS.iconst X37.here hx rfl (hb hby dt_72) ?_
      show Steps p.tables e below (T37.setTop (mkF m 73 #[.val (.int n), .val (.int c0), .val (.int c1), .val (.int ((n &&& (2147483647 : Int32)) % (3 : Int32))), .val (.int (c0 &&& (255 : Int32)).toUInt32.toUInt16.toUInt32.toInt32), .val (.int (c1 &&& (255 : Int32)).toUInt32.toUInt16.toUInt32.toInt32)] [(.int (1 : Int32)), (.ref b30), (.ref b30), (.ref b26), (.ref b26)])) _
      refine XS.iload X37.here hx rfl (hb hby dt_73) rfl ?_
      show Steps p.tables e below (T37.setTop (mkF m 75 #[.val (.int n), .val (.int c0), .val (.int c1), .val (.int ((n &&& (2147483647 : Int32)) % (3 : Int32))), .val (.int (c0 &&& (255 : Int32)).toUInt32.toUInt16.toUInt32.toInt32), .val (.int (c1 &&& (255 : Int32)).toUInt32.toUInt16.toUInt32.toInt32)] [(.int (c1 &&& (255 : Int32)).toUInt32.toUInt16.toUInt32.toInt32), (.int (1 : Int32)), (.ref b30), (.ref b30), (.ref b26), (.ref b26)])) _
      refine st45 _ ?_
      show Steps p.tables e below (T45.setTop (mkF m 76 #[.val (.int n), .val (.int c0), .val (.int c1), .val (.int ((n &&& (2147483647 : Int32)) % (3 : Int32))), .val (.int (c0 &&& (255 : Int32)).toUInt32.toUInt16.toUInt32.toInt32), .val (.int (c1 &&& (255 : Int32)).toUInt32.toUInt16.toUInt32.toInt32)] [(.ref b30), (.ref b26), (.ref b26)])) _
      refine st53.trans ?_
      exact kt
    obtain ⟨fs, hr, hrun, hended, hW, hsame⟩ := X53.leave (v := some (.ref b26)) (fun h => by rw [Bd.returns] at h; cases h)
    refine ⟨_, _, pre56 _ ?_, hrun, hended, _, _, rfl, ?_, ⟨_, rfl⟩, hW, hsame.mono (by decide) (by decide)⟩
    · show Steps p.tables e below (T53.setTop (mkF m 79 #[.val (.int n), .val (.int c0), .val (.int c1), .val (.int ((n &&& (2147483647 : Int32)) % (3 : Int32))), .val (.int (c0 &&& (255 : Int32)).toUInt32.toUInt16.toUInt32.toInt32), .val (.int (c1 &&& (255 : Int32)).toUInt32.toUInt16.toUInt32.toInt32)] [(.ref b26)])) _
      jvm_step X53.here [X53.here.top, hx, (hb hby dt_79), X53.method', Bd.returns, Value.isRef, FieldType.isReference]
      first | (intro acts; rw [hr _ acts rfl rfl rfl]) | rw [hr _ _ rfl rfl rfl]
      exact Steps.refl _
    · show QO Z "java/lang/String" h0 n0 _ T53.heap _
      exact ⟨_, rfl, N53, K55, EB53⟩
def Q0 (Z : State) (h0 : Heap) (n0 : Nat) (v : Option Value) (h : Heap) (L : List Loc) : Prop := v = some (.int 1) ∧ Fr n0 L
theorem pn0 : plainName "com/example/hornbrook/hornbrook/ValuesKindPinLaw" = true := by first | (simp [plainName, overriddenIn]; done) | decide +kernel
theorem pd0_0 : parseMethodDescriptor "(J)Ljava/lang/Long;" = some ⟨[.long], some (.object "java/lang/Long")⟩ := by decide +kernel
theorem pd0_1 : parseMethodDescriptor "(Ljava/lang/Object;)B" = some ⟨[(.object "java/lang/Object")], some .byte⟩ := by decide +kernel
theorem pd0_2 : parseMethodDescriptor "(D)Ljava/lang/Double;" = some ⟨[.double], some (.object "java/lang/Double")⟩ := by decide +kernel
theorem pd0_3 : parseMethodDescriptor "(III)Ljava/lang/String;" = some ⟨[.int, .int, .int], some (.object "java/lang/String")⟩ := by decide +kernel
theorem ef0 (m : MethodId) (x0 : Int32) (x1 : Int64) (x2 : Int32) (x3 : Int32) (x4 : Int32) (x5 : Int32) : entryFrame m #[(.int x0), (.long x1), (.int x2), (.int x3), (.int x4), (.int x5)] maxLocals = mkF m 0 #[.val (.int x0), .val (.long x1), .second, .val (.int x2), .val (.int x3), .val (.int x4), .val (.int x5), .unset, .unset, .unset, .unset, .unset] [] := by first | (simp [entryFrame, mkF, argsToLocals, Value.category, maxLocals]; done) | rfl
set_option maxRecDepth 65536 in
set_option maxHeartbeats 40000000 in
theorem rm0 (l : Launch) (Z : State) (a0 : Array Value) (hw : ∀ d ∈ tables_1, d.before a0 Z = true) (ws : List Jvm.Cond) (ps : Int32) (pa : Int64) (pb pc0 pc1 pn zc : Int32) (ca bTRUE bFALSE : Addr) (cc : Cell) (h0 : Heap) (n0 : Nat) (Z0 : n0 ≤ h0.size) (S_L : Sta Z h0 "java/lang/Long$LongCache" "cache" "[Ljava/lang/Long;" (.ref ca)) (Ar : Arr Z h0 ca cc (.object "java/lang/Long")) (hsz : cc.slots.size = 256) (hB : ∀ j : Int32, ¬ (j < 0 ∨ cc.slots.size ≤ j.toNatClampNeg) → ∃ b : Addr, cc.slots[j.toNatClampNeg]? = some (.ref b) ∧ Exa Z h0 b "java/lang/Long") (S_C : Sta Z h0 "java/lang/String" "COMPACT_STRINGS" "Z" (.int zc)) (hzc : ¬ zc = 0) (S_TRUE : Sta Z h0 "java/lang/Boolean" "TRUE" "Ljava/lang/Boolean;" (.ref bTRUE)) (E_TRUE : Exa Z h0 bTRUE "java/lang/Boolean") (S_FALSE : Sta Z h0 "java/lang/Boolean" "FALSE" "Ljava/lang/Boolean;" (.ref bFALSE)) (E_FALSE : Exa Z h0 bFALSE "java/lang/Boolean") (hne : ((ps &&& (2147483647 : Int32)) % (5 : Int32)) = (2 : Int32) → ¬ ((pn &&& (2147483647 : Int32)) % (3 : Int32)) = (0 : Int32)) :
    MetFree l x (head1 (Jvm.Cond.code x code maxLocals ret :: ws) room_1) (fun aa_ U => aa_ = #[(.int ps), (.long pa), (.int pb), (.int pc0), (.int pc1), (.int pn)] ∧ Z.Warmed39 U.vm ∧ U.heap = h0) (fun _ _ _ _ _ => True) (fun _ U o U' => ∃ vv_ LL_, o = .returned vv_ ∧ Q0 Z h0 n0 vv_ U'.heap LL_ ∧ FrameEnd U o U' LL_ room_1.cells room_1.slots) := by
  refine MetFree.of_bodySF (plainFor_of_name pn0) hisR ?_
  intro p e s m args below meth c s₁ Bd hml0 hP hK
  obtain ⟨rfl, hZ, hh⟩ := hP
  have hx := Bd.exec
  have hby := Bd.bytes
  have hml : c.maxLocals = 12 := hml0
  have hown : s.vm.findClass "com/example/hornbrook/hornbrook/ValuesKindPinLaw" = some m.cls := findClass_of_methodNamed Bd.named
  have hnm := (name_of_methodNamed Bd.named Bd.method).1
  have X0 : Stand p l e room_1 s m #[(.int ps), (.long pa), (.int pb), (.int pc0), (.int pc1), (.int pn)] below meth c s₁ [] 0 0 := Stand.of_body Bd
  have e0 : s₁.heap = h0 := by rw [← hh, Bd.state]; rfl
  have N0 := Fr.nil n0
  have pre0 : ∀ tg_, Steps p.tables e below (s₁.setTop (mkF m 0 #[.val (.int ps), .val (.long pa), .second, .val (.int pb), .val (.int pc0), .val (.int pc1), .val (.int pn), .unset, .unset, .unset, .unset, .unset] [])) tg_ → Steps p.tables e below (s₁.setTop (entryFrame m #[(.int ps), (.long pa), (.int pb), (.int pc0), (.int pc1), (.int pn)] maxLocals)) tg_ := fun tg_ kt => castTop (ef0 m ps pa pb pc0 pc1 pn) kt
  have pre1 : ∀ tg_, Steps p.tables e below (s₁.setTop (mkF m 13 #[.val (.int ps), .val (.long pa), .second, .val (.int pb), .val (.int pc0), .val (.int pc1), .val (.int pn), .val (.int ((ps &&& (2147483647 : Int32)) % (5 : Int32))), .unset, .unset, .unset, .unset] [(.int (XT.cmpL (pa &&& (1 : Int64)) (0 : Int64)))])) tg_ → Steps p.tables e below (s₁.setTop (entryFrame m #[(.int ps), (.long pa), (.int pb), (.int pc0), (.int pc1), (.int pn)] maxLocals)) tg_ := by
    intro tg_ kt
    refine pre0 _ ?_
    show Steps p.tables e below (s₁.setTop (mkF m 0 #[.val (.int ps), .val (.long pa), .second, .val (.int pb), .val (.int pc0), .val (.int pc1), .val (.int pn), .unset, .unset, .unset, .unset, .unset] [])) _
    refine XS.iloadN X0.here hx rfl (hb hby at_0) rfl ?_
    show Steps p.tables e below (s₁.setTop (mkF m 1 #[.val (.int ps), .val (.long pa), .second, .val (.int pb), .val (.int pc0), .val (.int pc1), .val (.int pn), .unset, .unset, .unset, .unset, .unset] [(.int ps)])) _
    refine X0.ldcI hx hown (mvT hZ (hw _ (List.mem_of_getElem? (i := 0) rfl))) (g := (mkF m 1 #[.val (.int ps), .val (.long pa), .second, .val (.int pb), .val (.int pc0), .val (.int pc1), .val (.int pn), .unset, .unset, .unset, .unset, .unset] [(.int ps)])) rfl (hb hby at_1) ?_
    show Steps p.tables e below (s₁.setTop (mkF m 3 #[.val (.int ps), .val (.long pa), .second, .val (.int pb), .val (.int pc0), .val (.int pc1), .val (.int pn), .unset, .unset, .unset, .unset, .unset] [(.int (2147483647 : Int32)), (.int ps)])) _
    refine XS.iand X0.here hx rfl (hb hby at_3) rfl ?_
    show Steps p.tables e below (s₁.setTop (mkF m 4 #[.val (.int ps), .val (.long pa), .second, .val (.int pb), .val (.int pc0), .val (.int pc1), .val (.int pn), .unset, .unset, .unset, .unset, .unset] [(.int (ps &&& (2147483647 : Int32)))])) _
    refine XS.iconst X0.here hx rfl (hb hby at_4) ?_
    show Steps p.tables e below (s₁.setTop (mkF m 5 #[.val (.int ps), .val (.long pa), .second, .val (.int pb), .val (.int pc0), .val (.int pc1), .val (.int pn), .unset, .unset, .unset, .unset, .unset] [(.int (5 : Int32)), (.int (ps &&& (2147483647 : Int32)))])) _
    refine iremM X0 hx rfl (hb hby at_5) rfl (by decide) ?_
    show Steps p.tables e below (s₁.setTop (mkF m 6 #[.val (.int ps), .val (.long pa), .second, .val (.int pb), .val (.int pc0), .val (.int pc1), .val (.int pn), .unset, .unset, .unset, .unset, .unset] [(.int ((ps &&& (2147483647 : Int32)) % (5 : Int32)))])) _
    refine XS.istore X0.here hx rfl (hb hby at_6) rfl (l' := #[.val (.int ps), .val (.long pa), .second, .val (.int pb), .val (.int pc0), .val (.int pc1), .val (.int pn), .val (.int ((ps &&& (2147483647 : Int32)) % (5 : Int32))), .unset, .unset, .unset, .unset]) rfl ?_
    show Steps p.tables e below (s₁.setTop (mkF m 8 #[.val (.int ps), .val (.long pa), .second, .val (.int pb), .val (.int pc0), .val (.int pc1), .val (.int pn), .val (.int ((ps &&& (2147483647 : Int32)) % (5 : Int32))), .unset, .unset, .unset, .unset] [])) _
    refine XS.lloadN X0.here hx rfl (hb hby at_8) rfl ?_
    show Steps p.tables e below (s₁.setTop (mkF m 9 #[.val (.int ps), .val (.long pa), .second, .val (.int pb), .val (.int pc0), .val (.int pc1), .val (.int pn), .val (.int ((ps &&& (2147483647 : Int32)) % (5 : Int32))), .unset, .unset, .unset, .unset] [(.long pa)])) _
    refine XS.lconst X0.here hx rfl (hb hby at_9) ?_
    show Steps p.tables e below (s₁.setTop (mkF m 10 #[.val (.int ps), .val (.long pa), .second, .val (.int pb), .val (.int pc0), .val (.int pc1), .val (.int pn), .val (.int ((ps &&& (2147483647 : Int32)) % (5 : Int32))), .unset, .unset, .unset, .unset] [(.long (1 : Int64)), (.long pa)])) _
    refine XS.land X0.here hx rfl (hb hby at_10) rfl ?_
    show Steps p.tables e below (s₁.setTop (mkF m 11 #[.val (.int ps), .val (.long pa), .second, .val (.int pb), .val (.int pc0), .val (.int pc1), .val (.int pn), .val (.int ((ps &&& (2147483647 : Int32)) % (5 : Int32))), .unset, .unset, .unset, .unset] [(.long (pa &&& (1 : Int64)))])) _
    refine XS.lconst X0.here hx rfl (hb hby at_11) ?_
    show Steps p.tables e below (s₁.setTop (mkF m 12 #[.val (.int ps), .val (.long pa), .second, .val (.int pb), .val (.int pc0), .val (.int pc1), .val (.int pn), .val (.int ((ps &&& (2147483647 : Int32)) % (5 : Int32))), .unset, .unset, .unset, .unset] [(.long (0 : Int64)), (.long (pa &&& (1 : Int64)))])) _
    refine XT.lcmp X0.here hx rfl (hb hby at_12) rfl ?_
    exact kt
  obtain ⟨fl, pre2⟩ : ∃ fl : Int32, ∀ tg_, Steps p.tables e below (s₁.setTop (mkF m 21 #[.val (.int ps), .val (.long pa), .second, .val (.int pb), .val (.int pc0), .val (.int pc1), .val (.int pn), .val (.int ((ps &&& (2147483647 : Int32)) % (5 : Int32))), .unset, .unset, .unset, .unset] [(.int fl)])) tg_ → Steps p.tables e below (s₁.setTop (entryFrame m #[(.int ps), (.long pa), (.int pb), (.int pc0), (.int pc1), (.int pn)] maxLocals)) tg_ := by
    by_cases hr13_3 : (pa &&& (1 : Int64)) = (0 : Int64)
    · refine ⟨(0 : Int32), fun tg_ kt => ?_⟩
      refine pre1 _ ?_
      show Steps p.tables e below (s₁.setTop (mkF m 13 #[.val (.int ps), .val (.long pa), .second, .val (.int pb), .val (.int pc0), .val (.int pc1), .val (.int pn), .val (.int ((ps &&& (2147483647 : Int32)) % (5 : Int32))), .unset, .unset, .unset, .unset] [(.int (XT.cmpL (pa &&& (1 : Int64)) (0 : Int64)))])) _
      refine XS.ifYes X0.here hx rfl (pc0 := 13) (pc' := 20) rfl (hb hby at_13) rfl (XT.ll_eq_t hr13_3) (by decide) (by decide) ?_
      show Steps p.tables e below (s₁.setTop (mkF m 20 #[.val (.int ps), .val (.long pa), .second, .val (.int pb), .val (.int pc0), .val (.int pc1), .val (.int pn), .val (.int ((ps &&& (2147483647 : Int32)) % (5 : Int32))), .unset, .unset, .unset, .unset] [])) _
      refine XS.iconst X0.here hx rfl (hb hby at_20) ?_
      exact kt
    · refine ⟨(1 : Int32), fun tg_ kt => ?_⟩
      refine pre1 _ ?_
      show Steps p.tables e below (s₁.setTop (mkF m 13 #[.val (.int ps), .val (.long pa), .second, .val (.int pb), .val (.int pc0), .val (.int pc1), .val (.int pn), .val (.int ((ps &&& (2147483647 : Int32)) % (5 : Int32))), .unset, .unset, .unset, .unset] [(.int (XT.cmpL (pa &&& (1 : Int64)) (0 : Int64)))])) _
      refine XS.ifNo X0.here hx rfl (hb hby at_13) rfl (XT.ll_eq_f hr13_3) ?_
      show Steps p.tables e below (s₁.setTop (mkF m 16 #[.val (.int ps), .val (.long pa), .second, .val (.int pb), .val (.int pc0), .val (.int pc1), .val (.int pn), .val (.int ((ps &&& (2147483647 : Int32)) % (5 : Int32))), .unset, .unset, .unset, .unset] [])) _
      refine XS.iconst X0.here hx rfl (hb hby at_16) ?_
      show Steps p.tables e below (s₁.setTop (mkF m 17 #[.val (.int ps), .val (.long pa), .second, .val (.int pb), .val (.int pc0), .val (.int pc1), .val (.int pn), .val (.int ((ps &&& (2147483647 : Int32)) % (5 : Int32))), .unset, .unset, .unset, .unset] [(.int (1 : Int32))])) _
      refine XS.goto X0.here hx rfl (pc0 := 17) (pc' := 21) rfl (hb hby at_17) (by decide) (by decide) ?_
      exact kt
  have pre4 : ∀ tg_, Steps p.tables e below (s₁.setTop (mkF m 25 #[.val (.int ps), .val (.long pa), .second, .val (.int pb), .val (.int pc0), .val (.int pc1), .val (.int pn), .val (.int ((ps &&& (2147483647 : Int32)) % (5 : Int32))), .val (.int fl), .unset, .unset, .unset] [(.int ((ps &&& (2147483647 : Int32)) % (5 : Int32)))])) tg_ → Steps p.tables e below (s₁.setTop (entryFrame m #[(.int ps), (.long pa), (.int pb), (.int pc0), (.int pc1), (.int pn)] maxLocals)) tg_ := by
    intro tg_ kt
    refine pre2 _ ?_
    show Steps p.tables e below (s₁.setTop (mkF m 21 #[.val (.int ps), .val (.long pa), .second, .val (.int pb), .val (.int pc0), .val (.int pc1), .val (.int pn), .val (.int ((ps &&& (2147483647 : Int32)) % (5 : Int32))), .unset, .unset, .unset, .unset] [(.int fl)])) _
    refine XS.istore X0.here hx rfl (hb hby at_21) rfl (l' := #[.val (.int ps), .val (.long pa), .second, .val (.int pb), .val (.int pc0), .val (.int pc1), .val (.int pn), .val (.int ((ps &&& (2147483647 : Int32)) % (5 : Int32))), .val (.int fl), .unset, .unset, .unset]) rfl ?_
    show Steps p.tables e below (s₁.setTop (mkF m 23 #[.val (.int ps), .val (.long pa), .second, .val (.int pb), .val (.int pc0), .val (.int pc1), .val (.int pn), .val (.int ((ps &&& (2147483647 : Int32)) % (5 : Int32))), .val (.int fl), .unset, .unset, .unset] [])) _
    refine XS.iload X0.here hx rfl (hb hby at_23) rfl ?_
    exact kt
  by_cases hc25_5 : ((ps &&& (2147483647 : Int32)) % (5 : Int32)) = (0 : Int32)
  · obtain ⟨_, _, ⟨T6, L6, k6, n6⟩, -, X6, ⟨Lc6, hQ6, l6, y6, z6⟩, st6⟩ := Jvm.LawKit.callS X0 hx (y := (⟨"java/lang/Long", "valueOf", "(J)Ljava/lang/Long;"⟩ : MethodName)) hown (mvT hZ (hw _ (List.mem_of_getElem? (i := 1) rfl))) (mvT hZ (hw _ (List.mem_of_getElem? (i := 2) rfl))) (mvT hZ (hw _ (List.mem_of_getElem? (i := 3) rfl))) (mvT hZ (hw _ (List.mem_of_getElem? (i := 4) rfl))) (by decide) (backOf (W := 0) (rmlv l Z a0 hw [] pa ca cc h0 n0 Z0 S_L Ar hsz hB) hZ (hw _ (List.mem_of_getElem? (i := 4) rfl)) (hw _ (List.mem_of_getElem? (i := 3) rfl)) (by decide) (by decide)) (g := (mkF m 29 #[.val (.int ps), .val (.long pa), .second, .val (.int pb), .val (.int pc0), .val (.int pc1), .val (.int pn), .val (.int ((ps &&& (2147483647 : Int32)) % (5 : Int32))), .val (.int fl), .unset, .unset, .unset] [(.long pa)])) rfl (by rw [hml]; rfl) (argsL := [(.long pa)]) (rest := []) (lenOf pd0_0 rfl) rfl (by show 2 * 0 + _ ≤ _; exact Nat.le_of_eq rfl) (hb hby at_29) (fun _ _ => ⟨rfl, e0, (by decide : 0 + 1 ≤ _), (by decide : 0 + 1 ≤ _)⟩)
    dsimp only [Pt.U, Pt.locs, Pt.cells, Pt.slots] at X6 l6 y6 z6 st6 hQ6
    subst l6 y6 z6
    obtain ⟨bo6, rfl, N6q, KC6, EB6⟩ := hQ6
    have N6 := Fr.app N0 N6q
    obtain ⟨_, _, ⟨T7, L7, k7, n7⟩, -, X7, ⟨Lc7, hQ7, l7, y7, z7⟩, st7⟩ := Jvm.LawKit.callS X6 hx (y := (⟨"com/example/hornbrook/hornbrook/Values", "kind", "(Ljava/lang/Object;)B"⟩ : MethodName)) hown (mvT hZ (hw _ (List.mem_of_getElem? (i := 9) rfl))) (mvT hZ (hw _ (List.mem_of_getElem? (i := 10) rfl))) (mvT hZ (hw _ (List.mem_of_getElem? (i := 11) rfl))) (mvT hZ (hw _ (List.mem_of_getElem? (i := 12) rfl))) (by decide) (backOf (W := 0) (rmkl l Z a0 hw [] bo6 T6.heap n0 (Nat.le_trans Z0 KC6.1) EB6) hZ (hw _ (List.mem_of_getElem? (i := 12) rfl)) (hw _ (List.mem_of_getElem? (i := 11) rfl)) (by decide) (by decide)) (g := (mkF m 118 #[.val (.int ps), .val (.long pa), .second, .val (.int pb), .val (.int pc0), .val (.int pc1), .val (.int pn), .val (.int ((ps &&& (2147483647 : Int32)) % (5 : Int32))), .val (.int fl), .val (.ref bo6), .val (.int (0 : Int32)), .unset] [(.ref bo6)])) rfl (by rw [hml]; rfl) (argsL := [(.ref bo6)]) (rest := []) (lenOf pd0_1 rfl) rfl (by show 2 * 0 + _ ≤ _; exact Nat.le_of_eq rfl) (hb hby at_118) (fun _ _ => ⟨rfl, rfl, (by decide : 1 + 0 ≤ _), (by decide : 1 + 0 ≤ _)⟩)
    dsimp only [Pt.U, Pt.locs, Pt.cells, Pt.slots] at X7 l7 y7 z7 st7 hQ7
    subst l7 y7 z7
    obtain ⟨rfl, N7q, e7⟩ := hQ7
    have N7 := Fr.app N6 N7q
    have pre8 : ∀ tg_, Steps p.tables e below (T7.setTop (mkF m 135 #[.val (.int ps), .val (.long pa), .second, .val (.int pb), .val (.int pc0), .val (.int pc1), .val (.int pn), .val (.int ((ps &&& (2147483647 : Int32)) % (5 : Int32))), .val (.int fl), .val (.ref bo6), .val (.int (0 : Int32)), .val (.int (0 : Int32))] [(.int (1 : Int32))])) tg_ → Steps p.tables e below (s₁.setTop (entryFrame m #[(.int ps), (.long pa), (.int pb), (.int pc0), (.int pc1), (.int pn)] maxLocals)) tg_ := by
      intro tg_ kt
      refine pre4 _ ?_
      show Steps p.tables e below (s₁.setTop (mkF m 25 #[.val (.int ps), .val (.long pa), .second, .val (.int pb), .val (.int pc0), .val (.int pc1), .val (.int pn), .val (.int ((ps &&& (2147483647 : Int32)) % (5 : Int32))), .val (.int fl), .unset, .unset, .unset] [(.int ((ps &&& (2147483647 : Int32)) % (5 : Int32)))])) _
      refine XS.ifNo X0.here hx rfl (hb hby at_25) rfl (XT.i0_ne_f hc25_5) ?_
      show Steps p.tables e below (s₁.setTop (mkF m 28 #[.val (.int ps), .val (.long pa), .second, .val (.int pb), .val (.int pc0), .val (.int pc1), .val (.int pn), .val (.int ((ps &&& (2147483647 : Int32)) % (5 : Int32))), .val (.int fl), .unset, .unset, .unset] [])) _
      refine XS.lloadN X0.here hx rfl (hb hby at_28) rfl ?_
      show Steps p.tables e below (s₁.setTop (mkF m 29 #[.val (.int ps), .val (.long pa), .second, .val (.int pb), .val (.int pc0), .val (.int pc1), .val (.int pn), .val (.int ((ps &&& (2147483647 : Int32)) % (5 : Int32))), .val (.int fl), .unset, .unset, .unset] [(.long pa)])) _
      refine st6 _ ?_
      show Steps p.tables e below (T6.setTop (mkF m 32 #[.val (.int ps), .val (.long pa), .second, .val (.int pb), .val (.int pc0), .val (.int pc1), .val (.int pn), .val (.int ((ps &&& (2147483647 : Int32)) % (5 : Int32))), .val (.int fl), .unset, .unset, .unset] [(.ref bo6)])) _
      refine XS.astore X6.here hx rfl (hb hby at_32) rfl rfl (l' := #[.val (.int ps), .val (.long pa), .second, .val (.int pb), .val (.int pc0), .val (.int pc1), .val (.int pn), .val (.int ((ps &&& (2147483647 : Int32)) % (5 : Int32))), .val (.int fl), .val (.ref bo6), .unset, .unset]) rfl ?_
      show Steps p.tables e below (T6.setTop (mkF m 34 #[.val (.int ps), .val (.long pa), .second, .val (.int pb), .val (.int pc0), .val (.int pc1), .val (.int pn), .val (.int ((ps &&& (2147483647 : Int32)) % (5 : Int32))), .val (.int fl), .val (.ref bo6), .unset, .unset] [])) _
      refine XS.iconst X6.here hx rfl (hb hby at_34) ?_
      show Steps p.tables e below (T6.setTop (mkF m 35 #[.val (.int ps), .val (.long pa), .second, .val (.int pb), .val (.int pc0), .val (.int pc1), .val (.int pn), .val (.int ((ps &&& (2147483647 : Int32)) % (5 : Int32))), .val (.int fl), .val (.ref bo6), .unset, .unset] [(.int (0 : Int32))])) _
      refine XS.istore X6.here hx rfl (hb hby at_35) rfl (l' := #[.val (.int ps), .val (.long pa), .second, .val (.int pb), .val (.int pc0), .val (.int pc1), .val (.int pn), .val (.int ((ps &&& (2147483647 : Int32)) % (5 : Int32))), .val (.int fl), .val (.ref bo6), .val (.int (0 : Int32)), .unset]) rfl ?_
      show Steps p.tables e below (T6.setTop (mkF m 37 #[.val (.int ps), .val (.long pa), .second, .val (.int pb), .val (.int pc0), .val (.int pc1), .val (.int pn), .val (.int ((ps &&& (2147483647 : Int32)) % (5 : Int32))), .val (.int fl), .val (.ref bo6), .val (.int (0 : Int32)), .unset] [])) _
      refine XS.goto X6.here hx rfl (pc0 := 37) (pc' := 116) rfl (hb hby at_37) (by decide) (by decide) ?_
      show Steps p.tables e below (T6.setTop (mkF m 116 #[.val (.int ps), .val (.long pa), .second, .val (.int pb), .val (.int pc0), .val (.int pc1), .val (.int pn), .val (.int ((ps &&& (2147483647 : Int32)) % (5 : Int32))), .val (.int fl), .val (.ref bo6), .val (.int (0 : Int32)), .unset] [])) _
      refine XS.aload X6.here hx rfl (hb hby at_116) rfl rfl ?_
      show Steps p.tables e below (T6.setTop (mkF m 118 #[.val (.int ps), .val (.long pa), .second, .val (.int pb), .val (.int pc0), .val (.int pc1), .val (.int pn), .val (.int ((ps &&& (2147483647 : Int32)) % (5 : Int32))), .val (.int fl), .val (.ref bo6), .val (.int (0 : Int32)), .unset] [(.ref bo6)])) _
      refine st7 _ ?_
      show Steps p.tables e below (T7.setTop (mkF m 121 #[.val (.int ps), .val (.long pa), .second, .val (.int pb), .val (.int pc0), .val (.int pc1), .val (.int pn), .val (.int ((ps &&& (2147483647 : Int32)) % (5 : Int32))), .val (.int fl), .val (.ref bo6), .val (.int (0 : Int32)), .unset] [(.int (0 : Int32))])) _
      refine XS.istore X7.here hx rfl (hb hby at_121) rfl (l' := #[.val (.int ps), .val (.long pa), .second, .val (.int pb), .val (.int pc0), .val (.int pc1), .val (.int pn), .val (.int ((ps &&& (2147483647 : Int32)) % (5 : Int32))), .val (.int fl), .val (.ref bo6), .val (.int (0 : Int32)), .val (.int (0 : Int32))]) rfl ?_
      show Steps p.tables e below (T7.setTop (mkF m 123 #[.val (.int ps), .val (.long pa), .second, .val (.int pb), .val (.int pc0), .val (.int pc1), .val (.int pn), .val (.int ((ps &&& (2147483647 : Int32)) % (5 : Int32))), .val (.int fl), .val (.ref bo6), .val (.int (0 : Int32)), .val (.int (0 : Int32))] [])) _
      refine XS.iload X7.here hx rfl (hb hby at_123) rfl ?_
      show Steps p.tables e below (T7.setTop (mkF m 125 #[.val (.int ps), .val (.long pa), .second, .val (.int pb), .val (.int pc0), .val (.int pc1), .val (.int pn), .val (.int ((ps &&& (2147483647 : Int32)) % (5 : Int32))), .val (.int fl), .val (.ref bo6), .val (.int (0 : Int32)), .val (.int (0 : Int32))] [(.int (0 : Int32))])) _
      refine XS.iload X7.here hx rfl (hb hby at_125) rfl ?_
      show Steps p.tables e below (T7.setTop (mkF m 127 #[.val (.int ps), .val (.long pa), .second, .val (.int pb), .val (.int pc0), .val (.int pc1), .val (.int pn), .val (.int ((ps &&& (2147483647 : Int32)) % (5 : Int32))), .val (.int fl), .val (.ref bo6), .val (.int (0 : Int32)), .val (.int (0 : Int32))] [(.int (0 : Int32)), (.int (0 : Int32))])) _
      refine XS.icmpNo X7.here hx rfl (hb hby at_127) rfl (XT.ii_ne_f (by decide)) ?_
      show Steps p.tables e below (T7.setTop (mkF m 130 #[.val (.int ps), .val (.long pa), .second, .val (.int pb), .val (.int pc0), .val (.int pc1), .val (.int pn), .val (.int ((ps &&& (2147483647 : Int32)) % (5 : Int32))), .val (.int fl), .val (.ref bo6), .val (.int (0 : Int32)), .val (.int (0 : Int32))] [])) _
      refine XS.iconst X7.here hx rfl (hb hby at_130) ?_
      show Steps p.tables e below (T7.setTop (mkF m 131 #[.val (.int ps), .val (.long pa), .second, .val (.int pb), .val (.int pc0), .val (.int pc1), .val (.int pn), .val (.int ((ps &&& (2147483647 : Int32)) % (5 : Int32))), .val (.int fl), .val (.ref bo6), .val (.int (0 : Int32)), .val (.int (0 : Int32))] [(.int (1 : Int32))])) _
      refine XS.goto X7.here hx rfl (pc0 := 131) (pc' := 135) rfl (hb hby at_131) (by decide) (by decide) ?_
      exact kt
    obtain ⟨fs, hr, hrun, hended, hW, hsame⟩ := X7.leave (v := some (.int (1 : Int32))) (fun h => by rw [Bd.returns] at h; cases h)
    refine ⟨_, _, pre8 _ ?_, hrun, hended, _, _, rfl, ?_, ⟨_, rfl⟩, hW, hsame.mono (by decide) (by decide)⟩
    · show Steps p.tables e below (T7.setTop (mkF m 135 #[.val (.int ps), .val (.long pa), .second, .val (.int pb), .val (.int pc0), .val (.int pc1), .val (.int pn), .val (.int ((ps &&& (2147483647 : Int32)) % (5 : Int32))), .val (.int fl), .val (.ref bo6), .val (.int (0 : Int32)), .val (.int (0 : Int32))] [(.int (1 : Int32))])) _
      exact retN X7 hx (t := .boolean) Bd.returns (by simp) (hb hby at_135) hr
    · show Q0 Z h0 n0 _ T7.heap _
      exact ⟨rfl, N7⟩
  · have pre9 : ∀ tg_, Steps p.tables e below (s₁.setTop (mkF m 43 #[.val (.int ps), .val (.long pa), .second, .val (.int pb), .val (.int pc0), .val (.int pc1), .val (.int pn), .val (.int ((ps &&& (2147483647 : Int32)) % (5 : Int32))), .val (.int fl), .unset, .unset, .unset] [(.int (1 : Int32)), (.int ((ps &&& (2147483647 : Int32)) % (5 : Int32)))])) tg_ → Steps p.tables e below (s₁.setTop (entryFrame m #[(.int ps), (.long pa), (.int pb), (.int pc0), (.int pc1), (.int pn)] maxLocals)) tg_ := by
      intro tg_ kt
      refine pre4 _ ?_
      show Steps p.tables e below (s₁.setTop (mkF m 25 #[.val (.int ps), .val (.long pa), .second, .val (.int pb), .val (.int pc0), .val (.int pc1), .val (.int pn), .val (.int ((ps &&& (2147483647 : Int32)) % (5 : Int32))), .val (.int fl), .unset, .unset, .unset] [(.int ((ps &&& (2147483647 : Int32)) % (5 : Int32)))])) _
      refine XS.ifYes X0.here hx rfl (pc0 := 25) (pc' := 40) rfl (hb hby at_25) rfl (XT.i0_ne_t hc25_5) (by decide) (by decide) ?_
      show Steps p.tables e below (s₁.setTop (mkF m 40 #[.val (.int ps), .val (.long pa), .second, .val (.int pb), .val (.int pc0), .val (.int pc1), .val (.int pn), .val (.int ((ps &&& (2147483647 : Int32)) % (5 : Int32))), .val (.int fl), .unset, .unset, .unset] [])) _
      refine XS.iload X0.here hx rfl (hb hby at_40) rfl ?_
      show Steps p.tables e below (s₁.setTop (mkF m 42 #[.val (.int ps), .val (.long pa), .second, .val (.int pb), .val (.int pc0), .val (.int pc1), .val (.int pn), .val (.int ((ps &&& (2147483647 : Int32)) % (5 : Int32))), .val (.int fl), .unset, .unset, .unset] [(.int ((ps &&& (2147483647 : Int32)) % (5 : Int32)))])) _
      refine XS.iconst X0.here hx rfl (hb hby at_42) ?_
      exact kt
    by_cases hc43_10 : ((ps &&& (2147483647 : Int32)) % (5 : Int32)) = (1 : Int32)
    · obtain ⟨_, _, ⟨T11, L11, k11, n11⟩, -, X11, ⟨Lc11, hQ11, l11, y11, z11⟩, st11⟩ := Jvm.LawKit.callS X0 hx (y := (⟨"java/lang/Double", "valueOf", "(D)Ljava/lang/Double;"⟩ : MethodName)) hown (mvT hZ (hw _ (List.mem_of_getElem? (i := 15) rfl))) (mvT hZ (hw _ (List.mem_of_getElem? (i := 16) rfl))) (mvT hZ (hw _ (List.mem_of_getElem? (i := 17) rfl))) (mvT hZ (hw _ (List.mem_of_getElem? (i := 18) rfl))) (by decide) (backOf (W := 0) (rmdv l Z a0 hw [] (FP.i2d pb) h0 n0 Z0) hZ (hw _ (List.mem_of_getElem? (i := 18) rfl)) (hw _ (List.mem_of_getElem? (i := 17) rfl)) (by decide) (by decide)) (g := (mkF m 48 #[.val (.int ps), .val (.long pa), .second, .val (.int pb), .val (.int pc0), .val (.int pc1), .val (.int pn), .val (.int ((ps &&& (2147483647 : Int32)) % (5 : Int32))), .val (.int fl), .unset, .unset, .unset] [(.double (FP.i2d pb))])) rfl (by rw [hml]; rfl) (argsL := [(.double (FP.i2d pb))]) (rest := []) (lenOf pd0_2 rfl) rfl (by show 2 * 0 + _ ≤ _; exact Nat.le_of_eq rfl) (hb hby at_48) (fun _ _ => ⟨rfl, e0, (by decide : 0 + 1 ≤ _), (by decide : 0 + 1 ≤ _)⟩)
      dsimp only [Pt.U, Pt.locs, Pt.cells, Pt.slots] at X11 l11 y11 z11 st11 hQ11
      subst l11 y11 z11
      obtain ⟨bo11, rfl, N11q, KC11, EB11⟩ := hQ11
      have N11 := Fr.app N0 N11q
      obtain ⟨_, _, ⟨T12, L12, k12, n12⟩, -, X12, ⟨Lc12, hQ12, l12, y12, z12⟩, st12⟩ := Jvm.LawKit.callS X11 hx (y := (⟨"com/example/hornbrook/hornbrook/Values", "kind", "(Ljava/lang/Object;)B"⟩ : MethodName)) hown (mvT hZ (hw _ (List.mem_of_getElem? (i := 9) rfl))) (mvT hZ (hw _ (List.mem_of_getElem? (i := 10) rfl))) (mvT hZ (hw _ (List.mem_of_getElem? (i := 11) rfl))) (mvT hZ (hw _ (List.mem_of_getElem? (i := 12) rfl))) (by decide) (backOf (W := 0) (rmkd l Z a0 hw [] bo11 T11.heap n0 (Nat.le_trans Z0 KC11.1) EB11) hZ (hw _ (List.mem_of_getElem? (i := 12) rfl)) (hw _ (List.mem_of_getElem? (i := 11) rfl)) (by decide) (by decide)) (g := (mkF m 118 #[.val (.int ps), .val (.long pa), .second, .val (.int pb), .val (.int pc0), .val (.int pc1), .val (.int pn), .val (.int ((ps &&& (2147483647 : Int32)) % (5 : Int32))), .val (.int fl), .val (.ref bo11), .val (.int (1 : Int32)), .unset] [(.ref bo11)])) rfl (by rw [hml]; rfl) (argsL := [(.ref bo11)]) (rest := []) (lenOf pd0_1 rfl) rfl (by show 2 * 0 + _ ≤ _; exact Nat.le_of_eq rfl) (hb hby at_118) (fun _ _ => ⟨rfl, rfl, (by decide : 1 + 0 ≤ _), (by decide : 1 + 0 ≤ _)⟩)
      dsimp only [Pt.U, Pt.locs, Pt.cells, Pt.slots] at X12 l12 y12 z12 st12 hQ12
      subst l12 y12 z12
      obtain ⟨rfl, N12q, e12⟩ := hQ12
      have N12 := Fr.app N11 N12q
      have pre13 : ∀ tg_, Steps p.tables e below (T12.setTop (mkF m 135 #[.val (.int ps), .val (.long pa), .second, .val (.int pb), .val (.int pc0), .val (.int pc1), .val (.int pn), .val (.int ((ps &&& (2147483647 : Int32)) % (5 : Int32))), .val (.int fl), .val (.ref bo11), .val (.int (1 : Int32)), .val (.int (1 : Int32))] [(.int (1 : Int32))])) tg_ → Steps p.tables e below (s₁.setTop (entryFrame m #[(.int ps), (.long pa), (.int pb), (.int pc0), (.int pc1), (.int pn)] maxLocals)) tg_ := by
        intro tg_ kt
        refine pre9 _ ?_
        show Steps p.tables e below (s₁.setTop (mkF m 43 #[.val (.int ps), .val (.long pa), .second, .val (.int pb), .val (.int pc0), .val (.int pc1), .val (.int pn), .val (.int ((ps &&& (2147483647 : Int32)) % (5 : Int32))), .val (.int fl), .unset, .unset, .unset] [(.int (1 : Int32)), (.int ((ps &&& (2147483647 : Int32)) % (5 : Int32)))])) _
        refine XS.icmpNo X0.here hx rfl (hb hby at_43) rfl (XT.ii_ne_f hc43_10) ?_
        show Steps p.tables e below (s₁.setTop (mkF m 46 #[.val (.int ps), .val (.long pa), .second, .val (.int pb), .val (.int pc0), .val (.int pc1), .val (.int pn), .val (.int ((ps &&& (2147483647 : Int32)) % (5 : Int32))), .val (.int fl), .unset, .unset, .unset] [])) _
        refine XS.iloadN X0.here hx rfl (hb hby at_46) rfl ?_
        show Steps p.tables e below (s₁.setTop (mkF m 47 #[.val (.int ps), .val (.long pa), .second, .val (.int pb), .val (.int pc0), .val (.int pc1), .val (.int pn), .val (.int ((ps &&& (2147483647 : Int32)) % (5 : Int32))), .val (.int fl), .unset, .unset, .unset] [(.int pb)])) _
        refine XS.i2dS X0.here hx rfl (hb hby at_47) rfl rfl ?_
        show Steps p.tables e below (s₁.setTop (mkF m 48 #[.val (.int ps), .val (.long pa), .second, .val (.int pb), .val (.int pc0), .val (.int pc1), .val (.int pn), .val (.int ((ps &&& (2147483647 : Int32)) % (5 : Int32))), .val (.int fl), .unset, .unset, .unset] [(.double (FP.i2d pb))])) _
        refine st11 _ ?_
        show Steps p.tables e below (T11.setTop (mkF m 51 #[.val (.int ps), .val (.long pa), .second, .val (.int pb), .val (.int pc0), .val (.int pc1), .val (.int pn), .val (.int ((ps &&& (2147483647 : Int32)) % (5 : Int32))), .val (.int fl), .unset, .unset, .unset] [(.ref bo11)])) _
        refine XS.astore X11.here hx rfl (hb hby at_51) rfl rfl (l' := #[.val (.int ps), .val (.long pa), .second, .val (.int pb), .val (.int pc0), .val (.int pc1), .val (.int pn), .val (.int ((ps &&& (2147483647 : Int32)) % (5 : Int32))), .val (.int fl), .val (.ref bo11), .unset, .unset]) rfl ?_
        show Steps p.tables e below (T11.setTop (mkF m 53 #[.val (.int ps), .val (.long pa), .second, .val (.int pb), .val (.int pc0), .val (.int pc1), .val (.int pn), .val (.int ((ps &&& (2147483647 : Int32)) % (5 : Int32))), .val (.int fl), .val (.ref bo11), .unset, .unset] [])) _
        refine XS.iconst X11.here hx rfl (hb hby at_53) ?_
        show Steps p.tables e below (T11.setTop (mkF m 54 #[.val (.int ps), .val (.long pa), .second, .val (.int pb), .val (.int pc0), .val (.int pc1), .val (.int pn), .val (.int ((ps &&& (2147483647 : Int32)) % (5 : Int32))), .val (.int fl), .val (.ref bo11), .unset, .unset] [(.int (1 : Int32))])) _
        refine XS.istore X11.here hx rfl (hb hby at_54) rfl (l' := #[.val (.int ps), .val (.long pa), .second, .val (.int pb), .val (.int pc0), .val (.int pc1), .val (.int pn), .val (.int ((ps &&& (2147483647 : Int32)) % (5 : Int32))), .val (.int fl), .val (.ref bo11), .val (.int (1 : Int32)), .unset]) rfl ?_
        show Steps p.tables e below (T11.setTop (mkF m 56 #[.val (.int ps), .val (.long pa), .second, .val (.int pb), .val (.int pc0), .val (.int pc1), .val (.int pn), .val (.int ((ps &&& (2147483647 : Int32)) % (5 : Int32))), .val (.int fl), .val (.ref bo11), .val (.int (1 : Int32)), .unset] [])) _
        refine XS.goto X11.here hx rfl (pc0 := 56) (pc' := 116) rfl (hb hby at_56) (by decide) (by decide) ?_
        show Steps p.tables e below (T11.setTop (mkF m 116 #[.val (.int ps), .val (.long pa), .second, .val (.int pb), .val (.int pc0), .val (.int pc1), .val (.int pn), .val (.int ((ps &&& (2147483647 : Int32)) % (5 : Int32))), .val (.int fl), .val (.ref bo11), .val (.int (1 : Int32)), .unset] [])) _
        refine XS.aload X11.here hx rfl (hb hby at_116) rfl rfl ?_
        show Steps p.tables e below (T11.setTop (mkF m 118 #[.val (.int ps), .val (.long pa), .second, .val (.int pb), .val (.int pc0), .val (.int pc1), .val (.int pn), .val (.int ((ps &&& (2147483647 : Int32)) % (5 : Int32))), .val (.int fl), .val (.ref bo11), .val (.int (1 : Int32)), .unset] [(.ref bo11)])) _
        refine st12 _ ?_
        show Steps p.tables e below (T12.setTop (mkF m 121 #[.val (.int ps), .val (.long pa), .second, .val (.int pb), .val (.int pc0), .val (.int pc1), .val (.int pn), .val (.int ((ps &&& (2147483647 : Int32)) % (5 : Int32))), .val (.int fl), .val (.ref bo11), .val (.int (1 : Int32)), .unset] [(.int (1 : Int32))])) _
        refine XS.istore X12.here hx rfl (hb hby at_121) rfl (l' := #[.val (.int ps), .val (.long pa), .second, .val (.int pb), .val (.int pc0), .val (.int pc1), .val (.int pn), .val (.int ((ps &&& (2147483647 : Int32)) % (5 : Int32))), .val (.int fl), .val (.ref bo11), .val (.int (1 : Int32)), .val (.int (1 : Int32))]) rfl ?_
        show Steps p.tables e below (T12.setTop (mkF m 123 #[.val (.int ps), .val (.long pa), .second, .val (.int pb), .val (.int pc0), .val (.int pc1), .val (.int pn), .val (.int ((ps &&& (2147483647 : Int32)) % (5 : Int32))), .val (.int fl), .val (.ref bo11), .val (.int (1 : Int32)), .val (.int (1 : Int32))] [])) _
        refine XS.iload X12.here hx rfl (hb hby at_123) rfl ?_
        show Steps p.tables e below (T12.setTop (mkF m 125 #[.val (.int ps), .val (.long pa), .second, .val (.int pb), .val (.int pc0), .val (.int pc1), .val (.int pn), .val (.int ((ps &&& (2147483647 : Int32)) % (5 : Int32))), .val (.int fl), .val (.ref bo11), .val (.int (1 : Int32)), .val (.int (1 : Int32))] [(.int (1 : Int32))])) _
        refine XS.iload X12.here hx rfl (hb hby at_125) rfl ?_
        show Steps p.tables e below (T12.setTop (mkF m 127 #[.val (.int ps), .val (.long pa), .second, .val (.int pb), .val (.int pc0), .val (.int pc1), .val (.int pn), .val (.int ((ps &&& (2147483647 : Int32)) % (5 : Int32))), .val (.int fl), .val (.ref bo11), .val (.int (1 : Int32)), .val (.int (1 : Int32))] [(.int (1 : Int32)), (.int (1 : Int32))])) _
        refine XS.icmpNo X12.here hx rfl (hb hby at_127) rfl (XT.ii_ne_f (by decide)) ?_
        show Steps p.tables e below (T12.setTop (mkF m 130 #[.val (.int ps), .val (.long pa), .second, .val (.int pb), .val (.int pc0), .val (.int pc1), .val (.int pn), .val (.int ((ps &&& (2147483647 : Int32)) % (5 : Int32))), .val (.int fl), .val (.ref bo11), .val (.int (1 : Int32)), .val (.int (1 : Int32))] [])) _
        refine XS.iconst X12.here hx rfl (hb hby at_130) ?_
        show Steps p.tables e below (T12.setTop (mkF m 131 #[.val (.int ps), .val (.long pa), .second, .val (.int pb), .val (.int pc0), .val (.int pc1), .val (.int pn), .val (.int ((ps &&& (2147483647 : Int32)) % (5 : Int32))), .val (.int fl), .val (.ref bo11), .val (.int (1 : Int32)), .val (.int (1 : Int32))] [(.int (1 : Int32))])) _
        refine XS.goto X12.here hx rfl (pc0 := 131) (pc' := 135) rfl (hb hby at_131) (by decide) (by decide) ?_
        exact kt
      obtain ⟨fs, hr, hrun, hended, hW, hsame⟩ := X12.leave (v := some (.int (1 : Int32))) (fun h => by rw [Bd.returns] at h; cases h)
      refine ⟨_, _, pre13 _ ?_, hrun, hended, _, _, rfl, ?_, ⟨_, rfl⟩, hW, hsame.mono (by decide) (by decide)⟩
      · show Steps p.tables e below (T12.setTop (mkF m 135 #[.val (.int ps), .val (.long pa), .second, .val (.int pb), .val (.int pc0), .val (.int pc1), .val (.int pn), .val (.int ((ps &&& (2147483647 : Int32)) % (5 : Int32))), .val (.int fl), .val (.ref bo11), .val (.int (1 : Int32)), .val (.int (1 : Int32))] [(.int (1 : Int32))])) _
        exact retN X12 hx (t := .boolean) Bd.returns (by simp) (hb hby at_135) hr
      · show Q0 Z h0 n0 _ T12.heap _
        exact ⟨rfl, N12⟩
    · have pre14 : ∀ tg_, Steps p.tables e below (s₁.setTop (mkF m 62 #[.val (.int ps), .val (.long pa), .second, .val (.int pb), .val (.int pc0), .val (.int pc1), .val (.int pn), .val (.int ((ps &&& (2147483647 : Int32)) % (5 : Int32))), .val (.int fl), .unset, .unset, .unset] [(.int (2 : Int32)), (.int ((ps &&& (2147483647 : Int32)) % (5 : Int32)))])) tg_ → Steps p.tables e below (s₁.setTop (entryFrame m #[(.int ps), (.long pa), (.int pb), (.int pc0), (.int pc1), (.int pn)] maxLocals)) tg_ := by
        intro tg_ kt
        refine pre9 _ ?_
        show Steps p.tables e below (s₁.setTop (mkF m 43 #[.val (.int ps), .val (.long pa), .second, .val (.int pb), .val (.int pc0), .val (.int pc1), .val (.int pn), .val (.int ((ps &&& (2147483647 : Int32)) % (5 : Int32))), .val (.int fl), .unset, .unset, .unset] [(.int (1 : Int32)), (.int ((ps &&& (2147483647 : Int32)) % (5 : Int32)))])) _
        refine XS.icmpYes X0.here hx rfl (pc0 := 43) (pc' := 59) rfl (hb hby at_43) rfl (XT.ii_ne_t hc43_10) (by decide) (by decide) ?_
        show Steps p.tables e below (s₁.setTop (mkF m 59 #[.val (.int ps), .val (.long pa), .second, .val (.int pb), .val (.int pc0), .val (.int pc1), .val (.int pn), .val (.int ((ps &&& (2147483647 : Int32)) % (5 : Int32))), .val (.int fl), .unset, .unset, .unset] [])) _
        refine XS.iload X0.here hx rfl (hb hby at_59) rfl ?_
        show Steps p.tables e below (s₁.setTop (mkF m 61 #[.val (.int ps), .val (.long pa), .second, .val (.int pb), .val (.int pc0), .val (.int pc1), .val (.int pn), .val (.int ((ps &&& (2147483647 : Int32)) % (5 : Int32))), .val (.int fl), .unset, .unset, .unset] [(.int ((ps &&& (2147483647 : Int32)) % (5 : Int32)))])) _
        refine XS.iconst X0.here hx rfl (hb hby at_61) ?_
        exact kt
      by_cases hc62_15 : ((ps &&& (2147483647 : Int32)) % (5 : Int32)) = (2 : Int32)
      · obtain ⟨_, _, ⟨T16, L16, k16, n16⟩, -, X16, ⟨Lc16, hQ16, l16, y16, z16⟩, st16⟩ := Jvm.LawKit.callS X0 hx (y := (⟨"com/example/hornbrook/hornbrook/ValuesKindPinLaw", "text", "(III)Ljava/lang/String;"⟩ : MethodName)) hown (mvT hZ (hw _ (List.mem_of_getElem? (i := 53) rfl))) (mvT hZ (hw _ (List.mem_of_getElem? (i := 54) rfl))) (mvT hZ (hw _ (List.mem_of_getElem? (i := 55) rfl))) (mvT hZ (hw _ (List.mem_of_getElem? (i := 56) rfl))) (by decide) (backOf (W := 0) (rmt l Z a0 hw [] pn pc0 pc1 zc h0 n0 Z0 S_C hzc (hne hc62_15)) hZ (hw _ (List.mem_of_getElem? (i := 56) rfl)) (hw _ (List.mem_of_getElem? (i := 55) rfl)) (by decide) (by decide)) (g := (mkF m 71 #[.val (.int ps), .val (.long pa), .second, .val (.int pb), .val (.int pc0), .val (.int pc1), .val (.int pn), .val (.int ((ps &&& (2147483647 : Int32)) % (5 : Int32))), .val (.int fl), .unset, .unset, .unset] [(.int pc1), (.int pc0), (.int pn)])) rfl (by rw [hml]; rfl) (argsL := [(.int pn), (.int pc0), (.int pc1)]) (rest := []) (lenOf pd0_3 rfl) rfl (by show 2 * 0 + _ ≤ _; exact Nat.le_of_eq rfl) (hb hby at_71) (fun _ _ => ⟨rfl, e0, (by decide : 0 + 3 ≤ _), (by decide : 0 + 8 ≤ _)⟩)
        dsimp only [Pt.U, Pt.locs, Pt.cells, Pt.slots] at X16 l16 y16 z16 st16 hQ16
        subst l16 y16 z16
        obtain ⟨bo16, rfl, N16q, KC16, EB16⟩ := hQ16
        have N16 := Fr.app N0 N16q
        obtain ⟨_, _, ⟨T17, L17, k17, n17⟩, -, X17, ⟨Lc17, hQ17, l17, y17, z17⟩, st17⟩ := Jvm.LawKit.callS X16 hx (y := (⟨"com/example/hornbrook/hornbrook/Values", "kind", "(Ljava/lang/Object;)B"⟩ : MethodName)) hown (mvT hZ (hw _ (List.mem_of_getElem? (i := 9) rfl))) (mvT hZ (hw _ (List.mem_of_getElem? (i := 10) rfl))) (mvT hZ (hw _ (List.mem_of_getElem? (i := 11) rfl))) (mvT hZ (hw _ (List.mem_of_getElem? (i := 12) rfl))) (by decide) (backOf (W := 0) (rmks l Z a0 hw [] bo16 T16.heap n0 (Nat.le_trans Z0 KC16.1) EB16) hZ (hw _ (List.mem_of_getElem? (i := 12) rfl)) (hw _ (List.mem_of_getElem? (i := 11) rfl)) (by decide) (by decide)) (g := (mkF m 118 #[.val (.int ps), .val (.long pa), .second, .val (.int pb), .val (.int pc0), .val (.int pc1), .val (.int pn), .val (.int ((ps &&& (2147483647 : Int32)) % (5 : Int32))), .val (.int fl), .val (.ref bo16), .val (.int (2 : Int32)), .unset] [(.ref bo16)])) rfl (by rw [hml]; rfl) (argsL := [(.ref bo16)]) (rest := []) (lenOf pd0_1 rfl) rfl (by show 2 * 0 + _ ≤ _; exact Nat.le_of_eq rfl) (hb hby at_118) (fun _ _ => ⟨rfl, rfl, (by decide : 3 + 0 ≤ _), (by decide : 8 + 0 ≤ _)⟩)
        dsimp only [Pt.U, Pt.locs, Pt.cells, Pt.slots] at X17 l17 y17 z17 st17 hQ17
        subst l17 y17 z17
        obtain ⟨rfl, N17q, e17⟩ := hQ17
        have N17 := Fr.app N16 N17q
        have pre18 : ∀ tg_, Steps p.tables e below (T17.setTop (mkF m 135 #[.val (.int ps), .val (.long pa), .second, .val (.int pb), .val (.int pc0), .val (.int pc1), .val (.int pn), .val (.int ((ps &&& (2147483647 : Int32)) % (5 : Int32))), .val (.int fl), .val (.ref bo16), .val (.int (2 : Int32)), .val (.int (2 : Int32))] [(.int (1 : Int32))])) tg_ → Steps p.tables e below (s₁.setTop (entryFrame m #[(.int ps), (.long pa), (.int pb), (.int pc0), (.int pc1), (.int pn)] maxLocals)) tg_ := by
          intro tg_ kt
          refine pre14 _ ?_
          show Steps p.tables e below (s₁.setTop (mkF m 62 #[.val (.int ps), .val (.long pa), .second, .val (.int pb), .val (.int pc0), .val (.int pc1), .val (.int pn), .val (.int ((ps &&& (2147483647 : Int32)) % (5 : Int32))), .val (.int fl), .unset, .unset, .unset] [(.int (2 : Int32)), (.int ((ps &&& (2147483647 : Int32)) % (5 : Int32)))])) _
          refine XS.icmpNo X0.here hx rfl (hb hby at_62) rfl (XT.ii_ne_f hc62_15) ?_
          show Steps p.tables e below (s₁.setTop (mkF m 65 #[.val (.int ps), .val (.long pa), .second, .val (.int pb), .val (.int pc0), .val (.int pc1), .val (.int pn), .val (.int ((ps &&& (2147483647 : Int32)) % (5 : Int32))), .val (.int fl), .unset, .unset, .unset] [])) _
          refine XS.iload X0.here hx rfl (hb hby at_65) rfl ?_
          show Steps p.tables e below (s₁.setTop (mkF m 67 #[.val (.int ps), .val (.long pa), .second, .val (.int pb), .val (.int pc0), .val (.int pc1), .val (.int pn), .val (.int ((ps &&& (2147483647 : Int32)) % (5 : Int32))), .val (.int fl), .unset, .unset, .unset] [(.int pn)])) _
          refine XS.iload X0.here hx rfl (hb hby at_67) rfl ?_
          show Steps p.tables e below (s₁.setTop (mkF m 69 #[.val (.int ps), .val (.long pa), .second, .val (.int pb), .val (.int pc0), .val (.int pc1), .val (.int pn), .val (.int ((ps &&& (2147483647 : Int32)) % (5 : Int32))), .val (.int fl), .unset, .unset, .unset] [(.int pc0), (.int pn)])) _
          refine XS.iload X0.here hx rfl (hb hby at_69) rfl ?_
          show Steps p.tables e below (s₁.setTop (mkF m 71 #[.val (.int ps), .val (.long pa), .second, .val (.int pb), .val (.int pc0), .val (.int pc1), .val (.int pn), .val (.int ((ps &&& (2147483647 : Int32)) % (5 : Int32))), .val (.int fl), .unset, .unset, .unset] [(.int pc1), (.int pc0), (.int pn)])) _
          refine st16 _ ?_
          show Steps p.tables e below (T16.setTop (mkF m 74 #[.val (.int ps), .val (.long pa), .second, .val (.int pb), .val (.int pc0), .val (.int pc1), .val (.int pn), .val (.int ((ps &&& (2147483647 : Int32)) % (5 : Int32))), .val (.int fl), .unset, .unset, .unset] [(.ref bo16)])) _
          refine XS.astore X16.here hx rfl (hb hby at_74) rfl rfl (l' := #[.val (.int ps), .val (.long pa), .second, .val (.int pb), .val (.int pc0), .val (.int pc1), .val (.int pn), .val (.int ((ps &&& (2147483647 : Int32)) % (5 : Int32))), .val (.int fl), .val (.ref bo16), .unset, .unset]) rfl ?_
          show Steps p.tables e below (T16.setTop (mkF m 76 #[.val (.int ps), .val (.long pa), .second, .val (.int pb), .val (.int pc0), .val (.int pc1), .val (.int pn), .val (.int ((ps &&& (2147483647 : Int32)) % (5 : Int32))), .val (.int fl), .val (.ref bo16), .unset, .unset] [])) _
          refine XS.iconst X16.here hx rfl (hb hby at_76) ?_
          show Steps p.tables e below (T16.setTop (mkF m 77 #[.val (.int ps), .val (.long pa), .second, .val (.int pb), .val (.int pc0), .val (.int pc1), .val (.int pn), .val (.int ((ps &&& (2147483647 : Int32)) % (5 : Int32))), .val (.int fl), .val (.ref bo16), .unset, .unset] [(.int (2 : Int32))])) _
          refine XS.istore X16.here hx rfl (hb hby at_77) rfl (l' := #[.val (.int ps), .val (.long pa), .second, .val (.int pb), .val (.int pc0), .val (.int pc1), .val (.int pn), .val (.int ((ps &&& (2147483647 : Int32)) % (5 : Int32))), .val (.int fl), .val (.ref bo16), .val (.int (2 : Int32)), .unset]) rfl ?_
          show Steps p.tables e below (T16.setTop (mkF m 79 #[.val (.int ps), .val (.long pa), .second, .val (.int pb), .val (.int pc0), .val (.int pc1), .val (.int pn), .val (.int ((ps &&& (2147483647 : Int32)) % (5 : Int32))), .val (.int fl), .val (.ref bo16), .val (.int (2 : Int32)), .unset] [])) _
          refine XS.goto X16.here hx rfl (pc0 := 79) (pc' := 116) rfl (hb hby at_79) (by decide) (by decide) ?_
          show Steps p.tables e below (T16.setTop (mkF m 116 #[.val (.int ps), .val (.long pa), .second, .val (.int pb), .val (.int pc0), .val (.int pc1), .val (.int pn), .val (.int ((ps &&& (2147483647 : Int32)) % (5 : Int32))), .val (.int fl), .val (.ref bo16), .val (.int (2 : Int32)), .unset] [])) _
          refine XS.aload X16.here hx rfl (hb hby at_116) rfl rfl ?_
          show Steps p.tables e below (T16.setTop (mkF m 118 #[.val (.int ps), .val (.long pa), .second, .val (.int pb), .val (.int pc0), .val (.int pc1), .val (.int pn), .val (.int ((ps &&& (2147483647 : Int32)) % (5 : Int32))), .val (.int fl), .val (.ref bo16), .val (.int (2 : Int32)), .unset] [(.ref bo16)])) _
          refine st17 _ ?_
          show Steps p.tables e below (T17.setTop (mkF m 121 #[.val (.int ps), .val (.long pa), .second, .val (.int pb), .val (.int pc0), .val (.int pc1), .val (.int pn), .val (.int ((ps &&& (2147483647 : Int32)) % (5 : Int32))), .val (.int fl), .val (.ref bo16), .val (.int (2 : Int32)), .unset] [(.int (2 : Int32))])) _
          refine XS.istore X17.here hx rfl (hb hby at_121) rfl (l' := #[.val (.int ps), .val (.long pa), .second, .val (.int pb), .val (.int pc0), .val (.int pc1), .val (.int pn), .val (.int ((ps &&& (2147483647 : Int32)) % (5 : Int32))), .val (.int fl), .val (.ref bo16), .val (.int (2 : Int32)), .val (.int (2 : Int32))]) rfl ?_
          show Steps p.tables e below (T17.setTop (mkF m 123 #[.val (.int ps), .val (.long pa), .second, .val (.int pb), .val (.int pc0), .val (.int pc1), .val (.int pn), .val (.int ((ps &&& (2147483647 : Int32)) % (5 : Int32))), .val (.int fl), .val (.ref bo16), .val (.int (2 : Int32)), .val (.int (2 : Int32))] [])) _
          refine XS.iload X17.here hx rfl (hb hby at_123) rfl ?_
          show Steps p.tables e below (T17.setTop (mkF m 125 #[.val (.int ps), .val (.long pa), .second, .val (.int pb), .val (.int pc0), .val (.int pc1), .val (.int pn), .val (.int ((ps &&& (2147483647 : Int32)) % (5 : Int32))), .val (.int fl), .val (.ref bo16), .val (.int (2 : Int32)), .val (.int (2 : Int32))] [(.int (2 : Int32))])) _
          refine XS.iload X17.here hx rfl (hb hby at_125) rfl ?_
          show Steps p.tables e below (T17.setTop (mkF m 127 #[.val (.int ps), .val (.long pa), .second, .val (.int pb), .val (.int pc0), .val (.int pc1), .val (.int pn), .val (.int ((ps &&& (2147483647 : Int32)) % (5 : Int32))), .val (.int fl), .val (.ref bo16), .val (.int (2 : Int32)), .val (.int (2 : Int32))] [(.int (2 : Int32)), (.int (2 : Int32))])) _
          refine XS.icmpNo X17.here hx rfl (hb hby at_127) rfl (XT.ii_ne_f (by decide)) ?_
          show Steps p.tables e below (T17.setTop (mkF m 130 #[.val (.int ps), .val (.long pa), .second, .val (.int pb), .val (.int pc0), .val (.int pc1), .val (.int pn), .val (.int ((ps &&& (2147483647 : Int32)) % (5 : Int32))), .val (.int fl), .val (.ref bo16), .val (.int (2 : Int32)), .val (.int (2 : Int32))] [])) _
          refine XS.iconst X17.here hx rfl (hb hby at_130) ?_
          show Steps p.tables e below (T17.setTop (mkF m 131 #[.val (.int ps), .val (.long pa), .second, .val (.int pb), .val (.int pc0), .val (.int pc1), .val (.int pn), .val (.int ((ps &&& (2147483647 : Int32)) % (5 : Int32))), .val (.int fl), .val (.ref bo16), .val (.int (2 : Int32)), .val (.int (2 : Int32))] [(.int (1 : Int32))])) _
          refine XS.goto X17.here hx rfl (pc0 := 131) (pc' := 135) rfl (hb hby at_131) (by decide) (by decide) ?_
          exact kt
        obtain ⟨fs, hr, hrun, hended, hW, hsame⟩ := X17.leave (v := some (.int (1 : Int32))) (fun h => by rw [Bd.returns] at h; cases h)
        refine ⟨_, _, pre18 _ ?_, hrun, hended, _, _, rfl, ?_, ⟨_, rfl⟩, hW, hsame.mono (by decide) (by decide)⟩
        · show Steps p.tables e below (T17.setTop (mkF m 135 #[.val (.int ps), .val (.long pa), .second, .val (.int pb), .val (.int pc0), .val (.int pc1), .val (.int pn), .val (.int ((ps &&& (2147483647 : Int32)) % (5 : Int32))), .val (.int fl), .val (.ref bo16), .val (.int (2 : Int32)), .val (.int (2 : Int32))] [(.int (1 : Int32))])) _
          exact retN X17 hx (t := .boolean) Bd.returns (by simp) (hb hby at_135) hr
        · show Q0 Z h0 n0 _ T17.heap _
          exact ⟨rfl, N17⟩
      · have pre19 : ∀ tg_, Steps p.tables e below (s₁.setTop (mkF m 85 #[.val (.int ps), .val (.long pa), .second, .val (.int pb), .val (.int pc0), .val (.int pc1), .val (.int pn), .val (.int ((ps &&& (2147483647 : Int32)) % (5 : Int32))), .val (.int fl), .unset, .unset, .unset] [(.int (3 : Int32)), (.int ((ps &&& (2147483647 : Int32)) % (5 : Int32)))])) tg_ → Steps p.tables e below (s₁.setTop (entryFrame m #[(.int ps), (.long pa), (.int pb), (.int pc0), (.int pc1), (.int pn)] maxLocals)) tg_ := by
          intro tg_ kt
          refine pre14 _ ?_
          show Steps p.tables e below (s₁.setTop (mkF m 62 #[.val (.int ps), .val (.long pa), .second, .val (.int pb), .val (.int pc0), .val (.int pc1), .val (.int pn), .val (.int ((ps &&& (2147483647 : Int32)) % (5 : Int32))), .val (.int fl), .unset, .unset, .unset] [(.int (2 : Int32)), (.int ((ps &&& (2147483647 : Int32)) % (5 : Int32)))])) _
          refine XS.icmpYes X0.here hx rfl (pc0 := 62) (pc' := 82) rfl (hb hby at_62) rfl (XT.ii_ne_t hc62_15) (by decide) (by decide) ?_
          show Steps p.tables e below (s₁.setTop (mkF m 82 #[.val (.int ps), .val (.long pa), .second, .val (.int pb), .val (.int pc0), .val (.int pc1), .val (.int pn), .val (.int ((ps &&& (2147483647 : Int32)) % (5 : Int32))), .val (.int fl), .unset, .unset, .unset] [])) _
          refine XS.iload X0.here hx rfl (hb hby at_82) rfl ?_
          show Steps p.tables e below (s₁.setTop (mkF m 84 #[.val (.int ps), .val (.long pa), .second, .val (.int pb), .val (.int pc0), .val (.int pc1), .val (.int pn), .val (.int ((ps &&& (2147483647 : Int32)) % (5 : Int32))), .val (.int fl), .unset, .unset, .unset] [(.int ((ps &&& (2147483647 : Int32)) % (5 : Int32)))])) _
          refine XS.iconst X0.here hx rfl (hb hby at_84) ?_
          exact kt
        by_cases hc85_20 : ((ps &&& (2147483647 : Int32)) % (5 : Int32)) = (3 : Int32)
        · have pre21 : ∀ tg_, Steps p.tables e below (s₁.setTop (mkF m 90 #[.val (.int ps), .val (.long pa), .second, .val (.int pb), .val (.int pc0), .val (.int pc1), .val (.int pn), .val (.int ((ps &&& (2147483647 : Int32)) % (5 : Int32))), .val (.int fl), .unset, .unset, .unset] [(.int fl)])) tg_ → Steps p.tables e below (s₁.setTop (entryFrame m #[(.int ps), (.long pa), (.int pb), (.int pc0), (.int pc1), (.int pn)] maxLocals)) tg_ := by
            intro tg_ kt
            refine pre19 _ ?_
            show Steps p.tables e below (s₁.setTop (mkF m 85 #[.val (.int ps), .val (.long pa), .second, .val (.int pb), .val (.int pc0), .val (.int pc1), .val (.int pn), .val (.int ((ps &&& (2147483647 : Int32)) % (5 : Int32))), .val (.int fl), .unset, .unset, .unset] [(.int (3 : Int32)), (.int ((ps &&& (2147483647 : Int32)) % (5 : Int32)))])) _
            refine XS.icmpNo X0.here hx rfl (hb hby at_85) rfl (XT.ii_ne_f hc85_20) ?_
            show Steps p.tables e below (s₁.setTop (mkF m 88 #[.val (.int ps), .val (.long pa), .second, .val (.int pb), .val (.int pc0), .val (.int pc1), .val (.int pn), .val (.int ((ps &&& (2147483647 : Int32)) % (5 : Int32))), .val (.int fl), .unset, .unset, .unset] [])) _
            refine XS.iload X0.here hx rfl (hb hby at_88) rfl ?_
            exact kt
          by_cases hc90_22 : fl = (0 : Int32)
          · obtain ⟨T23, X23, e23, st23⟩ := getS2 X0 hx hZ hown (host := "") (Or.inl (hw _ (List.mem_of_getElem? (i := 49) rfl))) Via.refl e0 S_FALSE (g := (mkF m 99 #[.val (.int ps), .val (.long pa), .second, .val (.int pb), .val (.int pc0), .val (.int pc1), .val (.int pn), .val (.int ((ps &&& (2147483647 : Int32)) % (5 : Int32))), .val (.int fl), .unset, .unset, .unset] [])) rfl (hb hby at_99)
            obtain ⟨_, _, ⟨T24, L24, k24, n24⟩, -, X24, ⟨Lc24, hQ24, l24, y24, z24⟩, st24⟩ := Jvm.LawKit.callS X23 hx (y := (⟨"com/example/hornbrook/hornbrook/Values", "kind", "(Ljava/lang/Object;)B"⟩ : MethodName)) hown (mvT hZ (hw _ (List.mem_of_getElem? (i := 9) rfl))) (mvT hZ (hw _ (List.mem_of_getElem? (i := 10) rfl))) (mvT hZ (hw _ (List.mem_of_getElem? (i := 11) rfl))) (mvT hZ (hw _ (List.mem_of_getElem? (i := 12) rfl))) (by decide) (backOf (W := 0) (rmkb l Z a0 hw [] bFALSE h0 n0 Z0 E_FALSE) hZ (hw _ (List.mem_of_getElem? (i := 12) rfl)) (hw _ (List.mem_of_getElem? (i := 11) rfl)) (by decide) (by decide)) (g := (mkF m 118 #[.val (.int ps), .val (.long pa), .second, .val (.int pb), .val (.int pc0), .val (.int pc1), .val (.int pn), .val (.int ((ps &&& (2147483647 : Int32)) % (5 : Int32))), .val (.int fl), .val (.ref bFALSE), .val (.int (3 : Int32)), .unset] [(.ref bFALSE)])) rfl (by rw [hml]; rfl) (argsL := [(.ref bFALSE)]) (rest := []) (lenOf pd0_1 rfl) rfl (by show 2 * 0 + _ ≤ _; exact Nat.le_of_eq rfl) (hb hby at_118) (fun _ _ => ⟨rfl, e23, (by decide : 0 + 0 ≤ _), (by decide : 0 + 0 ≤ _)⟩)
            dsimp only [Pt.U, Pt.locs, Pt.cells, Pt.slots] at X24 l24 y24 z24 st24 hQ24
            subst l24 y24 z24
            obtain ⟨rfl, N24q, e24⟩ := hQ24
            have N24 := Fr.app N0 N24q
            have pre25 : ∀ tg_, Steps p.tables e below (T24.setTop (mkF m 135 #[.val (.int ps), .val (.long pa), .second, .val (.int pb), .val (.int pc0), .val (.int pc1), .val (.int pn), .val (.int ((ps &&& (2147483647 : Int32)) % (5 : Int32))), .val (.int fl), .val (.ref bFALSE), .val (.int (3 : Int32)), .val (.int (3 : Int32))] [(.int (1 : Int32))])) tg_ → Steps p.tables e below (s₁.setTop (entryFrame m #[(.int ps), (.long pa), (.int pb), (.int pc0), (.int pc1), (.int pn)] maxLocals)) tg_ := by
              intro tg_ kt
              refine pre21 _ ?_
              show Steps p.tables e below (s₁.setTop (mkF m 90 #[.val (.int ps), .val (.long pa), .second, .val (.int pb), .val (.int pc0), .val (.int pc1), .val (.int pn), .val (.int ((ps &&& (2147483647 : Int32)) % (5 : Int32))), .val (.int fl), .unset, .unset, .unset] [(.int fl)])) _
              refine XS.ifYes X0.here hx rfl (pc0 := 90) (pc' := 99) rfl (hb hby at_90) rfl (XT.i0_eq_t hc90_22) (by decide) (by decide) ?_
              show Steps p.tables e below (s₁.setTop (mkF m 99 #[.val (.int ps), .val (.long pa), .second, .val (.int pb), .val (.int pc0), .val (.int pc1), .val (.int pn), .val (.int ((ps &&& (2147483647 : Int32)) % (5 : Int32))), .val (.int fl), .unset, .unset, .unset] [])) _
              refine st23 _ ?_
              show Steps p.tables e below (T23.setTop (mkF m 102 #[.val (.int ps), .val (.long pa), .second, .val (.int pb), .val (.int pc0), .val (.int pc1), .val (.int pn), .val (.int ((ps &&& (2147483647 : Int32)) % (5 : Int32))), .val (.int fl), .unset, .unset, .unset] [(.ref bFALSE)])) _
              refine XS.astore X23.here hx rfl (hb hby at_102) rfl rfl (l' := #[.val (.int ps), .val (.long pa), .second, .val (.int pb), .val (.int pc0), .val (.int pc1), .val (.int pn), .val (.int ((ps &&& (2147483647 : Int32)) % (5 : Int32))), .val (.int fl), .val (.ref bFALSE), .unset, .unset]) rfl ?_
              show Steps p.tables e below (T23.setTop (mkF m 104 #[.val (.int ps), .val (.long pa), .second, .val (.int pb), .val (.int pc0), .val (.int pc1), .val (.int pn), .val (.int ((ps &&& (2147483647 : Int32)) % (5 : Int32))), .val (.int fl), .val (.ref bFALSE), .unset, .unset] [])) _
              refine XS.iconst X23.here hx rfl (hb hby at_104) ?_
              show Steps p.tables e below (T23.setTop (mkF m 105 #[.val (.int ps), .val (.long pa), .second, .val (.int pb), .val (.int pc0), .val (.int pc1), .val (.int pn), .val (.int ((ps &&& (2147483647 : Int32)) % (5 : Int32))), .val (.int fl), .val (.ref bFALSE), .unset, .unset] [(.int (3 : Int32))])) _
              refine XS.istore X23.here hx rfl (hb hby at_105) rfl (l' := #[.val (.int ps), .val (.long pa), .second, .val (.int pb), .val (.int pc0), .val (.int pc1), .val (.int pn), .val (.int ((ps &&& (2147483647 : Int32)) % (5 : Int32))), .val (.int fl), .val (.ref bFALSE), .val (.int (3 : Int32)), .unset]) rfl ?_
              show Steps p.tables e below (T23.setTop (mkF m 107 #[.val (.int ps), .val (.long pa), .second, .val (.int pb), .val (.int pc0), .val (.int pc1), .val (.int pn), .val (.int ((ps &&& (2147483647 : Int32)) % (5 : Int32))), .val (.int fl), .val (.ref bFALSE), .val (.int (3 : Int32)), .unset] [])) _
              refine XS.goto X23.here hx rfl (pc0 := 107) (pc' := 116) rfl (hb hby at_107) (by decide) (by decide) ?_
              show Steps p.tables e below (T23.setTop (mkF m 116 #[.val (.int ps), .val (.long pa), .second, .val (.int pb), .val (.int pc0), .val (.int pc1), .val (.int pn), .val (.int ((ps &&& (2147483647 : Int32)) % (5 : Int32))), .val (.int fl), .val (.ref bFALSE), .val (.int (3 : Int32)), .unset] [])) _
              refine XS.aload X23.here hx rfl (hb hby at_116) rfl rfl ?_
              show Steps p.tables e below (T23.setTop (mkF m 118 #[.val (.int ps), .val (.long pa), .second, .val (.int pb), .val (.int pc0), .val (.int pc1), .val (.int pn), .val (.int ((ps &&& (2147483647 : Int32)) % (5 : Int32))), .val (.int fl), .val (.ref bFALSE), .val (.int (3 : Int32)), .unset] [(.ref bFALSE)])) _
              refine st24 _ ?_
              show Steps p.tables e below (T24.setTop (mkF m 121 #[.val (.int ps), .val (.long pa), .second, .val (.int pb), .val (.int pc0), .val (.int pc1), .val (.int pn), .val (.int ((ps &&& (2147483647 : Int32)) % (5 : Int32))), .val (.int fl), .val (.ref bFALSE), .val (.int (3 : Int32)), .unset] [(.int (3 : Int32))])) _
              refine XS.istore X24.here hx rfl (hb hby at_121) rfl (l' := #[.val (.int ps), .val (.long pa), .second, .val (.int pb), .val (.int pc0), .val (.int pc1), .val (.int pn), .val (.int ((ps &&& (2147483647 : Int32)) % (5 : Int32))), .val (.int fl), .val (.ref bFALSE), .val (.int (3 : Int32)), .val (.int (3 : Int32))]) rfl ?_
              show Steps p.tables e below (T24.setTop (mkF m 123 #[.val (.int ps), .val (.long pa), .second, .val (.int pb), .val (.int pc0), .val (.int pc1), .val (.int pn), .val (.int ((ps &&& (2147483647 : Int32)) % (5 : Int32))), .val (.int fl), .val (.ref bFALSE), .val (.int (3 : Int32)), .val (.int (3 : Int32))] [])) _
              refine XS.iload X24.here hx rfl (hb hby at_123) rfl ?_
              show Steps p.tables e below (T24.setTop (mkF m 125 #[.val (.int ps), .val (.long pa), .second, .val (.int pb), .val (.int pc0), .val (.int pc1), .val (.int pn), .val (.int ((ps &&& (2147483647 : Int32)) % (5 : Int32))), .val (.int fl), .val (.ref bFALSE), .val (.int (3 : Int32)), .val (.int (3 : Int32))] [(.int (3 : Int32))])) _
              refine XS.iload X24.here hx rfl (hb hby at_125) rfl ?_
              show Steps p.tables e below (T24.setTop (mkF m 127 #[.val (.int ps), .val (.long pa), .second, .val (.int pb), .val (.int pc0), .val (.int pc1), .val (.int pn), .val (.int ((ps &&& (2147483647 : Int32)) % (5 : Int32))), .val (.int fl), .val (.ref bFALSE), .val (.int (3 : Int32)), .val (.int (3 : Int32))] [(.int (3 : Int32)), (.int (3 : Int32))])) _
              refine XS.icmpNo X24.here hx rfl (hb hby at_127) rfl (XT.ii_ne_f (by decide)) ?_
              show Steps p.tables e below (T24.setTop (mkF m 130 #[.val (.int ps), .val (.long pa), .second, .val (.int pb), .val (.int pc0), .val (.int pc1), .val (.int pn), .val (.int ((ps &&& (2147483647 : Int32)) % (5 : Int32))), .val (.int fl), .val (.ref bFALSE), .val (.int (3 : Int32)), .val (.int (3 : Int32))] [])) _
              refine XS.iconst X24.here hx rfl (hb hby at_130) ?_
              show Steps p.tables e below (T24.setTop (mkF m 131 #[.val (.int ps), .val (.long pa), .second, .val (.int pb), .val (.int pc0), .val (.int pc1), .val (.int pn), .val (.int ((ps &&& (2147483647 : Int32)) % (5 : Int32))), .val (.int fl), .val (.ref bFALSE), .val (.int (3 : Int32)), .val (.int (3 : Int32))] [(.int (1 : Int32))])) _
              refine XS.goto X24.here hx rfl (pc0 := 131) (pc' := 135) rfl (hb hby at_131) (by decide) (by decide) ?_
              exact kt
            obtain ⟨fs, hr, hrun, hended, hW, hsame⟩ := X24.leave (v := some (.int (1 : Int32))) (fun h => by rw [Bd.returns] at h; cases h)
            refine ⟨_, _, pre25 _ ?_, hrun, hended, _, _, rfl, ?_, ⟨_, rfl⟩, hW, hsame.mono (by decide) (by decide)⟩
            · show Steps p.tables e below (T24.setTop (mkF m 135 #[.val (.int ps), .val (.long pa), .second, .val (.int pb), .val (.int pc0), .val (.int pc1), .val (.int pn), .val (.int ((ps &&& (2147483647 : Int32)) % (5 : Int32))), .val (.int fl), .val (.ref bFALSE), .val (.int (3 : Int32)), .val (.int (3 : Int32))] [(.int (1 : Int32))])) _
              exact retN X24 hx (t := .boolean) Bd.returns (by simp) (hb hby at_135) hr
            · show Q0 Z h0 n0 _ T24.heap _
              exact ⟨rfl, N24⟩
          · obtain ⟨T26, X26, e26, st26⟩ := getS2 X0 hx hZ hown (host := "") (Or.inl (hw _ (List.mem_of_getElem? (i := 89) rfl))) Via.refl e0 S_TRUE (g := (mkF m 93 #[.val (.int ps), .val (.long pa), .second, .val (.int pb), .val (.int pc0), .val (.int pc1), .val (.int pn), .val (.int ((ps &&& (2147483647 : Int32)) % (5 : Int32))), .val (.int fl), .unset, .unset, .unset] [])) rfl (hb hby at_93)
            obtain ⟨_, _, ⟨T27, L27, k27, n27⟩, -, X27, ⟨Lc27, hQ27, l27, y27, z27⟩, st27⟩ := Jvm.LawKit.callS X26 hx (y := (⟨"com/example/hornbrook/hornbrook/Values", "kind", "(Ljava/lang/Object;)B"⟩ : MethodName)) hown (mvT hZ (hw _ (List.mem_of_getElem? (i := 9) rfl))) (mvT hZ (hw _ (List.mem_of_getElem? (i := 10) rfl))) (mvT hZ (hw _ (List.mem_of_getElem? (i := 11) rfl))) (mvT hZ (hw _ (List.mem_of_getElem? (i := 12) rfl))) (by decide) (backOf (W := 0) (rmkb l Z a0 hw [] bTRUE h0 n0 Z0 E_TRUE) hZ (hw _ (List.mem_of_getElem? (i := 12) rfl)) (hw _ (List.mem_of_getElem? (i := 11) rfl)) (by decide) (by decide)) (g := (mkF m 118 #[.val (.int ps), .val (.long pa), .second, .val (.int pb), .val (.int pc0), .val (.int pc1), .val (.int pn), .val (.int ((ps &&& (2147483647 : Int32)) % (5 : Int32))), .val (.int fl), .val (.ref bTRUE), .val (.int (3 : Int32)), .unset] [(.ref bTRUE)])) rfl (by rw [hml]; rfl) (argsL := [(.ref bTRUE)]) (rest := []) (lenOf pd0_1 rfl) rfl (by show 2 * 0 + _ ≤ _; exact Nat.le_of_eq rfl) (hb hby at_118) (fun _ _ => ⟨rfl, e26, (by decide : 0 + 0 ≤ _), (by decide : 0 + 0 ≤ _)⟩)
            dsimp only [Pt.U, Pt.locs, Pt.cells, Pt.slots] at X27 l27 y27 z27 st27 hQ27
            subst l27 y27 z27
            obtain ⟨rfl, N27q, e27⟩ := hQ27
            have N27 := Fr.app N0 N27q
            have pre28 : ∀ tg_, Steps p.tables e below (T27.setTop (mkF m 135 #[.val (.int ps), .val (.long pa), .second, .val (.int pb), .val (.int pc0), .val (.int pc1), .val (.int pn), .val (.int ((ps &&& (2147483647 : Int32)) % (5 : Int32))), .val (.int fl), .val (.ref bTRUE), .val (.int (3 : Int32)), .val (.int (3 : Int32))] [(.int (1 : Int32))])) tg_ → Steps p.tables e below (s₁.setTop (entryFrame m #[(.int ps), (.long pa), (.int pb), (.int pc0), (.int pc1), (.int pn)] maxLocals)) tg_ := by
              intro tg_ kt
              refine pre21 _ ?_
              show Steps p.tables e below (s₁.setTop (mkF m 90 #[.val (.int ps), .val (.long pa), .second, .val (.int pb), .val (.int pc0), .val (.int pc1), .val (.int pn), .val (.int ((ps &&& (2147483647 : Int32)) % (5 : Int32))), .val (.int fl), .unset, .unset, .unset] [(.int fl)])) _
              refine XS.ifNo X0.here hx rfl (hb hby at_90) rfl (XT.i0_eq_f hc90_22) ?_
              show Steps p.tables e below (s₁.setTop (mkF m 93 #[.val (.int ps), .val (.long pa), .second, .val (.int pb), .val (.int pc0), .val (.int pc1), .val (.int pn), .val (.int ((ps &&& (2147483647 : Int32)) % (5 : Int32))), .val (.int fl), .unset, .unset, .unset] [])) _
              refine st26 _ ?_
              show Steps p.tables e below (T26.setTop (mkF m 96 #[.val (.int ps), .val (.long pa), .second, .val (.int pb), .val (.int pc0), .val (.int pc1), .val (.int pn), .val (.int ((ps &&& (2147483647 : Int32)) % (5 : Int32))), .val (.int fl), .unset, .unset, .unset] [(.ref bTRUE)])) _
              refine XS.goto X26.here hx rfl (pc0 := 96) (pc' := 102) rfl (hb hby at_96) (by decide) (by decide) ?_
              show Steps p.tables e below (T26.setTop (mkF m 102 #[.val (.int ps), .val (.long pa), .second, .val (.int pb), .val (.int pc0), .val (.int pc1), .val (.int pn), .val (.int ((ps &&& (2147483647 : Int32)) % (5 : Int32))), .val (.int fl), .unset, .unset, .unset] [(.ref bTRUE)])) _
              refine XS.astore X26.here hx rfl (hb hby at_102) rfl rfl (l' := #[.val (.int ps), .val (.long pa), .second, .val (.int pb), .val (.int pc0), .val (.int pc1), .val (.int pn), .val (.int ((ps &&& (2147483647 : Int32)) % (5 : Int32))), .val (.int fl), .val (.ref bTRUE), .unset, .unset]) rfl ?_
              show Steps p.tables e below (T26.setTop (mkF m 104 #[.val (.int ps), .val (.long pa), .second, .val (.int pb), .val (.int pc0), .val (.int pc1), .val (.int pn), .val (.int ((ps &&& (2147483647 : Int32)) % (5 : Int32))), .val (.int fl), .val (.ref bTRUE), .unset, .unset] [])) _
              refine XS.iconst X26.here hx rfl (hb hby at_104) ?_
              show Steps p.tables e below (T26.setTop (mkF m 105 #[.val (.int ps), .val (.long pa), .second, .val (.int pb), .val (.int pc0), .val (.int pc1), .val (.int pn), .val (.int ((ps &&& (2147483647 : Int32)) % (5 : Int32))), .val (.int fl), .val (.ref bTRUE), .unset, .unset] [(.int (3 : Int32))])) _
              refine XS.istore X26.here hx rfl (hb hby at_105) rfl (l' := #[.val (.int ps), .val (.long pa), .second, .val (.int pb), .val (.int pc0), .val (.int pc1), .val (.int pn), .val (.int ((ps &&& (2147483647 : Int32)) % (5 : Int32))), .val (.int fl), .val (.ref bTRUE), .val (.int (3 : Int32)), .unset]) rfl ?_
              show Steps p.tables e below (T26.setTop (mkF m 107 #[.val (.int ps), .val (.long pa), .second, .val (.int pb), .val (.int pc0), .val (.int pc1), .val (.int pn), .val (.int ((ps &&& (2147483647 : Int32)) % (5 : Int32))), .val (.int fl), .val (.ref bTRUE), .val (.int (3 : Int32)), .unset] [])) _
              refine XS.goto X26.here hx rfl (pc0 := 107) (pc' := 116) rfl (hb hby at_107) (by decide) (by decide) ?_
              show Steps p.tables e below (T26.setTop (mkF m 116 #[.val (.int ps), .val (.long pa), .second, .val (.int pb), .val (.int pc0), .val (.int pc1), .val (.int pn), .val (.int ((ps &&& (2147483647 : Int32)) % (5 : Int32))), .val (.int fl), .val (.ref bTRUE), .val (.int (3 : Int32)), .unset] [])) _
              refine XS.aload X26.here hx rfl (hb hby at_116) rfl rfl ?_
              show Steps p.tables e below (T26.setTop (mkF m 118 #[.val (.int ps), .val (.long pa), .second, .val (.int pb), .val (.int pc0), .val (.int pc1), .val (.int pn), .val (.int ((ps &&& (2147483647 : Int32)) % (5 : Int32))), .val (.int fl), .val (.ref bTRUE), .val (.int (3 : Int32)), .unset] [(.ref bTRUE)])) _
              refine st27 _ ?_
              show Steps p.tables e below (T27.setTop (mkF m 121 #[.val (.int ps), .val (.long pa), .second, .val (.int pb), .val (.int pc0), .val (.int pc1), .val (.int pn), .val (.int ((ps &&& (2147483647 : Int32)) % (5 : Int32))), .val (.int fl), .val (.ref bTRUE), .val (.int (3 : Int32)), .unset] [(.int (3 : Int32))])) _
              refine XS.istore X27.here hx rfl (hb hby at_121) rfl (l' := #[.val (.int ps), .val (.long pa), .second, .val (.int pb), .val (.int pc0), .val (.int pc1), .val (.int pn), .val (.int ((ps &&& (2147483647 : Int32)) % (5 : Int32))), .val (.int fl), .val (.ref bTRUE), .val (.int (3 : Int32)), .val (.int (3 : Int32))]) rfl ?_
              show Steps p.tables e below (T27.setTop (mkF m 123 #[.val (.int ps), .val (.long pa), .second, .val (.int pb), .val (.int pc0), .val (.int pc1), .val (.int pn), .val (.int ((ps &&& (2147483647 : Int32)) % (5 : Int32))), .val (.int fl), .val (.ref bTRUE), .val (.int (3 : Int32)), .val (.int (3 : Int32))] [])) _
              refine XS.iload X27.here hx rfl (hb hby at_123) rfl ?_
              show Steps p.tables e below (T27.setTop (mkF m 125 #[.val (.int ps), .val (.long pa), .second, .val (.int pb), .val (.int pc0), .val (.int pc1), .val (.int pn), .val (.int ((ps &&& (2147483647 : Int32)) % (5 : Int32))), .val (.int fl), .val (.ref bTRUE), .val (.int (3 : Int32)), .val (.int (3 : Int32))] [(.int (3 : Int32))])) _
              refine XS.iload X27.here hx rfl (hb hby at_125) rfl ?_
              show Steps p.tables e below (T27.setTop (mkF m 127 #[.val (.int ps), .val (.long pa), .second, .val (.int pb), .val (.int pc0), .val (.int pc1), .val (.int pn), .val (.int ((ps &&& (2147483647 : Int32)) % (5 : Int32))), .val (.int fl), .val (.ref bTRUE), .val (.int (3 : Int32)), .val (.int (3 : Int32))] [(.int (3 : Int32)), (.int (3 : Int32))])) _
              refine XS.icmpNo X27.here hx rfl (hb hby at_127) rfl (XT.ii_ne_f (by decide)) ?_
              show Steps p.tables e below (T27.setTop (mkF m 130 #[.val (.int ps), .val (.long pa), .second, .val (.int pb), .val (.int pc0), .val (.int pc1), .val (.int pn), .val (.int ((ps &&& (2147483647 : Int32)) % (5 : Int32))), .val (.int fl), .val (.ref bTRUE), .val (.int (3 : Int32)), .val (.int (3 : Int32))] [])) _
              refine XS.iconst X27.here hx rfl (hb hby at_130) ?_
              show Steps p.tables e below (T27.setTop (mkF m 131 #[.val (.int ps), .val (.long pa), .second, .val (.int pb), .val (.int pc0), .val (.int pc1), .val (.int pn), .val (.int ((ps &&& (2147483647 : Int32)) % (5 : Int32))), .val (.int fl), .val (.ref bTRUE), .val (.int (3 : Int32)), .val (.int (3 : Int32))] [(.int (1 : Int32))])) _
              refine XS.goto X27.here hx rfl (pc0 := 131) (pc' := 135) rfl (hb hby at_131) (by decide) (by decide) ?_
              exact kt
            obtain ⟨fs, hr, hrun, hended, hW, hsame⟩ := X27.leave (v := some (.int (1 : Int32))) (fun h => by rw [Bd.returns] at h; cases h)
            refine ⟨_, _, pre28 _ ?_, hrun, hended, _, _, rfl, ?_, ⟨_, rfl⟩, hW, hsame.mono (by decide) (by decide)⟩
            · show Steps p.tables e below (T27.setTop (mkF m 135 #[.val (.int ps), .val (.long pa), .second, .val (.int pb), .val (.int pc0), .val (.int pc1), .val (.int pn), .val (.int ((ps &&& (2147483647 : Int32)) % (5 : Int32))), .val (.int fl), .val (.ref bTRUE), .val (.int (3 : Int32)), .val (.int (3 : Int32))] [(.int (1 : Int32))])) _
              exact retN X27 hx (t := .boolean) Bd.returns (by simp) (hb hby at_135) hr
            · show Q0 Z h0 n0 _ T27.heap _
              exact ⟨rfl, N27⟩
        · obtain ⟨_, _, ⟨T29, L29, k29, n29⟩, -, X29, ⟨Lc29, hQ29, l29, y29, z29⟩, st29⟩ := Jvm.LawKit.callS X0 hx (y := (⟨"com/example/hornbrook/hornbrook/Values", "kind", "(Ljava/lang/Object;)B"⟩ : MethodName)) hown (mvT hZ (hw _ (List.mem_of_getElem? (i := 9) rfl))) (mvT hZ (hw _ (List.mem_of_getElem? (i := 10) rfl))) (mvT hZ (hw _ (List.mem_of_getElem? (i := 11) rfl))) (mvT hZ (hw _ (List.mem_of_getElem? (i := 12) rfl))) (by decide) (backOf (W := 0) (rmk0 l Z a0 hw [] h0 n0 Z0) hZ (hw _ (List.mem_of_getElem? (i := 12) rfl)) (hw _ (List.mem_of_getElem? (i := 11) rfl)) (by decide) (by decide)) (g := (mkF m 118 #[.val (.int ps), .val (.long pa), .second, .val (.int pb), .val (.int pc0), .val (.int pc1), .val (.int pn), .val (.int ((ps &&& (2147483647 : Int32)) % (5 : Int32))), .val (.int fl), .val .null, .val (.int (4 : Int32)), .unset] [.null])) rfl (by rw [hml]; rfl) (argsL := [.null]) (rest := []) (lenOf pd0_1 rfl) rfl (by show 2 * 0 + _ ≤ _; exact Nat.le_of_eq rfl) (hb hby at_118) (fun _ _ => ⟨rfl, e0, (by decide : 0 + 0 ≤ _), (by decide : 0 + 0 ≤ _)⟩)
          dsimp only [Pt.U, Pt.locs, Pt.cells, Pt.slots] at X29 l29 y29 z29 st29 hQ29
          subst l29 y29 z29
          obtain ⟨rfl, N29q, e29⟩ := hQ29
          have N29 := Fr.app N0 N29q
          have pre30 : ∀ tg_, Steps p.tables e below (T29.setTop (mkF m 135 #[.val (.int ps), .val (.long pa), .second, .val (.int pb), .val (.int pc0), .val (.int pc1), .val (.int pn), .val (.int ((ps &&& (2147483647 : Int32)) % (5 : Int32))), .val (.int fl), .val .null, .val (.int (4 : Int32)), .val (.int (4 : Int32))] [(.int (1 : Int32))])) tg_ → Steps p.tables e below (s₁.setTop (entryFrame m #[(.int ps), (.long pa), (.int pb), (.int pc0), (.int pc1), (.int pn)] maxLocals)) tg_ := by
            intro tg_ kt
            refine pre19 _ ?_
            show Steps p.tables e below (s₁.setTop (mkF m 85 #[.val (.int ps), .val (.long pa), .second, .val (.int pb), .val (.int pc0), .val (.int pc1), .val (.int pn), .val (.int ((ps &&& (2147483647 : Int32)) % (5 : Int32))), .val (.int fl), .unset, .unset, .unset] [(.int (3 : Int32)), (.int ((ps &&& (2147483647 : Int32)) % (5 : Int32)))])) _
            refine XS.icmpYes X0.here hx rfl (pc0 := 85) (pc' := 110) rfl (hb hby at_85) rfl (XT.ii_ne_t hc85_20) (by decide) (by decide) ?_
            show Steps p.tables e below (s₁.setTop (mkF m 110 #[.val (.int ps), .val (.long pa), .second, .val (.int pb), .val (.int pc0), .val (.int pc1), .val (.int pn), .val (.int ((ps &&& (2147483647 : Int32)) % (5 : Int32))), .val (.int fl), .unset, .unset, .unset] [])) _
            refine XS.aconstNull X0.here hx rfl (hb hby at_110) ?_
            show Steps p.tables e below (s₁.setTop (mkF m 111 #[.val (.int ps), .val (.long pa), .second, .val (.int pb), .val (.int pc0), .val (.int pc1), .val (.int pn), .val (.int ((ps &&& (2147483647 : Int32)) % (5 : Int32))), .val (.int fl), .unset, .unset, .unset] [.null])) _
            refine XS.astore X0.here hx rfl (hb hby at_111) rfl rfl (l' := #[.val (.int ps), .val (.long pa), .second, .val (.int pb), .val (.int pc0), .val (.int pc1), .val (.int pn), .val (.int ((ps &&& (2147483647 : Int32)) % (5 : Int32))), .val (.int fl), .val .null, .unset, .unset]) rfl ?_
            show Steps p.tables e below (s₁.setTop (mkF m 113 #[.val (.int ps), .val (.long pa), .second, .val (.int pb), .val (.int pc0), .val (.int pc1), .val (.int pn), .val (.int ((ps &&& (2147483647 : Int32)) % (5 : Int32))), .val (.int fl), .val .null, .unset, .unset] [])) _
            refine XS.iconst X0.here hx rfl (hb hby at_113) ?_
            show Steps p.tables e below (s₁.setTop (mkF m 114 #[.val (.int ps), .val (.long pa), .second, .val (.int pb), .val (.int pc0), .val (.int pc1), .val (.int pn), .val (.int ((ps &&& (2147483647 : Int32)) % (5 : Int32))), .val (.int fl), .val .null, .unset, .unset] [(.int (4 : Int32))])) _
            refine XS.istore X0.here hx rfl (hb hby at_114) rfl (l' := #[.val (.int ps), .val (.long pa), .second, .val (.int pb), .val (.int pc0), .val (.int pc1), .val (.int pn), .val (.int ((ps &&& (2147483647 : Int32)) % (5 : Int32))), .val (.int fl), .val .null, .val (.int (4 : Int32)), .unset]) rfl ?_
            show Steps p.tables e below (s₁.setTop (mkF m 116 #[.val (.int ps), .val (.long pa), .second, .val (.int pb), .val (.int pc0), .val (.int pc1), .val (.int pn), .val (.int ((ps &&& (2147483647 : Int32)) % (5 : Int32))), .val (.int fl), .val .null, .val (.int (4 : Int32)), .unset] [])) _
            refine XS.aload X0.here hx rfl (hb hby at_116) rfl rfl ?_
            show Steps p.tables e below (s₁.setTop (mkF m 118 #[.val (.int ps), .val (.long pa), .second, .val (.int pb), .val (.int pc0), .val (.int pc1), .val (.int pn), .val (.int ((ps &&& (2147483647 : Int32)) % (5 : Int32))), .val (.int fl), .val .null, .val (.int (4 : Int32)), .unset] [.null])) _
            refine st29 _ ?_
            show Steps p.tables e below (T29.setTop (mkF m 121 #[.val (.int ps), .val (.long pa), .second, .val (.int pb), .val (.int pc0), .val (.int pc1), .val (.int pn), .val (.int ((ps &&& (2147483647 : Int32)) % (5 : Int32))), .val (.int fl), .val .null, .val (.int (4 : Int32)), .unset] [(.int (4 : Int32))])) _
            refine XS.istore X29.here hx rfl (hb hby at_121) rfl (l' := #[.val (.int ps), .val (.long pa), .second, .val (.int pb), .val (.int pc0), .val (.int pc1), .val (.int pn), .val (.int ((ps &&& (2147483647 : Int32)) % (5 : Int32))), .val (.int fl), .val .null, .val (.int (4 : Int32)), .val (.int (4 : Int32))]) rfl ?_
            show Steps p.tables e below (T29.setTop (mkF m 123 #[.val (.int ps), .val (.long pa), .second, .val (.int pb), .val (.int pc0), .val (.int pc1), .val (.int pn), .val (.int ((ps &&& (2147483647 : Int32)) % (5 : Int32))), .val (.int fl), .val .null, .val (.int (4 : Int32)), .val (.int (4 : Int32))] [])) _
            refine XS.iload X29.here hx rfl (hb hby at_123) rfl ?_
            show Steps p.tables e below (T29.setTop (mkF m 125 #[.val (.int ps), .val (.long pa), .second, .val (.int pb), .val (.int pc0), .val (.int pc1), .val (.int pn), .val (.int ((ps &&& (2147483647 : Int32)) % (5 : Int32))), .val (.int fl), .val .null, .val (.int (4 : Int32)), .val (.int (4 : Int32))] [(.int (4 : Int32))])) _
            refine XS.iload X29.here hx rfl (hb hby at_125) rfl ?_
            show Steps p.tables e below (T29.setTop (mkF m 127 #[.val (.int ps), .val (.long pa), .second, .val (.int pb), .val (.int pc0), .val (.int pc1), .val (.int pn), .val (.int ((ps &&& (2147483647 : Int32)) % (5 : Int32))), .val (.int fl), .val .null, .val (.int (4 : Int32)), .val (.int (4 : Int32))] [(.int (4 : Int32)), (.int (4 : Int32))])) _
            refine XS.icmpNo X29.here hx rfl (hb hby at_127) rfl (XT.ii_ne_f (by decide)) ?_
            show Steps p.tables e below (T29.setTop (mkF m 130 #[.val (.int ps), .val (.long pa), .second, .val (.int pb), .val (.int pc0), .val (.int pc1), .val (.int pn), .val (.int ((ps &&& (2147483647 : Int32)) % (5 : Int32))), .val (.int fl), .val .null, .val (.int (4 : Int32)), .val (.int (4 : Int32))] [])) _
            refine XS.iconst X29.here hx rfl (hb hby at_130) ?_
            show Steps p.tables e below (T29.setTop (mkF m 131 #[.val (.int ps), .val (.long pa), .second, .val (.int pb), .val (.int pc0), .val (.int pc1), .val (.int pn), .val (.int ((ps &&& (2147483647 : Int32)) % (5 : Int32))), .val (.int fl), .val .null, .val (.int (4 : Int32)), .val (.int (4 : Int32))] [(.int (1 : Int32))])) _
            refine XS.goto X29.here hx rfl (pc0 := 131) (pc' := 135) rfl (hb hby at_131) (by decide) (by decide) ?_
            exact kt
          obtain ⟨fs, hr, hrun, hended, hW, hsame⟩ := X29.leave (v := some (.int (1 : Int32))) (fun h => by rw [Bd.returns] at h; cases h)
          refine ⟨_, _, pre30 _ ?_, hrun, hended, _, _, rfl, ?_, ⟨_, rfl⟩, hW, hsame.mono (by decide) (by decide)⟩
          · show Steps p.tables e below (T29.setTop (mkF m 135 #[.val (.int ps), .val (.long pa), .second, .val (.int pb), .val (.int pc0), .val (.int pc1), .val (.int pn), .val (.int ((ps &&& (2147483647 : Int32)) % (5 : Int32))), .val (.int fl), .val .null, .val (.int (4 : Int32)), .val (.int (4 : Int32))] [(.int (1 : Int32))])) _
            exact retN X29 hx (t := .boolean) Bd.returns (by simp) (hb hby at_135) hr
          · show Q0 Z h0 n0 _ T29.heap _
            exact ⟨rfl, N29⟩
theorem own_safe {Z : State} {EL : List (String × Nat)} {vm : Vm} {h : Heap} {a : Addr} (hal : Z.vm.Alike vm) (E : Exa Z h a "java/lang/String") (F : Fld Z h a "java/lang/String" "value" "[B" .null) : Safe Z EL vm h a := fun B => by
  obtain ⟨p, -, u, a', -, q, hq, G, e⟩ := B
  obtain ⟨cS, ⟨⟨s1, s2, s3, ⟨cv, kv, iv, s4, s4'⟩, ⟨cc, kc, ic, s5, s5'⟩, s6, s7, s8, s9, s10, s11, s12, s13, s14, s15, s16⟩, hfS, hcS⟩, ⟨kS, k1, k2, k3⟩, hB, hbyt⟩ := G
  obtain ⟨cell, cf, k, i, f, f1, f2, f3, f4, f5, f6, f7⟩ := F
  obtain ⟨kv', z4⟩ := ff_back (U := Wst Z vm h) hal s4
  have z4' : Z.fieldFound? "java/lang/String" "value" "[B" = some (cv, kv', iv, q.fSV) := z4
  cases f2.symm.trans z4'
  rcases e with e | e
  · subst e
    have s1' : h[q.sa]? = some q.sC := s1
    cases f1.symm.trans s1'
    have s8' : q.sC.slots[q.fSV.slot]? = some (.ref q.sd) := s8
    rw [f7] at s8'
    cases s8'
  · subst e
    have s10' : h[q.sd]? = some q.SA := s10
    obtain ⟨cell', kE, e1, e2, e3, e4, e5⟩ := E
    cases e1.symm.trans s10'
    have hB' : vm.findClass "[B" = some q.SA.cls := hB
    rw [hal.findClass] at hB'
    obtain ⟨k1', a1, a2⟩ := Vm.findClass_spec e2
    obtain ⟨k2', b1, b2⟩ := Vm.findClass_spec hB'
    cases a1.symm.trans b1
    exact absurd (a2.symm.trans b2) (by decide)
theorem dw2_0 : decode jdk_42_method_149_code 0 = .ok (.aload_n 0, 1) := by decide +kernel
theorem dw2_1 : decode jdk_42_method_149_code 1 = .ok (.invokespecial 1, 3) := by decide +kernel
theorem dw2_4 : decode jdk_42_method_149_code 4 = .ok (.iload_n 3, 1) := by decide +kernel
theorem dw2_5 : decode jdk_42_method_149_code 5 = .ok (.ifCond .ne 22, 3) := by decide +kernel
theorem dw2_8 : decode jdk_42_method_149_code 8 = .ok (.aload_n 0, 1) := by decide +kernel
theorem dw2_9 : decode jdk_42_method_149_code 9 = .ok (.ldc 7, 2) := by decide +kernel
theorem dw2_11 : decode jdk_42_method_149_code 11 = .ok (.getfield 9, 3) := by decide +kernel
theorem dw2_14 : decode jdk_42_method_149_code 14 = .ok (.putfield 9, 3) := by decide +kernel
theorem dw2_17 : decode jdk_42_method_149_code 17 = .ok (.aload_n 0, 1) := by decide +kernel
theorem dw2_18 : decode jdk_42_method_149_code 18 = .ok (.ldc 7, 2) := by decide +kernel
theorem dw2_20 : decode jdk_42_method_149_code 20 = .ok (.getfield 15, 3) := by decide +kernel
theorem dw2_23 : decode jdk_42_method_149_code 23 = .ok (.putfield 15, 3) := by decide +kernel
theorem dw2_26 : decode jdk_42_method_149_code 26 = .ok (.return_, 1) := by decide +kernel
theorem pnw2 : plainName "java/lang/String" = true := by first | (simp [plainName, overriddenIn]; done) | decide +kernel
theorem efw2 (m : MethodId) (x0 : Addr) (x1 : Addr) (x2 : Int32) (x3 : Int32) : entryFrame m #[(.ref x0), (.ref x1), (.int x2), (.int x3), .null] 6 = mkF m 0 #[.val (.ref x0), .val (.ref x1), .val (.int x2), .val (.int x3), .val .null, .unset] [] := by first | (simp [entryFrame, mkF, argsToLocals, Value.category]; done) | rfl
set_option maxRecDepth 65536 in
set_option maxHeartbeats 40000000 in
theorem rmw2 (l : Launch) (Z : State) (a0 : Array Value) (hw : ∀ d ∈ tables_1, d.before a0 Z = true) (ws : List Jvm.Cond) (a ca : Addr) (h0 : Heap) (n0 : Nat) (Z0 : n0 ≤ h0.size) (EX : Exa Z h0 a "java/lang/String") (FV : Fld Z h0 a "java/lang/String" "value" "[B" .null) (FC : Fld Z h0 a "java/lang/String" "coder" "B" (.int (0 : Int32))) (gb_a : n0 ≤ a) (hEL : EW Z a0 [("java/lang/String", 7)]) :
    MetFree l (⟨"java/lang/String", "<init>", "([CIILjava/lang/Void;)V"⟩ : MethodName) (head1 (Jvm.Cond.code (⟨"java/lang/String", "<init>", "([CIILjava/lang/Void;)V"⟩ : MethodName) jdk_42_method_149_code 6 none :: ws) ({ frames := 1, cells := 4, slots := 8, locals := 12 } : Room)) (fun aa_ U => aa_ = #[(.ref a), (.ref ca), (.int (0 : Int32)), (.int (0 : Int32)), .null] ∧ Z.Warmed39 U.vm ∧ U.heap = h0 ∧ CHv Z [("java/lang/String", 7)] U.vm h0) (fun _ _ _ _ _ => True) (fun _ U o U' => ∃ vv_ LL_, o = .returned vv_ ∧ QI Z a "java/lang/String" h0 n0 vv_ U'.heap LL_ ∧ CHr Z [("java/lang/String", 7)] U.vm U.heap U'.vm U'.heap ∧ ReturnedEndW U o U' LL_ ({ frames := 1, cells := 4, slots := 8, locals := 12 } : Room).cells ({ frames := 1, cells := 4, slots := 8, locals := 12 } : Room).slots) := by
  refine MetFree.of_bodySF (plainFor_of_name pnw2) hisR ?_
  intro p e s m args below meth c s₁ Bd hml0 hP hK
  obtain ⟨rfl, hZ, hh, hC⟩ := hP
  have hx := Bd.exec
  have hby := Bd.bytes
  have hml : c.maxLocals = 6 := hml0
  have hown : s.vm.findClass "java/lang/String" = some m.cls := findClass_of_methodNamed Bd.named
  have hnm := (name_of_methodNamed Bd.named Bd.method).1
  have X0 : Stand p l e ({ frames := 1, cells := 4, slots := 8, locals := 12 } : Room) s m #[(.ref a), (.ref ca), (.int (0 : Int32)), (.int (0 : Int32)), .null] below meth c s₁ [] 0 0 := Stand.of_body Bd
  have e0 : s₁.heap = h0 := by rw [← hh, Bd.state]; rfl
  have N0 := Fr.nil n0
  have pre0 : ∀ tg_, Steps p.tables e below (s₁.setTop (mkF m 0 #[.val (.ref a), .val (.ref ca), .val (.int (0 : Int32)), .val (.int (0 : Int32)), .val .null, .unset] [])) tg_ → Steps p.tables e below (s₁.setTop (entryFrame m #[(.ref a), (.ref ca), (.int (0 : Int32)), (.int (0 : Int32)), .null] 6)) tg_ := fun tg_ kt => castTop (efw2 m a ca (0 : Int32) (0 : Int32)) kt
  have hS0 : s.Since s.vm 0 := (State.WarmedH.refl s).since 0
  have hsa : ∀ d ∈ Bundle.stringAtoms, d.before a0 Z = true := fun d hd => hw d ((by decide +kernel : ∀ d ∈ Bundle.stringAtoms, d ∈ tables_1) d hd)
  have sf0 : Safe Z [("java/lang/String", 7)] s.vm h0 a := own_safe hZ.alike EX FV
  obtain ⟨T2, X2, e2, st2⟩ := initO X0 hx hZ hown (hw _ (List.mem_of_getElem? (i := 68) rfl)) (hw _ (List.mem_of_getElem? (i := 32) rfl)) (hw _ (List.mem_of_getElem? (i := 33) rfl)) e0 (g := (mkF m 1 #[.val (.ref a), .val (.ref ca), .val (.int (0 : Int32)), .val (.int (0 : Int32)), .val .null, .unset] [(.ref a)])) rfl (by rw [hml]; rfl) rfl (hb hby dw2_1) (by decide) (W := 0) (by show 2 * 0 + _ ≤ _; exact Nat.le_of_eq rfl) (by decide)
  have pre3 : ∀ tg_, Steps p.tables e below (T2.setTop (mkF m 9 #[.val (.ref a), .val (.ref ca), .val (.int (0 : Int32)), .val (.int (0 : Int32)), .val .null, .unset] [(.ref a)])) tg_ → Steps p.tables e below (s₁.setTop (entryFrame m #[(.ref a), (.ref ca), (.int (0 : Int32)), (.int (0 : Int32)), .null] 6)) tg_ := by
    intro tg_ kt
    refine pre0 _ ?_
    show Steps p.tables e below (s₁.setTop (mkF m 0 #[.val (.ref a), .val (.ref ca), .val (.int (0 : Int32)), .val (.int (0 : Int32)), .val .null, .unset] [])) _
    refine XS.aloadN X0.here hx rfl (hb hby dw2_0) rfl rfl ?_
    show Steps p.tables e below (s₁.setTop (mkF m 1 #[.val (.ref a), .val (.ref ca), .val (.int (0 : Int32)), .val (.int (0 : Int32)), .val .null, .unset] [(.ref a)])) _
    refine st2 _ ?_
    show Steps p.tables e below (T2.setTop (mkF m 4 #[.val (.ref a), .val (.ref ca), .val (.int (0 : Int32)), .val (.int (0 : Int32)), .val .null, .unset] [])) _
    refine XS.iloadN X2.here hx rfl (hb hby dw2_4) rfl ?_
    show Steps p.tables e below (T2.setTop (mkF m 5 #[.val (.ref a), .val (.ref ca), .val (.int (0 : Int32)), .val (.int (0 : Int32)), .val .null, .unset] [(.int (0 : Int32))])) _
    refine XS.ifNo X2.here hx rfl (hb hby dw2_5) rfl (XT.i0_ne_f (by decide)) ?_
    show Steps p.tables e below (T2.setTop (mkF m 8 #[.val (.ref a), .val (.ref ca), .val (.int (0 : Int32)), .val (.int (0 : Int32)), .val .null, .unset] [])) _
    refine XS.aloadN X2.here hx rfl (hb hby dw2_8) rfl rfl ?_
    exact kt
  obtain ⟨a4, T4, h4, k4, b4, kb4, X4, e4, E4, S4, K4p, hZ, hown, Ex4, Fc4, Fv4, Av4, la4, lb4, C4, Lt4, Sf4, st4⟩ := ldcCH (s := s) (vm0 := s.vm) X2 hx hZ hown (hw _ (List.mem_of_getElem? (i := 86) rfl)) hsa e2 hS0 (Nat.zero_le _) hEL (by decide) hC (vs := []) (z := (0 : Int32)) (by decide) (by decide) (by decide) (g := (mkF m 9 #[.val (.ref a), .val (.ref ca), .val (.int (0 : Int32)), .val (.int (0 : Int32)), .val .null, .unset] [(.ref a)])) rfl (hb hby dw2_9) (n := 0) (by decide) (by decide) (by decide) (by decide)
  have f4_5 := EX.ext E4
  have f4_6 := FV.ext E4
  have f4_7 := FC.ext E4
  have K8 : Keep h0 h4 [a] := (Keep.refl h0 [a]).ext E4
  have Z9 : n0 ≤ h4.size := Nat.le_trans Z0 E4.1
  have cr10 : CHr Z [("java/lang/String", 7)] s.vm h0 T4.vm h4 := (CHr.refl hC).trans C4
  have sf11 := C4.safe EX.lt sf0
  obtain ⟨T12, X12, e12, st12⟩ := getF X4 hx hZ hown (host := "") (Or.inl (hw _ (List.mem_of_getElem? (i := 83) rfl))) Via.refl e4 Fv4 (g := (mkF m 11 #[.val (.ref a), .val (.ref ca), .val (.int (0 : Int32)), .val (.int (0 : Int32)), .val .null, .unset] [(.ref a4), (.ref a)])) rfl rfl (hb hby dw2_11)
  obtain ⟨T13, h13, X13, e13, W13, st13⟩ := putF X12 hx hZ hown (host := "") (Or.inl (hw _ (List.mem_of_getElem? (i := 83) rfl))) Via.refl e12 f4_6 f4_5 (Or.inr ⟨(hw _ (List.mem_of_getElem? (i := 84) rfl)), rfl, hnm⟩) (hw _ (List.mem_of_getElem? (i := 58) rfl)) (ty := (.array .byte)) (by decide) rfl rfl (g := (mkF m 14 #[.val (.ref a), .val (.ref ca), .val (.int (0 : Int32)), .val (.int (0 : Int32)), .val .null, .unset] [(.ref b4), (.ref a)])) rfl rfl (hb hby dw2_14)
  have Fn13 := f4_6.same W13
  have N13 := Fr.snoc X13 N0 gb_a
  have f13_14 := f4_5.wr W13
  have f13_15 := f4_7.other W13 (Or.inr (slot_ne (Or.inr (hw _ (List.mem_of_getElem? (i := 82) rfl))) (Or.inr (hw _ (List.mem_of_getElem? (i := 84) rfl))) (by decide) (t := .byte) (t' := (.array .byte)) (by decide) (by decide)))
  have K16 : Keep h0 h13 [a] := K8.wr W13 (Or.inl (List.mem_of_getElem? (i := 0) rfl))
  have Z17 : n0 ≤ h13.size := by rw [W13.size]; exact Z9
  have cr19 : CHr Z [("java/lang/String", 7)] s.vm h0 T4.vm h13 := cr10.trans (CHr.wr W13 sf11 C4.1)
  have ch18 : CHv Z [("java/lang/String", 7)] T4.vm h13 := C4.1.wr W13 sf11
  have kp20 := (show _ ≤ h13.size from by rw [W13.size]; exact K4p)
  have sf21 := Safe.wr W13 sf11 C4.1 sf11
  have pre22 : ∀ tg_, Steps p.tables e below (T13.setTop (mkF m 18 #[.val (.ref a), .val (.ref ca), .val (.int (0 : Int32)), .val (.int (0 : Int32)), .val .null, .unset] [(.ref a)])) tg_ → Steps p.tables e below (s₁.setTop (entryFrame m #[(.ref a), (.ref ca), (.int (0 : Int32)), (.int (0 : Int32)), .null] 6)) tg_ := by
    intro tg_ kt
    refine pre3 _ ?_
    show Steps p.tables e below (T2.setTop (mkF m 9 #[.val (.ref a), .val (.ref ca), .val (.int (0 : Int32)), .val (.int (0 : Int32)), .val .null, .unset] [(.ref a)])) _
    refine st4 _ ?_
    show Steps p.tables e below (T4.setTop (mkF m 11 #[.val (.ref a), .val (.ref ca), .val (.int (0 : Int32)), .val (.int (0 : Int32)), .val .null, .unset] [(.ref a4), (.ref a)])) _
    refine st12 _ ?_
    show Steps p.tables e below (T12.setTop (mkF m 14 #[.val (.ref a), .val (.ref ca), .val (.int (0 : Int32)), .val (.int (0 : Int32)), .val .null, .unset] [(.ref b4), (.ref a)])) _
    refine st13 _ ?_
    show Steps p.tables e below (T13.setTop (mkF m 17 #[.val (.ref a), .val (.ref ca), .val (.int (0 : Int32)), .val (.int (0 : Int32)), .val .null, .unset] [])) _
    refine XS.aloadN X13.here hx rfl (hb hby dw2_17) rfl rfl ?_
    exact kt
  obtain ⟨a23, T23, h23, k23, b23, kb23, X23, e23, E23, S23, K23p, hZ, hown, Ex23, Fc23, Fv23, Av23, la23, lb23, C23, Lt23, Sf23, st23⟩ := ldcCH (s := s) (vm0 := T4.vm) X13 hx hZ hown (hw _ (List.mem_of_getElem? (i := 86) rfl)) hsa e13 S4 kp20 hEL (by decide) ch18 (vs := []) (z := (0 : Int32)) (by decide) (by decide) (by decide) (g := (mkF m 18 #[.val (.ref a), .val (.ref ca), .val (.int (0 : Int32)), .val (.int (0 : Int32)), .val .null, .unset] [(.ref a)])) rfl (hb hby dw2_18) (n := 0) (by decide) (by decide) (by decide) (by decide)
  have f23_24 := f13_14.ext E23
  have f23_25 := Fn13.ext E23
  have f23_26 := f13_15.ext E23
  have K27 : Keep h0 h23 [a] := K16.ext E23
  have Z28 : n0 ≤ h23.size := Nat.le_trans Z17 E23.1
  have cr29 : CHr Z [("java/lang/String", 7)] s.vm h0 T23.vm h23 := cr19.trans C23
  have sf30 := C23.safe f13_14.lt sf21
  obtain ⟨T31, X31, e31, st31⟩ := getF X23 hx hZ hown (host := "") (Or.inl (hw _ (List.mem_of_getElem? (i := 81) rfl))) Via.refl e23 Fc23 (g := (mkF m 20 #[.val (.ref a), .val (.ref ca), .val (.int (0 : Int32)), .val (.int (0 : Int32)), .val .null, .unset] [(.ref a23), (.ref a)])) rfl rfl (hb hby dw2_20)
  obtain ⟨T32, h32, X32, e32, W32, st32⟩ := putF X31 hx hZ hown (host := "") (Or.inl (hw _ (List.mem_of_getElem? (i := 81) rfl))) Via.refl e31 f23_26 f23_24 (Or.inr ⟨(hw _ (List.mem_of_getElem? (i := 82) rfl)), rfl, hnm⟩) (hw _ (List.mem_of_getElem? (i := 58) rfl)) (ty := .byte) (by decide) rfl rfl (g := (mkF m 23 #[.val (.ref a), .val (.ref ca), .val (.int (0 : Int32)), .val (.int (0 : Int32)), .val .null, .unset] [(.int (0 : Int32)), (.ref a)])) rfl rfl (hb hby dw2_23)
  have Fn32 := f23_26.same W32
  have N32 := Fr.snoc X32 N13 gb_a
  have f32_33 := f23_24.wr W32
  have f32_34 := f23_25.other W32 (Or.inr (slot_ne (Or.inr (hw _ (List.mem_of_getElem? (i := 84) rfl))) (Or.inr (hw _ (List.mem_of_getElem? (i := 82) rfl))) (by decide) (t := (.array .byte)) (t' := .byte) (by decide) (by decide)))
  have K35 : Keep h0 h32 [a] := K27.wr W32 (Or.inl (List.mem_of_getElem? (i := 0) rfl))
  have Z36 : n0 ≤ h32.size := by rw [W32.size]; exact Z28
  have cr38 : CHr Z [("java/lang/String", 7)] s.vm h0 T23.vm h32 := cr29.trans (CHr.wr W32 sf30 C23.1)
  have ch37 : CHv Z [("java/lang/String", 7)] T23.vm h32 := C23.1.wr W32 sf30
  have kp39 := (show _ ≤ h32.size from by rw [W32.size]; exact K23p)
  have sf40 := Safe.wr W32 sf30 C23.1 sf30
  have pre41 : ∀ tg_, Steps p.tables e below (T32.setTop (mkF m 26 #[.val (.ref a), .val (.ref ca), .val (.int (0 : Int32)), .val (.int (0 : Int32)), .val .null, .unset] [])) tg_ → Steps p.tables e below (s₁.setTop (entryFrame m #[(.ref a), (.ref ca), (.int (0 : Int32)), (.int (0 : Int32)), .null] 6)) tg_ := by
    intro tg_ kt
    refine pre22 _ ?_
    show Steps p.tables e below (T13.setTop (mkF m 18 #[.val (.ref a), .val (.ref ca), .val (.int (0 : Int32)), .val (.int (0 : Int32)), .val .null, .unset] [(.ref a)])) _
    refine st23 _ ?_
    show Steps p.tables e below (T23.setTop (mkF m 20 #[.val (.ref a), .val (.ref ca), .val (.int (0 : Int32)), .val (.int (0 : Int32)), .val .null, .unset] [(.ref a23), (.ref a)])) _
    refine st31 _ ?_
    show Steps p.tables e below (T31.setTop (mkF m 23 #[.val (.ref a), .val (.ref ca), .val (.int (0 : Int32)), .val (.int (0 : Int32)), .val .null, .unset] [(.int (0 : Int32)), (.ref a)])) _
    refine st32 _ ?_
    exact kt
  obtain ⟨fs, hr, hrun, hended, hRW⟩ := X32.leaveW (vm₁ := T23.vm) S23 (by rw [e32]; exact kp39) (v := none) (fun _ => rfl)
  refine ⟨_, _, pre41 _ ?_, hrun, hended, _, _, rfl, ?_, ?_, hRW.1, hRW.2.1, hRW.2.2.1, hRW.2.2.2.mono (by decide) (by decide)⟩
  · show Steps p.tables e below (T32.setTop (mkF m 26 #[.val (.ref a), .val (.ref ca), .val (.int (0 : Int32)), .val (.int (0 : Int32)), .val .null, .unset] [])) _
    exact X32.returnOut hx Bd.returns (hb hby dw2_26) hr
  · show QI Z a "java/lang/String" h0 n0 _ T32.heap _
    rw [e32]
    exact ⟨rfl, N32, K35, f32_33⟩
  · show CHr Z [("java/lang/String", 7)] s.vm s.heap T32.vm T32.heap
    rw [hh, e32]
    exact cr38.trans (CHv.at X32 hZ hEL ch37)
theorem dw1_0 : decode jdk_42_method_3_code 0 = .ok (.aload_n 0, 1) := by decide +kernel
theorem dw1_1 : decode jdk_42_method_3_code 1 = .ok (.aload_n 1, 1) := by decide +kernel
theorem dw1_2 : decode jdk_42_method_3_code 2 = .ok (.iconst 0, 1) := by decide +kernel
theorem dw1_3 : decode jdk_42_method_3_code 3 = .ok (.aload_n 1, 1) := by decide +kernel
theorem dw1_4 : decode jdk_42_method_3_code 4 = .ok (.arraylength, 1) := by decide +kernel
theorem dw1_5 : decode jdk_42_method_3_code 5 = .ok (.aconst_null, 1) := by decide +kernel
theorem dw1_6 : decode jdk_42_method_3_code 6 = .ok (.invokespecial 27, 3) := by decide +kernel
theorem dw1_9 : decode jdk_42_method_3_code 9 = .ok (.return_, 1) := by decide +kernel
theorem pnw1 : plainName "java/lang/String" = true := by first | (simp [plainName, overriddenIn]; done) | decide +kernel
theorem pdw1_0 : parseMethodDescriptor "([CIILjava/lang/Void;)V" = some ⟨[(.array .char), .int, .int, (.object "java/lang/Void")], none⟩ := by decide +kernel
theorem efw1 (m : MethodId) (x0 : Addr) (x1 : Addr) : entryFrame m #[(.ref x0), (.ref x1)] 2 = mkF m 0 #[.val (.ref x0), .val (.ref x1)] [] := by first | (simp [entryFrame, mkF, argsToLocals, Value.category]; done) | rfl
set_option maxRecDepth 65536 in
set_option maxHeartbeats 40000000 in
theorem rmw1 (l : Launch) (Z : State) (a0 : Array Value) (hw : ∀ d ∈ tables_1, d.before a0 Z = true) (ws : List Jvm.Cond) (a ca : Addr) (kc : ClassId) (h0 : Heap) (n0 : Nat) (Z0 : n0 ≤ h0.size) (EX : Exa Z h0 a "java/lang/String") (FV : Fld Z h0 a "java/lang/String" "value" "[B" .null) (FC : Fld Z h0 a "java/lang/String" "coder" "B" (.int (0 : Int32))) (gb_a : n0 ≤ a) (VC : Arv Z h0 ca kc .char (0 : Int32) [] (.int (0 : Int32))) (hEL : EW Z a0 [("java/lang/String", 7)]) :
    MetFree l (⟨"java/lang/String", "<init>", "([C)V"⟩ : MethodName) (head1 (Jvm.Cond.code (⟨"java/lang/String", "<init>", "([C)V"⟩ : MethodName) jdk_42_method_3_code 2 none :: ws) ({ frames := 2, cells := 4, slots := 8, locals := 29 } : Room)) (fun aa_ U => aa_ = #[(.ref a), (.ref ca)] ∧ Z.Warmed39 U.vm ∧ U.heap = h0 ∧ CHv Z [("java/lang/String", 7)] U.vm h0) (fun _ _ _ _ _ => True) (fun _ U o U' => ∃ vv_ LL_, o = .returned vv_ ∧ QI Z a "java/lang/String" h0 n0 vv_ U'.heap LL_ ∧ CHr Z [("java/lang/String", 7)] U.vm U.heap U'.vm U'.heap ∧ ReturnedEndW U o U' LL_ ({ frames := 2, cells := 4, slots := 8, locals := 29 } : Room).cells ({ frames := 2, cells := 4, slots := 8, locals := 29 } : Room).slots) := by
  refine MetFree.of_bodySF (plainFor_of_name pnw1) hisR ?_
  intro p e s m args below meth c s₁ Bd hml0 hP hK
  obtain ⟨rfl, hZ, hh, hC⟩ := hP
  have hx := Bd.exec
  have hby := Bd.bytes
  have hml : c.maxLocals = 2 := hml0
  have hown : s.vm.findClass "java/lang/String" = some m.cls := findClass_of_methodNamed Bd.named
  have hnm := (name_of_methodNamed Bd.named Bd.method).1
  have X0 : Stand p l e ({ frames := 2, cells := 4, slots := 8, locals := 29 } : Room) s m #[(.ref a), (.ref ca)] below meth c s₁ [] 0 0 := Stand.of_body Bd
  have e0 : s₁.heap = h0 := by rw [← hh, Bd.state]; rfl
  have N0 := Fr.nil n0
  have pre0 : ∀ tg_, Steps p.tables e below (s₁.setTop (mkF m 0 #[.val (.ref a), .val (.ref ca)] [])) tg_ → Steps p.tables e below (s₁.setTop (entryFrame m #[(.ref a), (.ref ca)] 2)) tg_ := fun tg_ kt => castTop (efw1 m a ca) kt
  have hS0 : s.Since s.vm 0 := (State.WarmedH.refl s).since 0
  obtain ⟨cl_, Ar_, q_, S_, L_, H_, G_⟩ := id VC
  have pre1 : ∀ tg_, Steps p.tables e below (s₁.setTop (mkF m 6 #[.val (.ref a), .val (.ref ca)] [.null, (.int (0 : Int32)), (.int (0 : Int32)), (.ref ca), (.ref a)])) tg_ → Steps p.tables e below (s₁.setTop (entryFrame m #[(.ref a), (.ref ca)] 2)) tg_ := by
    intro tg_ kt
    refine pre0 _ ?_
    show Steps p.tables e below (s₁.setTop (mkF m 0 #[.val (.ref a), .val (.ref ca)] [])) _
    refine XS.aloadN X0.here hx rfl (hb hby dw1_0) rfl rfl ?_
    show Steps p.tables e below (s₁.setTop (mkF m 1 #[.val (.ref a), .val (.ref ca)] [(.ref a)])) _
    refine XS.aloadN X0.here hx rfl (hb hby dw1_1) rfl rfl ?_
    show Steps p.tables e below (s₁.setTop (mkF m 2 #[.val (.ref a), .val (.ref ca)] [(.ref ca), (.ref a)])) _
    refine XS.iconst X0.here hx rfl (hb hby dw1_2) ?_
    show Steps p.tables e below (s₁.setTop (mkF m 3 #[.val (.ref a), .val (.ref ca)] [(.int (0 : Int32)), (.ref ca), (.ref a)])) _
    refine XS.aloadN X0.here hx rfl (hb hby dw1_3) rfl rfl ?_
    show Steps p.tables e below (s₁.setTop (mkF m 4 #[.val (.ref a), .val (.ref ca)] [(.ref ca), (.int (0 : Int32)), (.ref ca), (.ref a)])) _
    refine X0.arraylength hx (by rw [e0]; exact Ar_.1) (State.isArrayOf_alike hZ.alike Ar_.2.1) (g := (mkF m 4 #[.val (.ref a), .val (.ref ca)] [(.ref ca), (.int (0 : Int32)), (.ref ca), (.ref a)])) rfl rfl (hb hby dw1_4) _ ?_
    rw [(len_of S_ L_)]
    show Steps p.tables e below (s₁.setTop (mkF m 5 #[.val (.ref a), .val (.ref ca)] [(.int (0 : Int32)), (.int (0 : Int32)), (.ref ca), (.ref a)])) _
    refine XS.aconstNull X0.here hx rfl (hb hby dw1_5) ?_
    exact kt
  obtain ⟨_, _, ⟨T2, L2, k2, n2⟩, -, X2, Sn2, gn2, ⟨Lc2, hQ2, l2, y2, z2, C2⟩, st2⟩ := X0.specialBackS hx (y := (⟨"java/lang/String", "<init>", "([CIILjava/lang/Void;)V"⟩ : MethodName)) rfl hown (mvT hZ (hw _ (List.mem_of_getElem? (i := 64) rfl))) (mvT hZ (hw _ (List.mem_of_getElem? (i := 65) rfl))) (mvT hZ (hw _ (List.mem_of_getElem? (i := 67) rfl))) (by decide) (backOfSH (s := s) (vm0 := s.vm) (W := 0) (rmw2 l Z a0 hw [] a ca h0 n0 Z0 EX FV FC gb_a hEL) hZ (hw _ (List.mem_of_getElem? (i := 67) rfl)) (hw _ (List.mem_of_getElem? (i := 59) rfl)) (by decide) (by decide) hEL hC) (g := (mkF m 6 #[.val (.ref a), .val (.ref ca)] [.null, (.int (0 : Int32)), (.int (0 : Int32)), (.ref ca), (.ref a)])) rfl (by rw [hml]; rfl) (Steps.refl _) (a := a) (argsL := [(.ref ca), (.int (0 : Int32)), (.int (0 : Int32)), .null]) (rest := []) (lenOf pdw1_0 rfl) rfl (by show 2 * 0 + _ ≤ _; exact Nat.le_of_eq rfl) (hb hby dw1_6) (fun _ _ => ⟨rfl, e0, (by decide : 0 + 4 ≤ _), (by decide : 0 + 8 ≤ _)⟩)
  dsimp only [Pt.U, Pt.locs, Pt.cells, Pt.slots] at X2 Sn2 gn2 l2 y2 z2 st2 hQ2 C2
  subst l2 y2 z2
  have hZ : Z.Warmed39 (s.setVm T2.vm).vm := State.Warmed39.trans hZ Sn2.1
  have hown : (s.setVm T2.vm).vm.findClass "java/lang/String" = some m.cls := by rw [show (s.setVm T2.vm).vm = T2.vm from rfl, Sn2.1.alike.findClass]; exact hown
  have cr3 : CHr Z [("java/lang/String", 7)] s.vm h0 T2.vm T2.heap := (CHr.refl hC).trans C2
  obtain ⟨rfl, N2q, KC2, EB2⟩ := hQ2
  have N2 := Fr.app N0 N2q
  have pre4 : ∀ tg_, Steps p.tables e below (T2.setTop (mkF m 9 #[.val (.ref a), .val (.ref ca)] [])) tg_ → Steps p.tables e below (s₁.setTop (entryFrame m #[(.ref a), (.ref ca)] 2)) tg_ := by
    intro tg_ kt
    refine pre1 _ ?_
    show Steps p.tables e below (s₁.setTop (mkF m 6 #[.val (.ref a), .val (.ref ca)] [.null, (.int (0 : Int32)), (.int (0 : Int32)), (.ref ca), (.ref a)])) _
    refine st2.trans ?_
    exact kt
  obtain ⟨fs, hr, hrun, hended, hRW⟩ := X2.leaveW (vm₁ := T2.vm) Sn2 (Nat.le_refl _) (v := none) (fun _ => rfl)
  refine ⟨_, _, pre4 _ ?_, hrun, hended, _, _, rfl, ?_, ?_, hRW.1, hRW.2.1, hRW.2.2.1, hRW.2.2.2.mono (by decide) (by decide)⟩
  · show Steps p.tables e below (T2.setTop (mkF m 9 #[.val (.ref a), .val (.ref ca)] [])) _
    exact X2.returnOut hx Bd.returns (hb hby dw1_9) hr
  · show QI Z a "java/lang/String" h0 n0 _ T2.heap _
    exact ⟨rfl, N2, KC2, EB2⟩
  · show CHr Z [("java/lang/String", 7)] s.vm s.heap T2.vm T2.heap
    rw [hh]
    exact cr3.trans (CHv.at X2 hZ hEL C2.1)
theorem dwt_0 : decode method_2_code 0 = .ok (.iload_n 0, 1) := by decide +kernel
theorem dwt_1 : decode method_2_code 1 = .ok (.ldc 7, 2) := by decide +kernel
theorem dwt_3 : decode method_2_code 3 = .ok (.iand, 1) := by decide +kernel
theorem dwt_4 : decode method_2_code 4 = .ok (.iconst 3, 1) := by decide +kernel
theorem dwt_5 : decode method_2_code 5 = .ok (.irem, 1) := by decide +kernel
theorem dwt_6 : decode method_2_code 6 = .ok (.istore_n 3, 1) := by decide +kernel
theorem dwt_7 : decode method_2_code 7 = .ok (.iload_n 1, 1) := by decide +kernel
theorem dwt_8 : decode method_2_code 8 = .ok (.sipush 255, 3) := by decide +kernel
theorem dwt_11 : decode method_2_code 11 = .ok (.iand, 1) := by decide +kernel
theorem dwt_12 : decode method_2_code 12 = .ok (.i2c, 1) := by decide +kernel
theorem dwt_13 : decode method_2_code 13 = .ok (.istore 4, 2) := by decide +kernel
theorem dwt_15 : decode method_2_code 15 = .ok (.iload_n 2, 1) := by decide +kernel
theorem dwt_16 : decode method_2_code 16 = .ok (.sipush 255, 3) := by decide +kernel
theorem dwt_19 : decode method_2_code 19 = .ok (.iand, 1) := by decide +kernel
theorem dwt_20 : decode method_2_code 20 = .ok (.i2c, 1) := by decide +kernel
theorem dwt_21 : decode method_2_code 21 = .ok (.istore 5, 2) := by decide +kernel
theorem dwt_23 : decode method_2_code 23 = .ok (.iload_n 3, 1) := by decide +kernel
theorem dwt_24 : decode method_2_code 24 = .ok (.ifCond .ne 14, 3) := by decide +kernel
theorem dwt_27 : decode method_2_code 27 = .ok (.new 8, 3) := by decide +kernel
theorem dwt_30 : decode method_2_code 30 = .ok (.dup, 1) := by decide +kernel
theorem dwt_31 : decode method_2_code 31 = .ok (.iconst 0, 1) := by decide +kernel
theorem dwt_32 : decode method_2_code 32 = .ok (.newarray .char, 2) := by decide +kernel
theorem dwt_34 : decode method_2_code 34 = .ok (.invokespecial 10, 3) := by decide +kernel
theorem dwt_37 : decode method_2_code 37 = .ok (.areturn, 1) := by decide +kernel
theorem pnwt : plainName "com/example/hornbrook/hornbrook/ValuesKindPinLaw" = true := by first | (simp [plainName, overriddenIn]; done) | decide +kernel
theorem pdwt_0 : parseMethodDescriptor "([C)V" = some ⟨[(.array .char)], none⟩ := by decide +kernel
theorem efwt (m : MethodId) (x0 : Int32) (x1 : Int32) (x2 : Int32) : entryFrame m #[(.int x0), (.int x1), (.int x2)] 6 = mkF m 0 #[.val (.int x0), .val (.int x1), .val (.int x2), .unset, .unset, .unset] [] := by first | (simp [entryFrame, mkF, argsToLocals, Value.category]; done) | rfl
set_option maxRecDepth 65536 in
set_option maxHeartbeats 40000000 in
theorem rmwt (l : Launch) (Z : State) (a0 : Array Value) (hw : ∀ d ∈ tables_1, d.before a0 Z = true) (ws : List Jvm.Cond) (n c0 c1 : Int32) (h0 : Heap) (n0 : Nat) (Z0 : n0 ≤ h0.size) (hze : ((n &&& (2147483647 : Int32)) % (3 : Int32)) = (0 : Int32)) (hEL : EW Z a0 [("java/lang/String", 7)]) :
    MetFree l (⟨"com/example/hornbrook/hornbrook/ValuesKindPinLaw", "text", "(III)Ljava/lang/String;"⟩ : MethodName) (head1 (Jvm.Cond.code (⟨"com/example/hornbrook/hornbrook/ValuesKindPinLaw", "text", "(III)Ljava/lang/String;"⟩ : MethodName) method_2_code 6 (some (.object "java/lang/String")) :: ws) ({ frames := 3, cells := 6, slots := 12, locals := 43 } : Room)) (fun aa_ U => aa_ = #[(.int n), (.int c0), (.int c1)] ∧ Z.Warmed39 U.vm ∧ U.heap = h0 ∧ CHv Z [("java/lang/String", 7)] U.vm h0) (fun _ _ _ _ _ => True) (fun _ U o U' => ∃ vv_ LL_, o = .returned vv_ ∧ QO Z "java/lang/String" h0 n0 vv_ U'.heap LL_ ∧ CHr Z [("java/lang/String", 7)] U.vm U.heap U'.vm U'.heap ∧ ReturnedEndW U o U' LL_ ({ frames := 3, cells := 6, slots := 12, locals := 43 } : Room).cells ({ frames := 3, cells := 6, slots := 12, locals := 43 } : Room).slots) := by
  refine MetFree.of_bodySF (plainFor_of_name pnwt) hisR ?_
  intro p e s m args below meth c s₁ Bd hml0 hP hK
  obtain ⟨rfl, hZ, hh, hC⟩ := hP
  have hx := Bd.exec
  have hby := Bd.bytes
  have hml : c.maxLocals = 6 := hml0
  have hown : s.vm.findClass "com/example/hornbrook/hornbrook/ValuesKindPinLaw" = some m.cls := findClass_of_methodNamed Bd.named
  have hnm := (name_of_methodNamed Bd.named Bd.method).1
  have X0 : Stand p l e ({ frames := 3, cells := 6, slots := 12, locals := 43 } : Room) s m #[(.int n), (.int c0), (.int c1)] below meth c s₁ [] 0 0 := Stand.of_body Bd
  have e0 : s₁.heap = h0 := by rw [← hh, Bd.state]; rfl
  have N0 := Fr.nil n0
  have pre0 : ∀ tg_, Steps p.tables e below (s₁.setTop (mkF m 0 #[.val (.int n), .val (.int c0), .val (.int c1), .unset, .unset, .unset] [])) tg_ → Steps p.tables e below (s₁.setTop (entryFrame m #[(.int n), (.int c0), (.int c1)] 6)) tg_ := fun tg_ kt => castTop (efwt m n c0 c1) kt
  have hS0 : s.Since s.vm 0 := (State.WarmedH.refl s).since 0
  obtain ⟨T1, h1, X1, e1, E1, A1, D1, -, st1⟩ := newO X0 hx hZ hown (hw _ (List.mem_of_getElem? (i := 57) rfl)) (hw _ (List.mem_of_getElem? (i := 58) rfl)) (hw _ (List.mem_of_getElem? (i := 59) rfl)) e0 (g := (mkF m 27 #[.val (.int n), .val (.int c0), .val (.int c1), .val (.int ((n &&& (2147483647 : Int32)) % (3 : Int32))), .val (.int (c0 &&& (255 : Int32)).toUInt32.toUInt16.toUInt32.toInt32), .val (.int (c1 &&& (255 : Int32)).toUInt32.toUInt16.toUInt32.toInt32)] [])) rfl (hb hby dwt_27) (by decide) (by decide)
  obtain ⟨b1, g1⟩ : ∃ z, z = h0.size := ⟨_, rfl⟩
  rw [← g1] at A1 D1 st1
  have F1_value : Fld Z h1 b1 "java/lang/String" "value" "[B" .null := D1 (Or.inr (hw _ (List.mem_of_getElem? (i := 84) rfl))) (ty := (.array .byte)) (by decide)
  have F1_coder : Fld Z h1 b1 "java/lang/String" "coder" "B" (.int (0 : Int32)) := D1 (Or.inr (hw _ (List.mem_of_getElem? (i := 82) rfl))) (ty := .byte) (by decide)
  have gb_b1 : n0 ≤ b1 := Nat.le_trans Z0 (Nat.le_of_eq g1.symm)
  have sz_b1 : h0.size ≤ b1 := Nat.le_trans (Keep.refl h0 []).1 (Nat.le_of_eq g1.symm)
  have K2 : Keep h0 h1 [] := (Keep.refl h0 []).ext E1
  have Z3 : n0 ≤ h1.size := Nat.le_trans Z0 E1.1
  have cr5 : CHr Z [("java/lang/String", 7)] s.vm h0 s.vm h1 := (CHr.refl hC).trans (CHr.ext E1 hC)
  have ch4 : CHv Z [("java/lang/String", 7)] s.vm h1 := hC.ext E1
  have kp6 := Nat.le_trans (Nat.zero_le _) E1.1
  obtain ⟨T7, h7, k7, X7, e7, E7, A7, M7, st7⟩ := newPE X1 hx hZ (hw _ (List.mem_of_getElem? (i := 60) rfl)) e1 (g := (mkF m 32 #[.val (.int n), .val (.int c0), .val (.int c1), .val (.int ((n &&& (2147483647 : Int32)) % (3 : Int32))), .val (.int (c0 &&& (255 : Int32)).toUInt32.toUInt16.toUInt32.toInt32), .val (.int (c1 &&& (255 : Int32)).toUInt32.toUInt16.toUInt32.toInt32)] [(.int (0 : Int32)), (.ref b1), (.ref b1)])) rfl (hb hby dwt_32) rfl (by decide) (cap := 0) (by decide) (by decide) (by decide) (by decide) (ad := "[C") (by first | rfl | decide +kernel)
  obtain ⟨b7, g7⟩ : ∃ z, z = h1.size := ⟨_, rfl⟩
  rw [← g7] at A7 M7 st7
  have V7 : Arv Z h7 b7 k7 .char (0 : Int32) [] (.int (0 : Int32)) := (Arv.new A7 (by decide)).pad (pad_rep [] (.int (0 : Int32)) 0)
  have d_b1_b7 : b1 ≠ b7 := Nat.ne_of_lt (Nat.lt_of_lt_of_le A1.lt (Nat.le_of_eq g7.symm))
  have gb_b7 : n0 ≤ b7 := Nat.le_trans Z3 (Nat.le_of_eq g7.symm)
  have sz_b7 : h0.size ≤ b7 := Nat.le_trans K2.1 (Nat.le_of_eq g7.symm)
  have f7_8 := A1.ext E7
  have f7_9 := F1_value.ext E7
  have f7_10 := F1_coder.ext E7
  have K11 : Keep h0 h7 [] := K2.ext E7
  have Z12 : n0 ≤ h7.size := Nat.le_trans Z3 E7.1
  have cr14 : CHr Z [("java/lang/String", 7)] s.vm h0 s.vm h7 := cr5.trans (CHr.ext E7 ch4)
  have ch13 : CHv Z [("java/lang/String", 7)] s.vm h7 := ch4.ext E7
  have kp15 := Nat.le_trans kp6 E7.1
  have pre16 : ∀ tg_, Steps p.tables e below (T7.setTop (mkF m 34 #[.val (.int n), .val (.int c0), .val (.int c1), .val (.int ((n &&& (2147483647 : Int32)) % (3 : Int32))), .val (.int (c0 &&& (255 : Int32)).toUInt32.toUInt16.toUInt32.toInt32), .val (.int (c1 &&& (255 : Int32)).toUInt32.toUInt16.toUInt32.toInt32)] [(.ref b7), (.ref b1), (.ref b1)])) tg_ → Steps p.tables e below (s₁.setTop (entryFrame m #[(.int n), (.int c0), (.int c1)] 6)) tg_ := by
    intro tg_ kt
    refine pre0 _ ?_
    show Steps p.tables e below (s₁.setTop (mkF m 0 #[.val (.int n), .val (.int c0), .val (.int c1), .unset, .unset, .unset] [])) _
    refine XS.iloadN X0.here hx rfl (hb hby dwt_0) rfl ?_
    show Steps p.tables e below (s₁.setTop (mkF m 1 #[.val (.int n), .val (.int c0), .val (.int c1), .unset, .unset, .unset] [(.int n)])) _
    refine X0.ldcI hx hown (mvT hZ (hw _ (List.mem_of_getElem? (i := 0) rfl))) (g := (mkF m 1 #[.val (.int n), .val (.int c0), .val (.int c1), .unset, .unset, .unset] [(.int n)])) rfl (hb hby dwt_1) ?_
    show Steps p.tables e below (s₁.setTop (mkF m 3 #[.val (.int n), .val (.int c0), .val (.int c1), .unset, .unset, .unset] [(.int (2147483647 : Int32)), (.int n)])) _
    refine XS.iand X0.here hx rfl (hb hby dwt_3) rfl ?_
    show Steps p.tables e below (s₁.setTop (mkF m 4 #[.val (.int n), .val (.int c0), .val (.int c1), .unset, .unset, .unset] [(.int (n &&& (2147483647 : Int32)))])) _
    refine XS.iconst X0.here hx rfl (hb hby dwt_4) ?_
    show Steps p.tables e below (s₁.setTop (mkF m 5 #[.val (.int n), .val (.int c0), .val (.int c1), .unset, .unset, .unset] [(.int (3 : Int32)), (.int (n &&& (2147483647 : Int32)))])) _
    refine iremM X0 hx rfl (hb hby dwt_5) rfl (by decide) ?_
    show Steps p.tables e below (s₁.setTop (mkF m 6 #[.val (.int n), .val (.int c0), .val (.int c1), .unset, .unset, .unset] [(.int ((n &&& (2147483647 : Int32)) % (3 : Int32)))])) _
    refine XS.istoreN X0.here hx rfl (hb hby dwt_6) rfl (l' := #[.val (.int n), .val (.int c0), .val (.int c1), .val (.int ((n &&& (2147483647 : Int32)) % (3 : Int32))), .unset, .unset]) rfl ?_
    show Steps p.tables e below (s₁.setTop (mkF m 7 #[.val (.int n), .val (.int c0), .val (.int c1), .val (.int ((n &&& (2147483647 : Int32)) % (3 : Int32))), .unset, .unset] [])) _
    refine XS.iloadN X0.here hx rfl (hb hby dwt_7) rfl ?_
    show Steps p.tables e below (s₁.setTop (mkF m 8 #[.val (.int n), .val (.int c0), .val (.int c1), .val (.int ((n &&& (2147483647 : Int32)) % (3 : Int32))), .unset, .unset] [(.int c0)])) _
    refine XS.sipush X0.here hx rfl (hb hby dwt_8) ?_
    show Steps p.tables e below (s₁.setTop (mkF m 11 #[.val (.int n), .val (.int c0), .val (.int c1), .val (.int ((n &&& (2147483647 : Int32)) % (3 : Int32))), .unset, .unset] [(.int (255 : Int32)), (.int c0)])) _
    refine XS.iand X0.here hx rfl (hb hby dwt_11) rfl ?_
    show Steps p.tables e below (s₁.setTop (mkF m 12 #[.val (.int n), .val (.int c0), .val (.int c1), .val (.int ((n &&& (2147483647 : Int32)) % (3 : Int32))), .unset, .unset] [(.int (c0 &&& (255 : Int32)))])) _
    refine XS.i2c X0.here hx rfl (hb hby dwt_12) rfl ?_
    show Steps p.tables e below (s₁.setTop (mkF m 13 #[.val (.int n), .val (.int c0), .val (.int c1), .val (.int ((n &&& (2147483647 : Int32)) % (3 : Int32))), .unset, .unset] [(.int (c0 &&& (255 : Int32)).toUInt32.toUInt16.toUInt32.toInt32)])) _
    refine XS.istore X0.here hx rfl (hb hby dwt_13) rfl (l' := #[.val (.int n), .val (.int c0), .val (.int c1), .val (.int ((n &&& (2147483647 : Int32)) % (3 : Int32))), .val (.int (c0 &&& (255 : Int32)).toUInt32.toUInt16.toUInt32.toInt32), .unset]) rfl ?_
    show Steps p.tables e below (s₁.setTop (mkF m 15 #[.val (.int n), .val (.int c0), .val (.int c1), .val (.int ((n &&& (2147483647 : Int32)) % (3 : Int32))), .val (.int (c0 &&& (255 : Int32)).toUInt32.toUInt16.toUInt32.toInt32), .unset] [])) _
    refine XS.iloadN X0.here hx rfl (hb hby dwt_15) rfl ?_
    show Steps p.tables e below (s₁.setTop (mkF m 16 #[.val (.int n), .val (.int c0), .val (.int c1), .val (.int ((n &&& (2147483647 : Int32)) % (3 : Int32))), .val (.int (c0 &&& (255 : Int32)).toUInt32.toUInt16.toUInt32.toInt32), .unset] [(.int c1)])) _
    refine XS.sipush X0.here hx rfl (hb hby dwt_16) ?_
    show Steps p.tables e below (s₁.setTop (mkF m 19 #[.val (.int n), .val (.int c0), .val (.int c1), .val (.int ((n &&& (2147483647 : Int32)) % (3 : Int32))), .val (.int (c0 &&& (255 : Int32)).toUInt32.toUInt16.toUInt32.toInt32), .unset] [(.int (255 : Int32)), (.int c1)])) _
    refine XS.iand X0.here hx rfl (hb hby dwt_19) rfl ?_
    show Steps p.tables e below (s₁.setTop (mkF m 20 #[.val (.int n), .val (.int c0), .val (.int c1), .val (.int ((n &&& (2147483647 : Int32)) % (3 : Int32))), .val (.int (c0 &&& (255 : Int32)).toUInt32.toUInt16.toUInt32.toInt32), .unset] [(.int (c1 &&& (255 : Int32)))])) _
    refine XS.i2c X0.here hx rfl (hb hby dwt_20) rfl ?_
    show Steps p.tables e below (s₁.setTop (mkF m 21 #[.val (.int n), .val (.int c0), .val (.int c1), .val (.int ((n &&& (2147483647 : Int32)) % (3 : Int32))), .val (.int (c0 &&& (255 : Int32)).toUInt32.toUInt16.toUInt32.toInt32), .unset] [(.int (c1 &&& (255 : Int32)).toUInt32.toUInt16.toUInt32.toInt32)])) _
    refine XS.istore X0.here hx rfl (hb hby dwt_21) rfl (l' := #[.val (.int n), .val (.int c0), .val (.int c1), .val (.int ((n &&& (2147483647 : Int32)) % (3 : Int32))), .val (.int (c0 &&& (255 : Int32)).toUInt32.toUInt16.toUInt32.toInt32), .val (.int (c1 &&& (255 : Int32)).toUInt32.toUInt16.toUInt32.toInt32)]) rfl ?_
    show Steps p.tables e below (s₁.setTop (mkF m 23 #[.val (.int n), .val (.int c0), .val (.int c1), .val (.int ((n &&& (2147483647 : Int32)) % (3 : Int32))), .val (.int (c0 &&& (255 : Int32)).toUInt32.toUInt16.toUInt32.toInt32), .val (.int (c1 &&& (255 : Int32)).toUInt32.toUInt16.toUInt32.toInt32)] [])) _
    refine XS.iloadN X0.here hx rfl (hb hby dwt_23) rfl ?_
    show Steps p.tables e below (s₁.setTop (mkF m 24 #[.val (.int n), .val (.int c0), .val (.int c1), .val (.int ((n &&& (2147483647 : Int32)) % (3 : Int32))), .val (.int (c0 &&& (255 : Int32)).toUInt32.toUInt16.toUInt32.toInt32), .val (.int (c1 &&& (255 : Int32)).toUInt32.toUInt16.toUInt32.toInt32)] [(.int ((n &&& (2147483647 : Int32)) % (3 : Int32)))])) _
    refine XS.ifNo X0.here hx rfl (hb hby dwt_24) rfl (XT.i0_ne_f hze) ?_
    show Steps p.tables e below (s₁.setTop (mkF m 27 #[.val (.int n), .val (.int c0), .val (.int c1), .val (.int ((n &&& (2147483647 : Int32)) % (3 : Int32))), .val (.int (c0 &&& (255 : Int32)).toUInt32.toUInt16.toUInt32.toInt32), .val (.int (c1 &&& (255 : Int32)).toUInt32.toUInt16.toUInt32.toInt32)] [])) _
    refine st1 _ ?_
    show Steps p.tables e below (T1.setTop (mkF m 30 #[.val (.int n), .val (.int c0), .val (.int c1), .val (.int ((n &&& (2147483647 : Int32)) % (3 : Int32))), .val (.int (c0 &&& (255 : Int32)).toUInt32.toUInt16.toUInt32.toInt32), .val (.int (c1 &&& (255 : Int32)).toUInt32.toUInt16.toUInt32.toInt32)] [(.ref b1)])) _
    refine XS.dup X1.here hx rfl (hb hby dwt_30) rfl rfl ?_
    show Steps p.tables e below (T1.setTop (mkF m 31 #[.val (.int n), .val (.int c0), .val (.int c1), .val (.int ((n &&& (2147483647 : Int32)) % (3 : Int32))), .val (.int (c0 &&& (255 : Int32)).toUInt32.toUInt16.toUInt32.toInt32), .val (.int (c1 &&& (255 : Int32)).toUInt32.toUInt16.toUInt32.toInt32)] [(.ref b1), (.ref b1)])) _
    refine XS.iconst X1.here hx rfl (hb hby dwt_31) ?_
    show Steps p.tables e below (T1.setTop (mkF m 32 #[.val (.int n), .val (.int c0), .val (.int c1), .val (.int ((n &&& (2147483647 : Int32)) % (3 : Int32))), .val (.int (c0 &&& (255 : Int32)).toUInt32.toUInt16.toUInt32.toInt32), .val (.int (c1 &&& (255 : Int32)).toUInt32.toUInt16.toUInt32.toInt32)] [(.int (0 : Int32)), (.ref b1), (.ref b1)])) _
    refine st7 _ ?_
    exact kt
  obtain ⟨_, _, ⟨T17, L17, k17, n17⟩, -, X17, Sn17, gn17, ⟨Lc17, hQ17, l17, y17, z17, C17⟩, st17⟩ := X7.specialBackS hx (y := (⟨"java/lang/String", "<init>", "([C)V"⟩ : MethodName)) rfl hown (mvT hZ (hw _ (List.mem_of_getElem? (i := 61) rfl))) (mvT hZ (hw _ (List.mem_of_getElem? (i := 62) rfl))) (mvT hZ (hw _ (List.mem_of_getElem? (i := 63) rfl))) (by decide) (backOfSH (s := s) (vm0 := s.vm) (W := 1) (rmw1 l Z a0 hw [] b1 b7 _ h7 n0 Z12 f7_8 f7_9 f7_10 gb_b1 V7 hEL) hZ (hw _ (List.mem_of_getElem? (i := 63) rfl)) (hw _ (List.mem_of_getElem? (i := 59) rfl)) (by decide) (by decide) hEL ch13) (g := (mkF m 34 #[.val (.int n), .val (.int c0), .val (.int c1), .val (.int ((n &&& (2147483647 : Int32)) % (3 : Int32))), .val (.int (c0 &&& (255 : Int32)).toUInt32.toUInt16.toUInt32.toInt32), .val (.int (c1 &&& (255 : Int32)).toUInt32.toUInt16.toUInt32.toInt32)] [(.ref b7), (.ref b1), (.ref b1)])) rfl (by rw [hml]; rfl) (Steps.refl _) (a := b1) (argsL := [(.ref b7)]) (rest := [(.ref b1)]) (lenOf pdwt_0 rfl) rfl (by show 2 * 0 + _ ≤ _; exact Nat.le_of_eq rfl) (hb hby dwt_34) (fun _ _ => ⟨rfl, e7, (by decide : 2 + 4 ≤ _), (by decide : 4 + 8 ≤ _)⟩)
  dsimp only [Pt.U, Pt.locs, Pt.cells, Pt.slots] at X17 Sn17 gn17 l17 y17 z17 st17 hQ17 C17
  subst l17 y17 z17
  have hZ : Z.Warmed39 (s.setVm T17.vm).vm := State.Warmed39.trans hZ Sn17.1
  have hown : (s.setVm T17.vm).vm.findClass "com/example/hornbrook/hornbrook/ValuesKindPinLaw" = some m.cls := by rw [show (s.setVm T17.vm).vm = T17.vm from rfl, Sn17.1.alike.findClass]; exact hown
  have cr18 : CHr Z [("java/lang/String", 7)] s.vm h0 T17.vm T17.heap := cr14.trans C17
  obtain ⟨rfl, N17q, KC17, EB17⟩ := hQ17
  have K19 : Keep h0 T17.heap [] := K11.trans KC17 (allS (Or.inr sz_b1) all0)
  have N17 := Fr.app N0 N17q
  have pre20 : ∀ tg_, Steps p.tables e below (T17.setTop (mkF m 37 #[.val (.int n), .val (.int c0), .val (.int c1), .val (.int ((n &&& (2147483647 : Int32)) % (3 : Int32))), .val (.int (c0 &&& (255 : Int32)).toUInt32.toUInt16.toUInt32.toInt32), .val (.int (c1 &&& (255 : Int32)).toUInt32.toUInt16.toUInt32.toInt32)] [(.ref b1)])) tg_ → Steps p.tables e below (s₁.setTop (entryFrame m #[(.int n), (.int c0), (.int c1)] 6)) tg_ := by
    intro tg_ kt
    refine pre16 _ ?_
    show Steps p.tables e below (T7.setTop (mkF m 34 #[.val (.int n), .val (.int c0), .val (.int c1), .val (.int ((n &&& (2147483647 : Int32)) % (3 : Int32))), .val (.int (c0 &&& (255 : Int32)).toUInt32.toUInt16.toUInt32.toInt32), .val (.int (c1 &&& (255 : Int32)).toUInt32.toUInt16.toUInt32.toInt32)] [(.ref b7), (.ref b1), (.ref b1)])) _
    refine st17.trans ?_
    exact kt
  obtain ⟨fs, hr, hrun, hended, hRW⟩ := X17.leaveW (vm₁ := T17.vm) Sn17 (Nat.le_refl _) (v := some (.ref b1)) (fun h => by rw [Bd.returns] at h; cases h)
  refine ⟨_, _, pre20 _ ?_, hrun, hended, _, _, rfl, ?_, ?_, hRW.1, hRW.2.1, hRW.2.2.1, hRW.2.2.2.mono (by decide) (by decide)⟩
  · show Steps p.tables e below (T17.setTop (mkF m 37 #[.val (.int n), .val (.int c0), .val (.int c1), .val (.int ((n &&& (2147483647 : Int32)) % (3 : Int32))), .val (.int (c0 &&& (255 : Int32)).toUInt32.toUInt16.toUInt32.toInt32), .val (.int (c1 &&& (255 : Int32)).toUInt32.toUInt16.toUInt32.toInt32)] [(.ref b1)])) _
    jvm_step X17.here [X17.here.top, hx, (hb hby dwt_37), X17.method', Bd.returns, Value.isRef, FieldType.isReference]
    first | (intro acts; rw [hr _ acts rfl rfl rfl]) | rw [hr _ _ rfl rfl rfl]
    exact Steps.refl _
  · show QO Z "java/lang/String" h0 n0 _ T17.heap _
    exact ⟨_, rfl, N17, K19, EB17⟩
  · show CHr Z [("java/lang/String", 7)] s.vm s.heap T17.vm T17.heap
    rw [hh]
    exact cr18.trans (CHv.at X17 hZ hEL C17.1)
theorem pnw0 : plainName "com/example/hornbrook/hornbrook/ValuesKindPinLaw" = true := by first | (simp [plainName, overriddenIn]; done) | decide +kernel
theorem pdw0_0 : parseMethodDescriptor "(III)Ljava/lang/String;" = some ⟨[.int, .int, .int], some (.object "java/lang/String")⟩ := by decide +kernel
theorem pdw0_1 : parseMethodDescriptor "(Ljava/lang/Object;)B" = some ⟨[(.object "java/lang/Object")], some .byte⟩ := by decide +kernel
theorem efw0 (m : MethodId) (x0 : Int32) (x1 : Int64) (x2 : Int32) (x3 : Int32) (x4 : Int32) (x5 : Int32) : entryFrame m #[(.int x0), (.long x1), (.int x2), (.int x3), (.int x4), (.int x5)] maxLocals = mkF m 0 #[.val (.int x0), .val (.long x1), .second, .val (.int x2), .val (.int x3), .val (.int x4), .val (.int x5), .unset, .unset, .unset, .unset, .unset] [] := by first | (simp [entryFrame, mkF, argsToLocals, Value.category, maxLocals]; done) | rfl
set_option maxRecDepth 65536 in
set_option maxHeartbeats 40000000 in
theorem rmw0 (l : Launch) (Z : State) (a0 : Array Value) (hw : ∀ d ∈ tables_1, d.before a0 Z = true) (ws : List Jvm.Cond) (ps : Int32) (pa : Int64) (pb pc0 pc1 pn : Int32) (h0 : Heap) (n0 : Nat) (Z0 : n0 ≤ h0.size) (hk2 : ((ps &&& (2147483647 : Int32)) % (5 : Int32)) = (2 : Int32)) (hze : ((pn &&& (2147483647 : Int32)) % (3 : Int32)) = (0 : Int32)) (hEL : EW Z a0 [("java/lang/String", 7)]) :
    MetFree l x (head1 (Jvm.Cond.code x code maxLocals ret :: ws) room_1) (fun aa_ U => aa_ = #[(.int ps), (.long pa), (.int pb), (.int pc0), (.int pc1), (.int pn)] ∧ Z.Warmed39 U.vm ∧ U.heap = h0 ∧ CHv Z [("java/lang/String", 7)] U.vm h0) (fun _ _ _ _ _ => True) (fun _ U o U' => ∃ vv_ LL_, o = .returned vv_ ∧ Q0 Z h0 n0 vv_ U'.heap LL_ ∧ CHr Z [("java/lang/String", 7)] U.vm U.heap U'.vm U'.heap ∧ ReturnedEndW U o U' LL_ room_1.cells room_1.slots) := by
  refine MetFree.of_bodySF (plainFor_of_name pnw0) hisR ?_
  intro p e s m args below meth c s₁ Bd hml0 hP hK
  obtain ⟨rfl, hZ, hh, hC⟩ := hP
  have hx := Bd.exec
  have hby := Bd.bytes
  have hml : c.maxLocals = 12 := hml0
  have hown : s.vm.findClass "com/example/hornbrook/hornbrook/ValuesKindPinLaw" = some m.cls := findClass_of_methodNamed Bd.named
  have hnm := (name_of_methodNamed Bd.named Bd.method).1
  have X0 : Stand p l e room_1 s m #[(.int ps), (.long pa), (.int pb), (.int pc0), (.int pc1), (.int pn)] below meth c s₁ [] 0 0 := Stand.of_body Bd
  have e0 : s₁.heap = h0 := by rw [← hh, Bd.state]; rfl
  have N0 := Fr.nil n0
  have pre0 : ∀ tg_, Steps p.tables e below (s₁.setTop (mkF m 0 #[.val (.int ps), .val (.long pa), .second, .val (.int pb), .val (.int pc0), .val (.int pc1), .val (.int pn), .unset, .unset, .unset, .unset, .unset] [])) tg_ → Steps p.tables e below (s₁.setTop (entryFrame m #[(.int ps), (.long pa), (.int pb), (.int pc0), (.int pc1), (.int pn)] maxLocals)) tg_ := fun tg_ kt => castTop (efw0 m ps pa pb pc0 pc1 pn) kt
  have hS0 : s.Since s.vm 0 := (State.WarmedH.refl s).since 0
  have pre1 : ∀ tg_, Steps p.tables e below (s₁.setTop (mkF m 13 #[.val (.int ps), .val (.long pa), .second, .val (.int pb), .val (.int pc0), .val (.int pc1), .val (.int pn), .val (.int ((ps &&& (2147483647 : Int32)) % (5 : Int32))), .unset, .unset, .unset, .unset] [(.int (XT.cmpL (pa &&& (1 : Int64)) (0 : Int64)))])) tg_ → Steps p.tables e below (s₁.setTop (entryFrame m #[(.int ps), (.long pa), (.int pb), (.int pc0), (.int pc1), (.int pn)] maxLocals)) tg_ := by
    intro tg_ kt
    refine pre0 _ ?_
    show Steps p.tables e below (s₁.setTop (mkF m 0 #[.val (.int ps), .val (.long pa), .second, .val (.int pb), .val (.int pc0), .val (.int pc1), .val (.int pn), .unset, .unset, .unset, .unset, .unset] [])) _
    refine XS.iloadN X0.here hx rfl (hb hby at_0) rfl ?_
    show Steps p.tables e below (s₁.setTop (mkF m 1 #[.val (.int ps), .val (.long pa), .second, .val (.int pb), .val (.int pc0), .val (.int pc1), .val (.int pn), .unset, .unset, .unset, .unset, .unset] [(.int ps)])) _
    refine X0.ldcI hx hown (mvT hZ (hw _ (List.mem_of_getElem? (i := 0) rfl))) (g := (mkF m 1 #[.val (.int ps), .val (.long pa), .second, .val (.int pb), .val (.int pc0), .val (.int pc1), .val (.int pn), .unset, .unset, .unset, .unset, .unset] [(.int ps)])) rfl (hb hby at_1) ?_
    show Steps p.tables e below (s₁.setTop (mkF m 3 #[.val (.int ps), .val (.long pa), .second, .val (.int pb), .val (.int pc0), .val (.int pc1), .val (.int pn), .unset, .unset, .unset, .unset, .unset] [(.int (2147483647 : Int32)), (.int ps)])) _
    refine XS.iand X0.here hx rfl (hb hby at_3) rfl ?_
    show Steps p.tables e below (s₁.setTop (mkF m 4 #[.val (.int ps), .val (.long pa), .second, .val (.int pb), .val (.int pc0), .val (.int pc1), .val (.int pn), .unset, .unset, .unset, .unset, .unset] [(.int (ps &&& (2147483647 : Int32)))])) _
    refine XS.iconst X0.here hx rfl (hb hby at_4) ?_
    show Steps p.tables e below (s₁.setTop (mkF m 5 #[.val (.int ps), .val (.long pa), .second, .val (.int pb), .val (.int pc0), .val (.int pc1), .val (.int pn), .unset, .unset, .unset, .unset, .unset] [(.int (5 : Int32)), (.int (ps &&& (2147483647 : Int32)))])) _
    refine iremM X0 hx rfl (hb hby at_5) rfl (by decide) ?_
    show Steps p.tables e below (s₁.setTop (mkF m 6 #[.val (.int ps), .val (.long pa), .second, .val (.int pb), .val (.int pc0), .val (.int pc1), .val (.int pn), .unset, .unset, .unset, .unset, .unset] [(.int ((ps &&& (2147483647 : Int32)) % (5 : Int32)))])) _
    refine XS.istore X0.here hx rfl (hb hby at_6) rfl (l' := #[.val (.int ps), .val (.long pa), .second, .val (.int pb), .val (.int pc0), .val (.int pc1), .val (.int pn), .val (.int ((ps &&& (2147483647 : Int32)) % (5 : Int32))), .unset, .unset, .unset, .unset]) rfl ?_
    show Steps p.tables e below (s₁.setTop (mkF m 8 #[.val (.int ps), .val (.long pa), .second, .val (.int pb), .val (.int pc0), .val (.int pc1), .val (.int pn), .val (.int ((ps &&& (2147483647 : Int32)) % (5 : Int32))), .unset, .unset, .unset, .unset] [])) _
    refine XS.lloadN X0.here hx rfl (hb hby at_8) rfl ?_
    show Steps p.tables e below (s₁.setTop (mkF m 9 #[.val (.int ps), .val (.long pa), .second, .val (.int pb), .val (.int pc0), .val (.int pc1), .val (.int pn), .val (.int ((ps &&& (2147483647 : Int32)) % (5 : Int32))), .unset, .unset, .unset, .unset] [(.long pa)])) _
    refine XS.lconst X0.here hx rfl (hb hby at_9) ?_
    show Steps p.tables e below (s₁.setTop (mkF m 10 #[.val (.int ps), .val (.long pa), .second, .val (.int pb), .val (.int pc0), .val (.int pc1), .val (.int pn), .val (.int ((ps &&& (2147483647 : Int32)) % (5 : Int32))), .unset, .unset, .unset, .unset] [(.long (1 : Int64)), (.long pa)])) _
    refine XS.land X0.here hx rfl (hb hby at_10) rfl ?_
    show Steps p.tables e below (s₁.setTop (mkF m 11 #[.val (.int ps), .val (.long pa), .second, .val (.int pb), .val (.int pc0), .val (.int pc1), .val (.int pn), .val (.int ((ps &&& (2147483647 : Int32)) % (5 : Int32))), .unset, .unset, .unset, .unset] [(.long (pa &&& (1 : Int64)))])) _
    refine XS.lconst X0.here hx rfl (hb hby at_11) ?_
    show Steps p.tables e below (s₁.setTop (mkF m 12 #[.val (.int ps), .val (.long pa), .second, .val (.int pb), .val (.int pc0), .val (.int pc1), .val (.int pn), .val (.int ((ps &&& (2147483647 : Int32)) % (5 : Int32))), .unset, .unset, .unset, .unset] [(.long (0 : Int64)), (.long (pa &&& (1 : Int64)))])) _
    refine XT.lcmp X0.here hx rfl (hb hby at_12) rfl ?_
    exact kt
  obtain ⟨fl, pre2⟩ : ∃ fl : Int32, ∀ tg_, Steps p.tables e below (s₁.setTop (mkF m 21 #[.val (.int ps), .val (.long pa), .second, .val (.int pb), .val (.int pc0), .val (.int pc1), .val (.int pn), .val (.int ((ps &&& (2147483647 : Int32)) % (5 : Int32))), .unset, .unset, .unset, .unset] [(.int fl)])) tg_ → Steps p.tables e below (s₁.setTop (entryFrame m #[(.int ps), (.long pa), (.int pb), (.int pc0), (.int pc1), (.int pn)] maxLocals)) tg_ := by
    by_cases hr13_3 : (pa &&& (1 : Int64)) = (0 : Int64)
    · refine ⟨(0 : Int32), fun tg_ kt => ?_⟩
      refine pre1 _ ?_
      show Steps p.tables e below (s₁.setTop (mkF m 13 #[.val (.int ps), .val (.long pa), .second, .val (.int pb), .val (.int pc0), .val (.int pc1), .val (.int pn), .val (.int ((ps &&& (2147483647 : Int32)) % (5 : Int32))), .unset, .unset, .unset, .unset] [(.int (XT.cmpL (pa &&& (1 : Int64)) (0 : Int64)))])) _
      refine XS.ifYes X0.here hx rfl (pc0 := 13) (pc' := 20) rfl (hb hby at_13) rfl (XT.ll_eq_t hr13_3) (by decide) (by decide) ?_
      show Steps p.tables e below (s₁.setTop (mkF m 20 #[.val (.int ps), .val (.long pa), .second, .val (.int pb), .val (.int pc0), .val (.int pc1), .val (.int pn), .val (.int ((ps &&& (2147483647 : Int32)) % (5 : Int32))), .unset, .unset, .unset, .unset] [])) _
      refine XS.iconst X0.here hx rfl (hb hby at_20) ?_
      exact kt
    · refine ⟨(1 : Int32), fun tg_ kt => ?_⟩
      refine pre1 _ ?_
      show Steps p.tables e below (s₁.setTop (mkF m 13 #[.val (.int ps), .val (.long pa), .second, .val (.int pb), .val (.int pc0), .val (.int pc1), .val (.int pn), .val (.int ((ps &&& (2147483647 : Int32)) % (5 : Int32))), .unset, .unset, .unset, .unset] [(.int (XT.cmpL (pa &&& (1 : Int64)) (0 : Int64)))])) _
      refine XS.ifNo X0.here hx rfl (hb hby at_13) rfl (XT.ll_eq_f hr13_3) ?_
      show Steps p.tables e below (s₁.setTop (mkF m 16 #[.val (.int ps), .val (.long pa), .second, .val (.int pb), .val (.int pc0), .val (.int pc1), .val (.int pn), .val (.int ((ps &&& (2147483647 : Int32)) % (5 : Int32))), .unset, .unset, .unset, .unset] [])) _
      refine XS.iconst X0.here hx rfl (hb hby at_16) ?_
      show Steps p.tables e below (s₁.setTop (mkF m 17 #[.val (.int ps), .val (.long pa), .second, .val (.int pb), .val (.int pc0), .val (.int pc1), .val (.int pn), .val (.int ((ps &&& (2147483647 : Int32)) % (5 : Int32))), .unset, .unset, .unset, .unset] [(.int (1 : Int32))])) _
      refine XS.goto X0.here hx rfl (pc0 := 17) (pc' := 21) rfl (hb hby at_17) (by decide) (by decide) ?_
      exact kt
  have pre4 : ∀ tg_, Steps p.tables e below (s₁.setTop (mkF m 71 #[.val (.int ps), .val (.long pa), .second, .val (.int pb), .val (.int pc0), .val (.int pc1), .val (.int pn), .val (.int ((ps &&& (2147483647 : Int32)) % (5 : Int32))), .val (.int fl), .unset, .unset, .unset] [(.int pc1), (.int pc0), (.int pn)])) tg_ → Steps p.tables e below (s₁.setTop (entryFrame m #[(.int ps), (.long pa), (.int pb), (.int pc0), (.int pc1), (.int pn)] maxLocals)) tg_ := by
    intro tg_ kt
    refine pre2 _ ?_
    show Steps p.tables e below (s₁.setTop (mkF m 21 #[.val (.int ps), .val (.long pa), .second, .val (.int pb), .val (.int pc0), .val (.int pc1), .val (.int pn), .val (.int ((ps &&& (2147483647 : Int32)) % (5 : Int32))), .unset, .unset, .unset, .unset] [(.int fl)])) _
    refine XS.istore X0.here hx rfl (hb hby at_21) rfl (l' := #[.val (.int ps), .val (.long pa), .second, .val (.int pb), .val (.int pc0), .val (.int pc1), .val (.int pn), .val (.int ((ps &&& (2147483647 : Int32)) % (5 : Int32))), .val (.int fl), .unset, .unset, .unset]) rfl ?_
    show Steps p.tables e below (s₁.setTop (mkF m 23 #[.val (.int ps), .val (.long pa), .second, .val (.int pb), .val (.int pc0), .val (.int pc1), .val (.int pn), .val (.int ((ps &&& (2147483647 : Int32)) % (5 : Int32))), .val (.int fl), .unset, .unset, .unset] [])) _
    refine XS.iload X0.here hx rfl (hb hby at_23) rfl ?_
    show Steps p.tables e below (s₁.setTop (mkF m 25 #[.val (.int ps), .val (.long pa), .second, .val (.int pb), .val (.int pc0), .val (.int pc1), .val (.int pn), .val (.int ((ps &&& (2147483647 : Int32)) % (5 : Int32))), .val (.int fl), .unset, .unset, .unset] [(.int ((ps &&& (2147483647 : Int32)) % (5 : Int32)))])) _
    refine XS.ifYes X0.here hx rfl (pc0 := 25) (pc' := 40) rfl (hb hby at_25) rfl (XT.i0_ne_t (by rw [hk2]; decide)) (by decide) (by decide) ?_
    show Steps p.tables e below (s₁.setTop (mkF m 40 #[.val (.int ps), .val (.long pa), .second, .val (.int pb), .val (.int pc0), .val (.int pc1), .val (.int pn), .val (.int ((ps &&& (2147483647 : Int32)) % (5 : Int32))), .val (.int fl), .unset, .unset, .unset] [])) _
    refine XS.iload X0.here hx rfl (hb hby at_40) rfl ?_
    show Steps p.tables e below (s₁.setTop (mkF m 42 #[.val (.int ps), .val (.long pa), .second, .val (.int pb), .val (.int pc0), .val (.int pc1), .val (.int pn), .val (.int ((ps &&& (2147483647 : Int32)) % (5 : Int32))), .val (.int fl), .unset, .unset, .unset] [(.int ((ps &&& (2147483647 : Int32)) % (5 : Int32)))])) _
    refine XS.iconst X0.here hx rfl (hb hby at_42) ?_
    show Steps p.tables e below (s₁.setTop (mkF m 43 #[.val (.int ps), .val (.long pa), .second, .val (.int pb), .val (.int pc0), .val (.int pc1), .val (.int pn), .val (.int ((ps &&& (2147483647 : Int32)) % (5 : Int32))), .val (.int fl), .unset, .unset, .unset] [(.int (1 : Int32)), (.int ((ps &&& (2147483647 : Int32)) % (5 : Int32)))])) _
    refine XS.icmpYes X0.here hx rfl (pc0 := 43) (pc' := 59) rfl (hb hby at_43) rfl (XT.ii_ne_t (by rw [hk2]; decide)) (by decide) (by decide) ?_
    show Steps p.tables e below (s₁.setTop (mkF m 59 #[.val (.int ps), .val (.long pa), .second, .val (.int pb), .val (.int pc0), .val (.int pc1), .val (.int pn), .val (.int ((ps &&& (2147483647 : Int32)) % (5 : Int32))), .val (.int fl), .unset, .unset, .unset] [])) _
    refine XS.iload X0.here hx rfl (hb hby at_59) rfl ?_
    show Steps p.tables e below (s₁.setTop (mkF m 61 #[.val (.int ps), .val (.long pa), .second, .val (.int pb), .val (.int pc0), .val (.int pc1), .val (.int pn), .val (.int ((ps &&& (2147483647 : Int32)) % (5 : Int32))), .val (.int fl), .unset, .unset, .unset] [(.int ((ps &&& (2147483647 : Int32)) % (5 : Int32)))])) _
    refine XS.iconst X0.here hx rfl (hb hby at_61) ?_
    show Steps p.tables e below (s₁.setTop (mkF m 62 #[.val (.int ps), .val (.long pa), .second, .val (.int pb), .val (.int pc0), .val (.int pc1), .val (.int pn), .val (.int ((ps &&& (2147483647 : Int32)) % (5 : Int32))), .val (.int fl), .unset, .unset, .unset] [(.int (2 : Int32)), (.int ((ps &&& (2147483647 : Int32)) % (5 : Int32)))])) _
    refine XS.icmpNo X0.here hx rfl (hb hby at_62) rfl (XT.ii_ne_f hk2) ?_
    show Steps p.tables e below (s₁.setTop (mkF m 65 #[.val (.int ps), .val (.long pa), .second, .val (.int pb), .val (.int pc0), .val (.int pc1), .val (.int pn), .val (.int ((ps &&& (2147483647 : Int32)) % (5 : Int32))), .val (.int fl), .unset, .unset, .unset] [])) _
    refine XS.iload X0.here hx rfl (hb hby at_65) rfl ?_
    show Steps p.tables e below (s₁.setTop (mkF m 67 #[.val (.int ps), .val (.long pa), .second, .val (.int pb), .val (.int pc0), .val (.int pc1), .val (.int pn), .val (.int ((ps &&& (2147483647 : Int32)) % (5 : Int32))), .val (.int fl), .unset, .unset, .unset] [(.int pn)])) _
    refine XS.iload X0.here hx rfl (hb hby at_67) rfl ?_
    show Steps p.tables e below (s₁.setTop (mkF m 69 #[.val (.int ps), .val (.long pa), .second, .val (.int pb), .val (.int pc0), .val (.int pc1), .val (.int pn), .val (.int ((ps &&& (2147483647 : Int32)) % (5 : Int32))), .val (.int fl), .unset, .unset, .unset] [(.int pc0), (.int pn)])) _
    refine XS.iload X0.here hx rfl (hb hby at_69) rfl ?_
    exact kt
  obtain ⟨_, _, ⟨T5, L5, k5, n5⟩, -, X5, Sn5, gn5, ⟨Lc5, hQ5, l5, y5, z5, C5⟩, st5⟩ := callSS X0 hx (y := (⟨"com/example/hornbrook/hornbrook/ValuesKindPinLaw", "text", "(III)Ljava/lang/String;"⟩ : MethodName)) hown (mvT hZ (hw _ (List.mem_of_getElem? (i := 53) rfl))) (mvT hZ (hw _ (List.mem_of_getElem? (i := 54) rfl))) (mvT hZ (hw _ (List.mem_of_getElem? (i := 55) rfl))) (mvT hZ (hw _ (List.mem_of_getElem? (i := 56) rfl))) (by decide) (backOfSH (s := s) (vm0 := s.vm) (W := 0) (rmwt l Z a0 hw [] pn pc0 pc1 h0 n0 Z0 hze hEL) hZ (hw _ (List.mem_of_getElem? (i := 56) rfl)) (hw _ (List.mem_of_getElem? (i := 55) rfl)) (by decide) (by decide) hEL hC) (g := (mkF m 71 #[.val (.int ps), .val (.long pa), .second, .val (.int pb), .val (.int pc0), .val (.int pc1), .val (.int pn), .val (.int ((ps &&& (2147483647 : Int32)) % (5 : Int32))), .val (.int fl), .unset, .unset, .unset] [(.int pc1), (.int pc0), (.int pn)])) rfl (by rw [hml]; rfl) (argsL := [(.int pn), (.int pc0), (.int pc1)]) (rest := []) (lenOf pdw0_0 rfl) rfl (by show 2 * 0 + _ ≤ _; exact Nat.le_of_eq rfl) (hb hby at_71) (fun _ _ => ⟨rfl, e0, (by decide : 0 + 6 ≤ _), (by decide : 0 + 12 ≤ _)⟩)
  dsimp only [Pt.U, Pt.locs, Pt.cells, Pt.slots] at X5 Sn5 gn5 l5 y5 z5 st5 hQ5 C5
  subst l5 y5 z5
  have hZ : Z.Warmed39 (s.setVm T5.vm).vm := State.Warmed39.trans hZ Sn5.1
  have hown : (s.setVm T5.vm).vm.findClass "com/example/hornbrook/hornbrook/ValuesKindPinLaw" = some m.cls := by rw [show (s.setVm T5.vm).vm = T5.vm from rfl, Sn5.1.alike.findClass]; exact hown
  have cr6 : CHr Z [("java/lang/String", 7)] s.vm h0 T5.vm T5.heap := (CHr.refl hC).trans C5
  obtain ⟨bo5, rfl, N5q, KC5, EB5⟩ := hQ5
  have N5 := Fr.app N0 N5q
  obtain ⟨_, _, ⟨T7, L7, k7, n7⟩, -, X7, ⟨Lc7, hQ7, l7, y7, z7⟩, st7⟩ := Jvm.LawKit.callS X5 hx (y := (⟨"com/example/hornbrook/hornbrook/Values", "kind", "(Ljava/lang/Object;)B"⟩ : MethodName)) hown (mvT hZ (hw _ (List.mem_of_getElem? (i := 9) rfl))) (mvT hZ (hw _ (List.mem_of_getElem? (i := 10) rfl))) (mvT hZ (hw _ (List.mem_of_getElem? (i := 11) rfl))) (mvT hZ (hw _ (List.mem_of_getElem? (i := 12) rfl))) (by decide) (backOf (W := 0) (rmks l Z a0 hw [] bo5 T5.heap n0 (Nat.le_trans Z0 KC5.1) EB5) hZ (hw _ (List.mem_of_getElem? (i := 12) rfl)) (hw _ (List.mem_of_getElem? (i := 11) rfl)) (by decide) (by decide)) (g := (mkF m 118 #[.val (.int ps), .val (.long pa), .second, .val (.int pb), .val (.int pc0), .val (.int pc1), .val (.int pn), .val (.int ((ps &&& (2147483647 : Int32)) % (5 : Int32))), .val (.int fl), .val (.ref bo5), .val (.int (2 : Int32)), .unset] [(.ref bo5)])) rfl (by rw [hml]; rfl) (argsL := [(.ref bo5)]) (rest := []) (lenOf pdw0_1 rfl) rfl (by show 2 * 0 + _ ≤ _; exact Nat.le_of_eq rfl) (hb hby at_118) (fun _ _ => ⟨rfl, rfl, (by decide : 6 + 0 ≤ _), (by decide : 12 + 0 ≤ _)⟩)
  dsimp only [Pt.U, Pt.locs, Pt.cells, Pt.slots] at X7 l7 y7 z7 st7 hQ7
  subst l7 y7 z7
  obtain ⟨rfl, N7q, e7⟩ := hQ7
  have N7 := Fr.app N5 N7q
  have pre8 : ∀ tg_, Steps p.tables e below (T7.setTop (mkF m 135 #[.val (.int ps), .val (.long pa), .second, .val (.int pb), .val (.int pc0), .val (.int pc1), .val (.int pn), .val (.int ((ps &&& (2147483647 : Int32)) % (5 : Int32))), .val (.int fl), .val (.ref bo5), .val (.int (2 : Int32)), .val (.int (2 : Int32))] [(.int (1 : Int32))])) tg_ → Steps p.tables e below (s₁.setTop (entryFrame m #[(.int ps), (.long pa), (.int pb), (.int pc0), (.int pc1), (.int pn)] maxLocals)) tg_ := by
    intro tg_ kt
    refine pre4 _ ?_
    show Steps p.tables e below (s₁.setTop (mkF m 71 #[.val (.int ps), .val (.long pa), .second, .val (.int pb), .val (.int pc0), .val (.int pc1), .val (.int pn), .val (.int ((ps &&& (2147483647 : Int32)) % (5 : Int32))), .val (.int fl), .unset, .unset, .unset] [(.int pc1), (.int pc0), (.int pn)])) _
    refine st5.trans ?_
    show Steps p.tables e below (T5.setTop (mkF m 74 #[.val (.int ps), .val (.long pa), .second, .val (.int pb), .val (.int pc0), .val (.int pc1), .val (.int pn), .val (.int ((ps &&& (2147483647 : Int32)) % (5 : Int32))), .val (.int fl), .unset, .unset, .unset] [(.ref bo5)])) _
    refine XS.astore X5.here hx rfl (hb hby at_74) rfl rfl (l' := #[.val (.int ps), .val (.long pa), .second, .val (.int pb), .val (.int pc0), .val (.int pc1), .val (.int pn), .val (.int ((ps &&& (2147483647 : Int32)) % (5 : Int32))), .val (.int fl), .val (.ref bo5), .unset, .unset]) rfl ?_
    show Steps p.tables e below (T5.setTop (mkF m 76 #[.val (.int ps), .val (.long pa), .second, .val (.int pb), .val (.int pc0), .val (.int pc1), .val (.int pn), .val (.int ((ps &&& (2147483647 : Int32)) % (5 : Int32))), .val (.int fl), .val (.ref bo5), .unset, .unset] [])) _
    refine XS.iconst X5.here hx rfl (hb hby at_76) ?_
    show Steps p.tables e below (T5.setTop (mkF m 77 #[.val (.int ps), .val (.long pa), .second, .val (.int pb), .val (.int pc0), .val (.int pc1), .val (.int pn), .val (.int ((ps &&& (2147483647 : Int32)) % (5 : Int32))), .val (.int fl), .val (.ref bo5), .unset, .unset] [(.int (2 : Int32))])) _
    refine XS.istore X5.here hx rfl (hb hby at_77) rfl (l' := #[.val (.int ps), .val (.long pa), .second, .val (.int pb), .val (.int pc0), .val (.int pc1), .val (.int pn), .val (.int ((ps &&& (2147483647 : Int32)) % (5 : Int32))), .val (.int fl), .val (.ref bo5), .val (.int (2 : Int32)), .unset]) rfl ?_
    show Steps p.tables e below (T5.setTop (mkF m 79 #[.val (.int ps), .val (.long pa), .second, .val (.int pb), .val (.int pc0), .val (.int pc1), .val (.int pn), .val (.int ((ps &&& (2147483647 : Int32)) % (5 : Int32))), .val (.int fl), .val (.ref bo5), .val (.int (2 : Int32)), .unset] [])) _
    refine XS.goto X5.here hx rfl (pc0 := 79) (pc' := 116) rfl (hb hby at_79) (by decide) (by decide) ?_
    show Steps p.tables e below (T5.setTop (mkF m 116 #[.val (.int ps), .val (.long pa), .second, .val (.int pb), .val (.int pc0), .val (.int pc1), .val (.int pn), .val (.int ((ps &&& (2147483647 : Int32)) % (5 : Int32))), .val (.int fl), .val (.ref bo5), .val (.int (2 : Int32)), .unset] [])) _
    refine XS.aload X5.here hx rfl (hb hby at_116) rfl rfl ?_
    show Steps p.tables e below (T5.setTop (mkF m 118 #[.val (.int ps), .val (.long pa), .second, .val (.int pb), .val (.int pc0), .val (.int pc1), .val (.int pn), .val (.int ((ps &&& (2147483647 : Int32)) % (5 : Int32))), .val (.int fl), .val (.ref bo5), .val (.int (2 : Int32)), .unset] [(.ref bo5)])) _
    refine st7 _ ?_
    show Steps p.tables e below (T7.setTop (mkF m 121 #[.val (.int ps), .val (.long pa), .second, .val (.int pb), .val (.int pc0), .val (.int pc1), .val (.int pn), .val (.int ((ps &&& (2147483647 : Int32)) % (5 : Int32))), .val (.int fl), .val (.ref bo5), .val (.int (2 : Int32)), .unset] [(.int (2 : Int32))])) _
    refine XS.istore X7.here hx rfl (hb hby at_121) rfl (l' := #[.val (.int ps), .val (.long pa), .second, .val (.int pb), .val (.int pc0), .val (.int pc1), .val (.int pn), .val (.int ((ps &&& (2147483647 : Int32)) % (5 : Int32))), .val (.int fl), .val (.ref bo5), .val (.int (2 : Int32)), .val (.int (2 : Int32))]) rfl ?_
    show Steps p.tables e below (T7.setTop (mkF m 123 #[.val (.int ps), .val (.long pa), .second, .val (.int pb), .val (.int pc0), .val (.int pc1), .val (.int pn), .val (.int ((ps &&& (2147483647 : Int32)) % (5 : Int32))), .val (.int fl), .val (.ref bo5), .val (.int (2 : Int32)), .val (.int (2 : Int32))] [])) _
    refine XS.iload X7.here hx rfl (hb hby at_123) rfl ?_
    show Steps p.tables e below (T7.setTop (mkF m 125 #[.val (.int ps), .val (.long pa), .second, .val (.int pb), .val (.int pc0), .val (.int pc1), .val (.int pn), .val (.int ((ps &&& (2147483647 : Int32)) % (5 : Int32))), .val (.int fl), .val (.ref bo5), .val (.int (2 : Int32)), .val (.int (2 : Int32))] [(.int (2 : Int32))])) _
    refine XS.iload X7.here hx rfl (hb hby at_125) rfl ?_
    show Steps p.tables e below (T7.setTop (mkF m 127 #[.val (.int ps), .val (.long pa), .second, .val (.int pb), .val (.int pc0), .val (.int pc1), .val (.int pn), .val (.int ((ps &&& (2147483647 : Int32)) % (5 : Int32))), .val (.int fl), .val (.ref bo5), .val (.int (2 : Int32)), .val (.int (2 : Int32))] [(.int (2 : Int32)), (.int (2 : Int32))])) _
    refine XS.icmpNo X7.here hx rfl (hb hby at_127) rfl (XT.ii_ne_f (by decide)) ?_
    show Steps p.tables e below (T7.setTop (mkF m 130 #[.val (.int ps), .val (.long pa), .second, .val (.int pb), .val (.int pc0), .val (.int pc1), .val (.int pn), .val (.int ((ps &&& (2147483647 : Int32)) % (5 : Int32))), .val (.int fl), .val (.ref bo5), .val (.int (2 : Int32)), .val (.int (2 : Int32))] [])) _
    refine XS.iconst X7.here hx rfl (hb hby at_130) ?_
    show Steps p.tables e below (T7.setTop (mkF m 131 #[.val (.int ps), .val (.long pa), .second, .val (.int pb), .val (.int pc0), .val (.int pc1), .val (.int pn), .val (.int ((ps &&& (2147483647 : Int32)) % (5 : Int32))), .val (.int fl), .val (.ref bo5), .val (.int (2 : Int32)), .val (.int (2 : Int32))] [(.int (1 : Int32))])) _
    refine XS.goto X7.here hx rfl (pc0 := 131) (pc' := 135) rfl (hb hby at_131) (by decide) (by decide) ?_
    exact kt
  obtain ⟨fs, hr, hrun, hended, hRW⟩ := X7.leaveW (vm₁ := T5.vm) Sn5 (by rw [e7]; exact (Nat.le_refl _)) (v := some (.int (1 : Int32))) (fun h => by rw [Bd.returns] at h; cases h)
  refine ⟨_, _, pre8 _ ?_, hrun, hended, _, _, rfl, ?_, ?_, hRW.1, hRW.2.1, hRW.2.2.1, hRW.2.2.2.mono (by decide) (by decide)⟩
  · show Steps p.tables e below (T7.setTop (mkF m 135 #[.val (.int ps), .val (.long pa), .second, .val (.int pb), .val (.int pc0), .val (.int pc1), .val (.int pn), .val (.int ((ps &&& (2147483647 : Int32)) % (5 : Int32))), .val (.int fl), .val (.ref bo5), .val (.int (2 : Int32)), .val (.int (2 : Int32))] [(.int (1 : Int32))])) _
    exact retN X7 hx (t := .boolean) Bd.returns (by simp) (hb hby at_135) hr
  · show Q0 Z h0 n0 _ T7.heap _
    exact ⟨rfl, N7⟩
  · show CHr Z [("java/lang/String", 7)] s.vm s.heap T7.vm T7.heap
    rw [hh, e7]
    exact cr6.trans (CHv.at X7 hZ hEL C5.1)
theorem own_eqI {args : Array Value} {first s : State} {o : Option Outcome} {idx : List Nat} {t : Term} {k : Int32} (h : (Cond.eq t (.int k)).value args first o s idx = some true) : t.eval args first o idx s = some (.int k) := by
  obtain ⟨x, y, hx, hy, k1, -⟩ := cmp_v (Or.inl h)
  have hy' : y = .int k := (Option.some.inj hy).symm
  subst hy'
  cases x with
  | int z => rw [hx]; simp only [Cond.value, hx, hy] at h; simpa using h
  | _ => simp [Kin, Value.isRef] at k1
theorem own_len2 {args : Array Value} {s : State} {t : Term} {a : Addr} {cl : Cell} {k : Int32} (h : (Term.length t).eval args s none [] s = some (.int k)) (ht : t.eval args s none [] s = some (.ref a)) (hc : s.heap[a]? = some cl) : cl.slots.size < 2 ^ 31 ∧ cl.slots.size.toInt32 = k := by
  obtain ⟨a', cell, h1, h2, h3⟩ := Term.length_spec h
  cases ht.symm.trans h1
  cases hc.symm.trans (State.arrayAt?_spec h2).1
  refine ⟨?_, (Value.int.inj h3).symm⟩
  by_cases q : cl.slots.size < 2 ^ 31
  · exact q
  · exfalso
    simp [Term.eval, ht, h2, q] at h
theorem own_sub {Z : State} {args : Array Value} {idx : List Nat} {t : Term} {j : Int32} (h : t.eval args Z none idx Z = some (.int j)) : (Term.sub t (.int 128)).eval args Z none idx Z = some (.int (j - 128)) := by
  have h2 : (Term.int 128).eval args Z none idx Z = some (.int 128) := rfl
  simp only [Term.eval] at h2 ⊢
  rw [h]; rfl
theorem own_boxes {Z : State} {args : Array Value} {t : Term} {a : Addr} {c : Cell} {K : String} (et : ∀ idx, t.eval args Z none idx Z = some (.ref a)) (A : Arr Z Z.heap a c (.object K)) (q : c.slots.size < 2 ^ 31) (e : c.slots.size.toInt32 = 256)
    (h : (Cond.all t (.and (.exactly (.elem t (.index 0)) K) (.eq (.field (.elem t (.index 0)) K "value" "J") (.op1 .i2l (.sub (.index 0) (.int 128)))))).value args Z none Z [] = some true) :
    ∀ j : Int32, ¬ (j < 0 ∨ c.slots.size ≤ j.toNatClampNeg) → ∃ b : Addr, c.slots[j.toNatClampNeg]? = some (.ref b) ∧ Exa Z Z.heap b K := fun j hj => by
  have B := Bxs.start (val := fun j => .long (j - 128).toInt64) et A q e (by decide) h (fun X j nn hX => eqv_l (i2l_at (y := j - 128) (own_sub (idx_at nn))) hX)
  obtain ⟨b, h1, h2, -⟩ := B.2.2.2 j hj
  exact ⟨b, h1, h2⟩
set_option maxRecDepth 65536 in
set_option maxHeartbeats 40000000 in
theorem comes_1 {Post : Tables → Env → Array Value → State → Outcome → State → Prop} (hpost : ∀ tb e args s v u, (limb_1_1.after args s (.returned v) u = true ∧ limb_1_2.after args s (.returned v) u = true ∧ True) → ReturnedEndW s (.returned v) u (Jvm.fieldLocs frame_1_writes args s ++ Jvm.arrayLocs frame_1_arrays args s ++ Jvm.staticLocs frame_1_statics s) 16 1152 → Post tb e args s (.returned v) u) :
    ArmFor flags0 classFile x code maxLocals ret World_1 tables_1 room_1 Calls_1 rest_1 Pre_1 Post := by
  intro l hfl _ _ p e ha hc hk s m args below hf hA hF happ hP
  obtain ⟨hcalls, hrest, hpre⟩ := hP
  obtain ⟨-, -, -, hnamed, -, -, -, hat⟩ := (Spec.applies_iff hf).mp happ
  obtain ⟨hg, hn⟩ := and_e (Cond.before_iff.mp (show (Jvm.Cond.and given_1 narrow_1).before args s = true from hpre))
  obtain ⟨hg0, hg1⟩ := and_e hg
  obtain ⟨ga0, hgg0⟩ := and_e hg1
  obtain ⟨ga1, hgg1⟩ := and_e hgg0
  obtain ⟨ga2, hgg2⟩ := and_e hgg1
  obtain ⟨ga3, hgg3⟩ := and_e hgg2
  obtain ⟨ga4, hgg4⟩ := and_e hgg3
  have ga5 := hgg4
  obtain ⟨w0_, w1_, w2_, w3_, w4_, w5_, rfl⟩ : ∃ w0_ w1_ w2_ w3_ w4_ w5_ : Value, args = #[w0_, w1_, w2_, w3_, w4_, w5_] := by
    have hs : args.size = 6 := by simpa [Cond.value, given_1] using hg0
    obtain ⟨L⟩ := args
    match L, hs with
    | [w0_, w1_, w2_, w3_, w4_, w5_], _ => exact ⟨w0_, w1_, w2_, w3_, w4_, w5_, rfl⟩
  have hw := fun d (hd : d ∈ tables_1) => atoms_spec (ws := Jvm.Cond.code x code maxLocals ret :: tables_1) hat d (List.mem_cons_of_mem _ hd)
  have hfit : Fit s := fun {y c} hc i hi => by
    obtain ⟨ha, rfl⟩ := Array.getElem?_eq_some_iff.mp hc
    have q := List.all_eq_true.mp ((Array.all_eq_true_iff_forall_mem.mp hF) _ (Array.getElem_mem ha)) i (List.mem_range.mpr hi)
    simpa [Array.getElem?_eq_getElem hi] using q
  obtain ⟨i0, ei0⟩ := is_v ga0
  obtain rfl : w0_ = (.int i0) := Option.some.inj ei0
  obtain ⟨i1, ei1⟩ := isL_v ga1
  obtain rfl : w1_ = (.long i1) := Option.some.inj ei1
  obtain ⟨i2, ei2⟩ := is_v ga2
  obtain rfl : w2_ = (.int i2) := Option.some.inj ei2
  obtain ⟨i3, ei3⟩ := is_v ga3
  obtain rfl : w3_ = (.int i3) := Option.some.inj ei3
  obtain ⟨i4, ei4⟩ := is_v ga4
  obtain rfl : w4_ = (.int i4) := Option.some.inj ei4
  obtain ⟨i5, ei5⟩ := is_v ga5
  obtain rfl : w5_ = (.int i5) := Option.some.inj ei5
  obtain ⟨hsets, hown0⟩ := atoms_of _ (rest_1_c_eq ▸ (show rest_1_c.before _ s = true from hrest))
  obtain ⟨ca, n_L⟩ := arr_v (Cond.before_iff.mp (hsets _ (List.mem_of_getElem? (i := 2) rfl)))
  have S_L : Sta s s.heap "java/lang/Long$LongCache" "cache" "[Ljava/lang/Long;" (.ref ca) := Sta.start n_L (Or.inl (hsets _ (List.mem_of_getElem? (i := 1) rfl)))
  obtain ⟨cc, Ar⟩ := Arr.start n_L (Cond.before_iff.mp (hsets _ (List.mem_of_getElem? (i := 2) rfl)))
  obtain ⟨hs1, hs2⟩ := own_len2 (own_eqI (Cond.before_iff.mp (hsets _ (List.mem_of_getElem? (i := 4) rfl)))) n_L Ar.1
  have hsz : cc.slots.size = 256 := by
    have q := len_toInt hs1
    rw [hs2] at q
    have q' : (256 : Int) = (cc.slots.size : Int) := q
    omega
  have hB := own_boxes (fun idx => n_L) Ar hs1 hs2 (Cond.before_iff.mp (hsets _ (List.mem_of_getElem? (i := 5) rfl)))
  obtain ⟨bFALSE, n_FALSE⟩ := exa_v (Cond.before_iff.mp (hsets _ (List.mem_of_getElem? (i := 8) rfl)))
  have S_FALSE : Sta s s.heap "java/lang/Boolean" "FALSE" "Ljava/lang/Boolean;" (.ref bFALSE) := Sta.start n_FALSE (Or.inl (hsets _ (List.mem_of_getElem? (i := 7) rfl)))
  have E_FALSE : Exa s s.heap bFALSE "java/lang/Boolean" := Exa.start n_FALSE (Cond.before_iff.mp (hsets _ (List.mem_of_getElem? (i := 8) rfl)))
  obtain ⟨bTRUE, n_TRUE⟩ := exa_v (Cond.before_iff.mp (hsets _ (List.mem_of_getElem? (i := 21) rfl)))
  have S_TRUE : Sta s s.heap "java/lang/Boolean" "TRUE" "Ljava/lang/Boolean;" (.ref bTRUE) := Sta.start n_TRUE (Or.inl (hsets _ (List.mem_of_getElem? (i := 20) rfl)))
  have E_TRUE : Exa s s.heap bTRUE "java/lang/Boolean" := Exa.start n_TRUE (Cond.before_iff.mp (hsets _ (List.mem_of_getElem? (i := 21) rfl)))
  obtain ⟨zc, n_C⟩ := is_v (Cond.before_iff.mp (hsets _ (List.mem_of_getElem? (i := 11) rfl)))
  have S_C : Sta s s.heap "java/lang/String" "COMPACT_STRINGS" "Z" (.int zc) := Sta.start n_C (Or.inl (hsets _ (List.mem_of_getElem? (i := 10) rfl)))
  have hzc : ¬ zc = 0 := gotF (Cond.eq_ints n_C (Term.int_eval 0)) (not_v (Cond.before_iff.mp (hsets _ (List.mem_of_getElem? (i := 12) rfl))))
  by_cases hk2 : ((i0 &&& (2147483647 : Int32)) % (5 : Int32)) = (2 : Int32) ∧ ((i5 &&& (2147483647 : Int32)) % (3 : Int32)) = (0 : Int32)
  · have hEL : EW s _ [("java/lang/String", 7)] := EW.cons (text := "") (hw _ (List.mem_of_getElem? (i := 86) rfl)) (by decide) EW.nil
    have hCH : CHv s [("java/lang/String", 7)] s.vm s.heap := CHv.start hEL (fun p hp => hcalls.1 p hp) (hsets _ (List.mem_of_getElem? (i := 12) rfl)) (hw _ (List.mem_of_getElem? (i := 74) rfl)) (hw _ (List.mem_of_getElem? (i := 58) rfl))
    obtain ⟨n, o, h1, h2, h3, _, L, rfl, ⟨rfl, N⟩, -, hq⟩ := rmw0 l s _ hw tables_1 i0 i1 i2 i3 i4 i5 s.heap s.heap.size (Nat.le_refl _) hk2.1 hk2.2 hEL p e ha hc hk s m _ below hf ((Spec.applies_iff_loose hf).mp happ).1 ⟨rfl, State.Warmed39.refl s, rfl, hCH⟩ trivial
    exact ⟨n, _, h1, h2, h3, hpost _ _ _ _ _ _ ⟨Cond.after_iff.mpr rfl, Cond.after_iff.mpr (eq_i res_at (Term.int_eval (1)) rfl), trivial⟩ ⟨hq.1, hq.2.1, hq.2.2.1, (hq.2.2.2.sift fun y hy => Or.inr (N y hy)).mono (by decide) (by decide)⟩⟩
  · obtain ⟨n, o, h1, h2, h3, _, L, rfl, ⟨rfl, N⟩, hq⟩ := rm0 l s _ hw tables_1 i0 i1 i2 i3 i4 i5 zc ca bTRUE bFALSE cc s.heap s.heap.size (Nat.le_refl _) S_L Ar hsz hB S_C hzc S_TRUE E_TRUE S_FALSE E_FALSE (fun a b => hk2 ⟨a, b⟩) p e ha hc hk s m _ below hf ((Spec.applies_iff_loose hf).mp happ).1 ⟨rfl, State.Warmed39.refl s, rfl⟩ trivial
    exact ⟨n, _, h1, h2, h3, hpost _ _ _ _ _ _ ⟨Cond.after_iff.mpr rfl, Cond.after_iff.mpr (eq_i res_at (Term.int_eval (1)) rfl), trivial⟩ (ReturnedEndW.of_narrow hq.1 hq.2.1 ((hq.2.2.sift fun y hy => Or.inr (N y hy)).mono (by decide) (by decide)))⟩
theorem main_1_1 : Claimed_1_1 := comes_1 fun _ _ _ _ _ _ h hF => ⟨h.1, hF⟩
theorem main_1_2 : Claimed_1_2 := comes_1 fun _ _ _ _ _ _ h hF => ⟨h.2.1, hF⟩
end Jvm.Pilot.@@N@@
namespace Jvm.Pilot.@@N@@
open Jvm Jvm.ClassFile Sem Op Lib Jvm.Free Jvm.Stand Jvm.Pilot.@@N@@.Jvm.D
/-! MADE BY PROGRAM (witnessworld.py) out of the Statement's table words and the real class files: 26 classes; the members and pool entries that the words name. The judged class is class 1, her method 2. -/
namespace start1
open Jvm.ClassFile
def u (s : String) : CpInfo := .utf8 (stringToUtf16 s)
/-- a pool by its gaps: so many unusable entries, then the entry; so many at the end -/
def gap : Nat → List CpInfo → List CpInfo
  | 0, r => r
  | n + 1, r => .unusable :: gap n r
def poolList (es : List (Nat × CpInfo)) (last : Nat) : List CpInfo := es.foldr (fun e r => gap e.1 (e.2 :: r)) (gap last [])
def pool (es : List (Nat × CpInfo)) (last : Nat) : Array CpInfo := ⟨poolList es last⟩
def fileOf (pool : Array CpInfo) (this : Nat) (attrs : Array Attribute := #[]) (ms : Array MethodInfo := #[]) (fl : Nat := 33) (sup : Nat := 0) (ifs : Array Nat := #[]) (fds : Array FieldInfo := #[]) : ClassFile where
  minorVersion := 0
  majorVersion := 65
  constantPool := pool
  accessFlags := fl
  thisClass := this
  superClass := sup
  interfaces := ifs
  fields := fds
  methods := ms
  attributes := attrs
def plain (name : String) (sup : Option ClassId) : Class where
  name := name
  kind := .ordinary
  loader := none
  accessFlags := 33
  super := sup
  interfaces := #[]
  cf := none
  fields := #[]
  methods := #[]
  instanceTypes := #[]
  staticTypes := #[]
  resolved := #[]
  callSites := []
  init := .initialized
  statics := none
  mirror := none

def pool0 : Array CpInfo := pool [(5, u "<init>"), (0, u "()V"), (1, .class_ 10), (1, u "java/lang/Object")] 113

def k0c0 : Code := { maxStack := 0, maxLocals := 1, code := object_method_1_code, exceptionTable := #[], attributes := #[] }
def k0m0 : Method := { name := "<init>", desc := "()V", sig := { parameters := [], returnType := none }, accessFlags := 1, code := some k0c0 }
/-- java/lang/Object -/
def k0 : Class := { plain "java/lang/Object" none with
  accessFlags := 33
  interfaces := #[]
  cf := some (fileOf pool0 8 #[] #[{ accessFlags := 1, nameIndex := 5, descriptorIndex := 6, attributes := #[] }] 33 0 #[] #[])
  fields := #[]
  methods := #[k0m0]
  instanceTypes := #[]
  staticTypes := #[]
  resolved := Array.replicate 124 none
  statics := none }

def pool1 : Array CpInfo := pool [(2, .class_ 4), (1, u "java/lang/Object"), (0, u "<init>"), (0, u "()V"), (0, .integer 2147483647), (0, .class_ 9), (0, u "java/lang/String"), (0, .methodref 8 11), (0, .nameAndType 5 12), (0, u "([C)V"), (0, .methodref 14 15), (0, .class_ 16), (0, .nameAndType 17 18), (0, u "java/lang/Long"), (0, u "valueOf"), (0, u "(J)Ljava/lang/Long;"), (0, .methodref 20 21), (0, .class_ 22), (0, .nameAndType 17 23), (0, u "java/lang/Double"), (0, u "(D)Ljava/lang/Double;"), (0, .methodref 25 26), (0, .class_ 27), (0, .nameAndType 28 29), (0, u "com/example/hornbrook/hornbrook/ValuesKindPinLaw"), (0, u "text"), (0, u "(III)Ljava/lang/String;"), (0, .fieldref 31 32), (0, .class_ 33), (0, .nameAndType 34 35), (0, u "java/lang/Boolean"), (0, u "TRUE"), (0, u "Ljava/lang/Boolean;"), (0, .fieldref 31 37), (0, .nameAndType 38 35), (0, u "FALSE"), (0, .methodref 40 41), (0, .class_ 42), (0, .nameAndType 43 44), (0, u "com/example/hornbrook/hornbrook/Values"), (0, u "kind"), (0, u "(Ljava/lang/Object;)B"), (3, u "law"), (0, u "(IJIIII)Z")] 2

def k1m0 : Method := { name := "<init>", desc := "()V", sig := { parameters := [], returnType := none }, accessFlags := 2, code := none }
def k1c1 : Code := { maxStack := 6, maxLocals := 6, code := method_2_code, exceptionTable := #[], attributes := #[] }
def k1m1 : Method := { name := "text", desc := "(III)Ljava/lang/String;", sig := { parameters := [.int, .int, .int], returnType := some (.object "java/lang/String") }, accessFlags := 10, code := some k1c1 }
def k1c2 : Code := { maxStack := 4, maxLocals := 12, code := code, exceptionTable := #[], attributes := #[] }
def k1m2 : Method := { name := "law", desc := "(IJIIII)Z", sig := { parameters := [.int, .long, .int, .int, .int, .int], returnType := some .boolean }, accessFlags := 9, code := some k1c2 }
/-- com/example/hornbrook/hornbrook/ValuesKindPinLaw -/
def k1 : Class := { plain "com/example/hornbrook/hornbrook/ValuesKindPinLaw" (some 0) with
  accessFlags := 49
  interfaces := #[]
  cf := some (fileOf pool1 25 #[] #[{ accessFlags := 2, nameIndex := 5, descriptorIndex := 6, attributes := #[] }, { accessFlags := 10, nameIndex := 28, descriptorIndex := 29, attributes := #[] }, { accessFlags := 9, nameIndex := 48, descriptorIndex := 49, attributes := #[] }] 49 2 #[] #[])
  fields := #[]
  methods := #[k1m0, k1m1, k1m2]
  instanceTypes := #[]
  staticTypes := #[]
  resolved := Array.replicate 52 none
  statics := none }

def pool2 : Array CpInfo := pool [(1, .class_ 2), (0, u "java/io/Serializable"), (0, .class_ 4), (0, u "java/lang/Object")] 2

/-- java/io/Serializable -/
def k2 : Class := { plain "java/io/Serializable" (some 0) with
  accessFlags := 1537
  interfaces := #[]
  cf := some (fileOf pool2 1 #[] #[] 1537 3 #[] #[])
  fields := #[]
  methods := #[]
  instanceTypes := #[]
  staticTypes := #[]
  resolved := Array.replicate 7 none
  statics := none }

def pool3 : Array CpInfo := pool [(1, .methodref 2 3), (0, .class_ 4), (0, .nameAndType 5 6), (0, u "java/lang/Object"), (0, u "<init>"), (0, u "()V"), (1, .class_ 10), (1, u "java/lang/Number"), (2, .class_ 14), (0, u "java/io/Serializable"), (0, u "serialVersionUID"), (0, u "J")] 20

def k3c0 : Code := { maxStack := 1, maxLocals := 1, code := jdk_18_method_1_code, exceptionTable := #[], attributes := #[] }
def k3m0 : Method := { name := "<init>", desc := "()V", sig := { parameters := [], returnType := none }, accessFlags := 1, code := some k3c0 }
/-- java/lang/Number -/
def k3 : Class := { plain "java/lang/Number" (some 0) with
  accessFlags := 1057
  interfaces := #[2]
  cf := some (fileOf pool3 8 #[] #[{ accessFlags := 1, nameIndex := 5, descriptorIndex := 6, attributes := #[] }] 1057 2 #[13] #[{ accessFlags := 26, nameIndex := 15, descriptorIndex := 16, attributes := #[] }])
  fields := #[{ name := "serialVersionUID", type := .long, accessFlags := 26, slot := 0, constantValue := 0 }]
  methods := #[k3m0]
  instanceTypes := #[]
  staticTypes := #[.long]
  resolved := Array.replicate 37 none
  statics := none }

def pool4 : Array CpInfo := pool [(1, .class_ 2), (0, u "java/lang/Comparable"), (0, .class_ 4), (0, u "java/lang/Object")] 7

/-- java/lang/Comparable -/
def k4 : Class := { plain "java/lang/Comparable" (some 0) with
  accessFlags := 1537
  interfaces := #[]
  cf := some (fileOf pool4 1 #[] #[] 1537 3 #[] #[])
  fields := #[]
  methods := #[]
  instanceTypes := #[]
  staticTypes := #[]
  resolved := Array.replicate 12 none
  statics := none }

def pool5 : Array CpInfo := pool [(1, .class_ 2), (0, u "java/lang/constant/Constable"), (0, .class_ 4), (0, u "java/lang/Object")] 6

/-- java/lang/constant/Constable -/
def k5 : Class := { plain "java/lang/constant/Constable" (some 0) with
  accessFlags := 1537
  interfaces := #[]
  cf := some (fileOf pool5 1 #[] #[] 1537 3 #[] #[])
  fields := #[]
  methods := #[]
  instanceTypes := #[]
  staticTypes := #[]
  resolved := Array.replicate 11 none
  statics := none }

def pool6 : Array CpInfo := pool [(1, .class_ 2), (0, u "java/lang/constant/ConstantDesc"), (0, .class_ 4), (0, u "java/lang/Object")] 32

/-- java/lang/constant/ConstantDesc -/
def k6 : Class := { plain "java/lang/constant/ConstantDesc" (some 0) with
  accessFlags := 1537
  interfaces := #[]
  cf := some (fileOf pool6 1 #[] #[] 1537 3 #[] #[])
  fields := #[]
  methods := #[]
  instanceTypes := #[]
  staticTypes := #[]
  resolved := Array.replicate 37 none
  statics := none }

def pool7 : Array CpInfo := pool [(1, .class_ 2), (0, u "java/lang/Long"), (55, .nameAndType 59 60), (0, u "<init>"), (0, u "()V"), (24, u "valueOf"), (143, u "(J)Ljava/lang/Long;"), (0, .long 18446744073709551488), (1, .long 127), (1, .fieldref 235 236), (0, .class_ 237), (0, .nameAndType 238 239), (0, u "java/lang/Long$LongCache"), (0, u "cache"), (0, u "[Ljava/lang/Long;"), (0, .methodref 1 241), (0, .nameAndType 59 242), (0, u "(J)V"), (27, .methodref 271 58), (0, .class_ 272), (0, u "java/lang/Number"), (0, .fieldref 1 274), (0, .nameAndType 275 276), (0, u "value"), (0, u "J"), (84, u "TYPE"), (0, u "Ljava/lang/Class;"), (0, .class_ 364), (0, u "java/lang/Comparable"), (0, .class_ 366), (0, u "java/lang/constant/Constable"), (0, .class_ 368), (0, u "java/lang/constant/ConstantDesc"), (0, u "MIN_VALUE"), (1, u "MAX_VALUE"), (4, u "SIZE"), (0, u "I"), (1, u "BYTES"), (1, u "serialVersionUID")] 142

def k7c0 : Code := { maxStack := 4, maxLocals := 3, code := jdk_35_method_24_code, exceptionTable := #[], attributes := #[] }
def k7m0 : Method := { name := "valueOf", desc := "(J)Ljava/lang/Long;", sig := { parameters := [.long], returnType := some (.object "java/lang/Long") }, accessFlags := 9, code := some k7c0 }
def k7c1 : Code := { maxStack := 3, maxLocals := 3, code := jdk_35_method_26_code, exceptionTable := #[], attributes := #[] }
def k7m1 : Method := { name := "<init>", desc := "(J)V", sig := { parameters := [.long], returnType := none }, accessFlags := 1, code := some k7c1 }
/-- java/lang/Long -/
def k7 : Class := { plain "java/lang/Long" (some 3) with
  accessFlags := 49
  interfaces := #[4, 5, 6]
  cf := some (fileOf pool7 1 #[.nestMembers #[235]] #[{ accessFlags := 9, nameIndex := 85, descriptorIndex := 229, attributes := #[] }, { accessFlags := 1, nameIndex := 59, descriptorIndex := 242, attributes := #[] }] 49 271 #[363, 365, 367] #[{ accessFlags := 25, nameIndex := 369, descriptorIndex := 276, attributes := #[] }, { accessFlags := 25, nameIndex := 371, descriptorIndex := 276, attributes := #[] }, { accessFlags := 25, nameIndex := 361, descriptorIndex := 362, attributes := #[] }, { accessFlags := 18, nameIndex := 275, descriptorIndex := 276, attributes := #[] }, { accessFlags := 25, nameIndex := 376, descriptorIndex := 377, attributes := #[] }, { accessFlags := 25, nameIndex := 379, descriptorIndex := 377, attributes := #[] }, { accessFlags := 26, nameIndex := 381, descriptorIndex := 276, attributes := #[] }])
  fields := #[{ name := "MIN_VALUE", type := .long, accessFlags := 25, slot := 0, constantValue := 0 }, { name := "MAX_VALUE", type := .long, accessFlags := 25, slot := 1, constantValue := 0 }, { name := "TYPE", type := (.object "java/lang/Class"), accessFlags := 25, slot := 2, constantValue := 0 }, { name := "value", type := .long, accessFlags := 18, slot := 0, constantValue := 0 }, { name := "SIZE", type := .int, accessFlags := 25, slot := 3, constantValue := 0 }, { name := "BYTES", type := .int, accessFlags := 25, slot := 4, constantValue := 0 }, { name := "serialVersionUID", type := .long, accessFlags := 26, slot := 5, constantValue := 0 }]
  methods := #[k7m0, k7m1]
  instanceTypes := #[.long]
  staticTypes := #[.long, .long, (.object "java/lang/Class"), .int, .int, .long]
  resolved := Array.replicate 524 none
  statics := none }

def pool8 : Array CpInfo := pool [(2, .class_ 4), (1, u "java/lang/Object"), (0, u "<init>"), (0, u "()V"), (0, .class_ 8), (0, u "java/lang/Long"), (7, .class_ 18), (1, u "java/lang/Long$LongCache"), (0, u "$assertionsDisabled"), (0, u "Z"), (8, u "archivedCache"), (0, u "[Ljava/lang/Long;"), (7, u "cache")] 24

def k8m0 : Method := { name := "<init>", desc := "()V", sig := { parameters := [], returnType := none }, accessFlags := 2, code := none }
/-- java/lang/Long$LongCache -/
def k8 : Class := { plain "java/lang/Long$LongCache" (some 0) with
  accessFlags := 48
  interfaces := #[]
  cf := some (fileOf pool8 16 #[.nestHost 7] #[{ accessFlags := 2, nameIndex := 5, descriptorIndex := 6, attributes := #[] }] 48 2 #[] #[{ accessFlags := 24, nameIndex := 38, descriptorIndex := 30, attributes := #[] }, { accessFlags := 8, nameIndex := 29, descriptorIndex := 30, attributes := #[] }, { accessFlags := 4120, nameIndex := 19, descriptorIndex := 20, attributes := #[] }])
  fields := #[{ name := "cache", type := (.array (.object "java/lang/Long")), accessFlags := 24, slot := 0, constantValue := 0 }, { name := "archivedCache", type := (.array (.object "java/lang/Long")), accessFlags := 8, slot := 1, constantValue := 0 }, { name := "$assertionsDisabled", type := .boolean, accessFlags := 4120, slot := 2, constantValue := 0 }]
  methods := #[k8m0]
  instanceTypes := #[]
  staticTypes := #[(.array (.object "java/lang/Long")), (.array (.object "java/lang/Long")), .boolean]
  resolved := Array.replicate 63 none
  statics := some 0 }

def pool9 : Array CpInfo := pool [(2, .class_ 4), (1, u "java/lang/Object"), (0, u "<init>"), (0, u "()V"), (3, .class_ 11), (0, u "java/lang/Long"), (0, .class_ 13), (0, u "com/example/hornbrook/hornbrook/Values"), (0, .class_ 15), (0, u "java/lang/Double"), (0, .class_ 17), (0, u "java/lang/String"), (189, u "EXACT_POWERS"), (0, u "[D"), (58, u "INTEGER"), (0, u "B"), (2, u "FLOAT"), (1, u "TEXT"), (1, u "BOOLEAN"), (1, u "MISSING"), (1, u "SPREAD"), (0, u "J"), (0, u "MOST_TEXT_BYTES"), (0, u "I"), (1, u "RANK_BITS"), (0, u "EXACT_INTEGERS"), (0, u "MOST_EXPONENT"), (2, u "kind"), (0, u "(Ljava/lang/Object;)B")] 25

def k9m0 : Method := { name := "<init>", desc := "()V", sig := { parameters := [], returnType := none }, accessFlags := 2, code := none }
def k9c1 : Code := { maxStack := 1, maxLocals := 2, code := prog_203_method_2_code, exceptionTable := #[], attributes := #[] }
def k9m1 : Method := { name := "kind", desc := "(Ljava/lang/Object;)B", sig := { parameters := [(.object "java/lang/Object")], returnType := some .byte }, accessFlags := 8, code := some k9c1 }
/-- com/example/hornbrook/hornbrook/Values -/
def k9 : Class := { plain "com/example/hornbrook/hornbrook/Values" (some 0) with
  accessFlags := 48
  interfaces := #[]
  cf := some (fileOf pool9 12 #[] #[{ accessFlags := 2, nameIndex := 5, descriptorIndex := 6, attributes := #[] }, { accessFlags := 8, nameIndex := 289, descriptorIndex := 290, attributes := #[] }] 48 2 #[] #[{ accessFlags := 24, nameIndex := 267, descriptorIndex := 268, attributes := #[] }, { accessFlags := 24, nameIndex := 271, descriptorIndex := 268, attributes := #[] }, { accessFlags := 24, nameIndex := 273, descriptorIndex := 268, attributes := #[] }, { accessFlags := 24, nameIndex := 275, descriptorIndex := 268, attributes := #[] }, { accessFlags := 24, nameIndex := 277, descriptorIndex := 268, attributes := #[] }, { accessFlags := 24, nameIndex := 279, descriptorIndex := 280, attributes := #[] }, { accessFlags := 24, nameIndex := 281, descriptorIndex := 282, attributes := #[] }, { accessFlags := 26, nameIndex := 284, descriptorIndex := 282, attributes := #[] }, { accessFlags := 26, nameIndex := 285, descriptorIndex := 280, attributes := #[] }, { accessFlags := 26, nameIndex := 207, descriptorIndex := 208, attributes := #[] }, { accessFlags := 26, nameIndex := 286, descriptorIndex := 282, attributes := #[] }])
  fields := #[{ name := "INTEGER", type := .byte, accessFlags := 24, slot := 0, constantValue := 0 }, { name := "FLOAT", type := .byte, accessFlags := 24, slot := 1, constantValue := 0 }, { name := "TEXT", type := .byte, accessFlags := 24, slot := 2, constantValue := 0 }, { name := "BOOLEAN", type := .byte, accessFlags := 24, slot := 3, constantValue := 0 }, { name := "MISSING", type := .byte, accessFlags := 24, slot := 4, constantValue := 0 }, { name := "SPREAD", type := .long, accessFlags := 24, slot := 5, constantValue := 0 }, { name := "MOST_TEXT_BYTES", type := .int, accessFlags := 24, slot := 6, constantValue := 0 }, { name := "RANK_BITS", type := .int, accessFlags := 26, slot := 7, constantValue := 0 }, { name := "EXACT_INTEGERS", type := .long, accessFlags := 26, slot := 8, constantValue := 0 }, { name := "EXACT_POWERS", type := (.array .double), accessFlags := 26, slot := 9, constantValue := 0 }, { name := "MOST_EXPONENT", type := .int, accessFlags := 26, slot := 10, constantValue := 0 }]
  methods := #[k9m0, k9m1]
  instanceTypes := #[]
  staticTypes := #[.byte, .byte, .byte, .byte, .byte, .long, .int, .int, .long, (.array .double), .int]
  resolved := Array.replicate 316 none
  statics := none }

def pool10 : Array CpInfo := pool [(1, .class_ 2), (0, u "java/lang/Double"), (17, u "<init>"), (84, .methodref 1 106), (0, .nameAndType 20 107), (0, u "(D)V"), (5, .methodref 114 115), (0, .class_ 116), (0, .nameAndType 20 117), (0, u "java/lang/Number"), (0, u "()V"), (0, .fieldref 1 119), (0, .nameAndType 120 121), (0, u "value"), (0, u "D"), (51, u "TYPE"), (0, u "Ljava/lang/Class;"), (0, .class_ 176), (0, u "java/lang/Comparable"), (0, .class_ 178), (0, u "java/lang/constant/Constable"), (0, .class_ 180), (0, u "java/lang/constant/ConstantDesc"), (0, u "POSITIVE_INFINITY"), (3, u "NEGATIVE_INFINITY"), (2, u "NaN"), (2, u "MAX_VALUE"), (0, u "MIN_NORMAL"), (0, u "MIN_VALUE"), (2, u "SIZE"), (0, u "I"), (1, u "PRECISION"), (1, u "MAX_EXPONENT"), (1, u "MIN_EXPONENT"), (1, u "BYTES"), (3, u "serialVersionUID"), (0, u "J"), (14, u "valueOf"), (5, u "(D)Ljava/lang/Double;")] 58

def k10c0 : Code := { maxStack := 4, maxLocals := 2, code := jdk_117_method_4_code, exceptionTable := #[], attributes := #[] }
def k10m0 : Method := { name := "valueOf", desc := "(D)Ljava/lang/Double;", sig := { parameters := [.double], returnType := some (.object "java/lang/Double") }, accessFlags := 9, code := some k10c0 }
def k10c1 : Code := { maxStack := 3, maxLocals := 3, code := jdk_117_method_9_code, exceptionTable := #[], attributes := #[] }
def k10m1 : Method := { name := "<init>", desc := "(D)V", sig := { parameters := [.double], returnType := none }, accessFlags := 1, code := some k10c1 }
/-- java/lang/Double -/
def k10 : Class := { plain "java/lang/Double" (some 3) with
  accessFlags := 49
  interfaces := #[4, 5, 6]
  cf := some (fileOf pool10 1 #[] #[{ accessFlags := 9, nameIndex := 225, descriptorIndex := 231, attributes := #[] }, { accessFlags := 1, nameIndex := 20, descriptorIndex := 107, attributes := #[] }] 49 114 #[175, 177, 179] #[{ accessFlags := 25, nameIndex := 181, descriptorIndex := 121, attributes := #[] }, { accessFlags := 25, nameIndex := 185, descriptorIndex := 121, attributes := #[] }, { accessFlags := 25, nameIndex := 188, descriptorIndex := 121, attributes := #[] }, { accessFlags := 25, nameIndex := 191, descriptorIndex := 121, attributes := #[] }, { accessFlags := 25, nameIndex := 192, descriptorIndex := 121, attributes := #[] }, { accessFlags := 25, nameIndex := 193, descriptorIndex := 121, attributes := #[] }, { accessFlags := 25, nameIndex := 196, descriptorIndex := 197, attributes := #[] }, { accessFlags := 25, nameIndex := 199, descriptorIndex := 197, attributes := #[] }, { accessFlags := 25, nameIndex := 201, descriptorIndex := 197, attributes := #[] }, { accessFlags := 25, nameIndex := 203, descriptorIndex := 197, attributes := #[] }, { accessFlags := 25, nameIndex := 205, descriptorIndex := 197, attributes := #[] }, { accessFlags := 25, nameIndex := 173, descriptorIndex := 174, attributes := #[] }, { accessFlags := 18, nameIndex := 120, descriptorIndex := 121, attributes := #[] }, { accessFlags := 26, nameIndex := 209, descriptorIndex := 210, attributes := #[] }])
  fields := #[{ name := "POSITIVE_INFINITY", type := .double, accessFlags := 25, slot := 0, constantValue := 0 }, { name := "NEGATIVE_INFINITY", type := .double, accessFlags := 25, slot := 1, constantValue := 0 }, { name := "NaN", type := .double, accessFlags := 25, slot := 2, constantValue := 0 }, { name := "MAX_VALUE", type := .double, accessFlags := 25, slot := 3, constantValue := 0 }, { name := "MIN_NORMAL", type := .double, accessFlags := 25, slot := 4, constantValue := 0 }, { name := "MIN_VALUE", type := .double, accessFlags := 25, slot := 5, constantValue := 0 }, { name := "SIZE", type := .int, accessFlags := 25, slot := 6, constantValue := 0 }, { name := "PRECISION", type := .int, accessFlags := 25, slot := 7, constantValue := 0 }, { name := "MAX_EXPONENT", type := .int, accessFlags := 25, slot := 8, constantValue := 0 }, { name := "MIN_EXPONENT", type := .int, accessFlags := 25, slot := 9, constantValue := 0 }, { name := "BYTES", type := .int, accessFlags := 25, slot := 10, constantValue := 0 }, { name := "TYPE", type := (.object "java/lang/Class"), accessFlags := 25, slot := 11, constantValue := 0 }, { name := "value", type := .double, accessFlags := 18, slot := 0, constantValue := 0 }, { name := "serialVersionUID", type := .long, accessFlags := 26, slot := 12, constantValue := 0 }]
  methods := #[k10m0, k10m1]
  instanceTypes := #[.double]
  staticTypes := #[.double, .double, .double, .double, .double, .double, .int, .int, .int, .int, .int, (.object "java/lang/Class"), .long]
  resolved := Array.replicate 290 none
  statics := none }

def pool11 : Array CpInfo := pool [(2, .class_ 4), (1, u "java/lang/Object"), (3, .class_ 10), (1, u "java/lang/Boolean"), (0, u "value"), (0, u "Z"), (16, u "TRUE"), (0, u "Ljava/lang/Boolean;"), (2, u "FALSE"), (53, u "TYPE"), (0, u "Ljava/lang/Class;"), (0, .class_ 90), (0, u "java/io/Serializable"), (0, .class_ 92), (0, u "java/lang/Comparable"), (0, .class_ 94), (0, u "java/lang/constant/Constable"), (2, u "serialVersionUID"), (0, u "J")] 53

/-- java/lang/Boolean -/
def k11 : Class := { plain "java/lang/Boolean" (some 0) with
  accessFlags := 49
  interfaces := #[2, 4, 5]
  cf := some (fileOf pool11 8 #[] #[] 49 2 #[89, 91, 93] #[{ accessFlags := 25, nameIndex := 29, descriptorIndex := 30, attributes := #[] }, { accessFlags := 25, nameIndex := 33, descriptorIndex := 30, attributes := #[] }, { accessFlags := 25, nameIndex := 87, descriptorIndex := 88, attributes := #[] }, { accessFlags := 18, nameIndex := 11, descriptorIndex := 12, attributes := #[] }, { accessFlags := 26, nameIndex := 97, descriptorIndex := 98, attributes := #[] }])
  fields := #[{ name := "TRUE", type := (.object "java/lang/Boolean"), accessFlags := 25, slot := 0, constantValue := 0 }, { name := "FALSE", type := (.object "java/lang/Boolean"), accessFlags := 25, slot := 1, constantValue := 0 }, { name := "TYPE", type := (.object "java/lang/Class"), accessFlags := 25, slot := 2, constantValue := 0 }, { name := "value", type := .boolean, accessFlags := 18, slot := 0, constantValue := 0 }, { name := "serialVersionUID", type := .long, accessFlags := 26, slot := 3, constantValue := 0 }]
  methods := #[]
  instanceTypes := #[.boolean]
  staticTypes := #[(.object "java/lang/Boolean"), (.object "java/lang/Boolean"), (.object "java/lang/Class"), .long]
  resolved := Array.replicate 152 none
  statics := some 1 }

def pool12 : Array CpInfo := pool [(2, .class_ 4), (1, u "java/lang/CharSequence"), (42, .class_ 48), (0, u "java/lang/CharSequence$1CodePointIterator"), (10, .class_ 60), (0, u "java/lang/CharSequence$1CharIterator"), (5, .class_ 67), (0, u "java/lang/Object")] 63

/-- java/lang/CharSequence -/
def k12 : Class := { plain "java/lang/CharSequence" (some 0) with
  accessFlags := 1537
  interfaces := #[]
  cf := some (fileOf pool12 2 #[.nestMembers #[47, 59]] #[] 1537 66 #[] #[])
  fields := #[]
  methods := #[]
  instanceTypes := #[]
  staticTypes := #[]
  resolved := Array.replicate 131 none
  statics := none }

def pool13 : Array CpInfo := pool [(1, .methodref 2 3), (0, .class_ 4), (0, .nameAndType 5 6), (0, u "java/lang/Object"), (0, u "<init>"), (0, u "()V"), (0, .string 8), (0, u ""), (0, .fieldref 10 11), (0, .class_ 12), (0, .nameAndType 13 14), (0, u "java/lang/String"), (0, u "value"), (0, u "[B"), (0, .fieldref 10 16), (0, .nameAndType 17 18), (0, u "coder"), (0, u "B"), (2, u "hash"), (0, u "I"), (2, u "hashIsZero"), (0, u "Z"), (0, .methodref 10 28), (0, .nameAndType 5 29), (0, u "([CIILjava/lang/Void;)V"), (8, .fieldref 10 39), (0, .nameAndType 40 26), (0, u "COMPACT_STRINGS"), (1, .class_ 44), (1, u "java/lang/StringUTF16"), (0, u "compress"), (1, .methodref 42 48), (0, .nameAndType 49 50), (0, u "coderFromArrayLen"), (0, u "([BI)B"), (126, .methodref 42 178), (0, .nameAndType 45 179), (0, u "([CII)[B"), (395, .class_ 576), (0, u "java/lang/CharSequence"), (22, u "CASE_INSENSITIVE_ORDER"), (0, u "Ljava/util/Comparator;"), (409, u "([C)V"), (90, u "serialPersistentFields"), (0, u "[Ljava/io/ObjectStreamField;"), (0, .class_ 1104), (0, u "java/lang/String$CaseInsensitiveComparator"), (1, .class_ 1107), (0, u "java/io/Serializable"), (0, .class_ 1109), (0, u "java/lang/Comparable"), (0, .class_ 1111), (0, u "java/lang/constant/Constable"), (0, .class_ 1113), (0, u "java/lang/constant/ConstantDesc"), (2, u "serialVersionUID"), (0, u "J"), (3, u "REPL"), (0, u "C"), (2, u "LATIN1"), (1, u "UTF16")] 323

def k13m0 : Method := { name := "<init>", desc := "()V", sig := { parameters := [], returnType := none }, accessFlags := 1, code := none }
def k13c1 : Code := { maxStack := 5, maxLocals := 2, code := jdk_42_method_3_code, exceptionTable := #[], attributes := #[] }
def k13m1 : Method := { name := "<init>", desc := "([C)V", sig := { parameters := [(.array .char)], returnType := none }, accessFlags := 1, code := some k13c1 }
def k13c2 : Code := { maxStack := 4, maxLocals := 6, code := jdk_42_method_149_code, exceptionTable := #[], attributes := #[] }
def k13m2 : Method := { name := "<init>", desc := "([CIILjava/lang/Void;)V", sig := { parameters := [(.array .char), .int, .int, (.object "java/lang/Void")], returnType := none }, accessFlags := 2, code := some k13c2 }
/-- java/lang/String -/
def k13 : Class := { plain "java/lang/String" (some 0) with
  accessFlags := 49
  interfaces := #[2, 4, 12, 5, 6]
  cf := some (fileOf pool13 10 #[.nestMembers #[1103]] #[{ accessFlags := 1, nameIndex := 5, descriptorIndex := 6, attributes := #[] }, { accessFlags := 1, nameIndex := 5, descriptorIndex := 1010, attributes := #[] }, { accessFlags := 2, nameIndex := 5, descriptorIndex := 29, attributes := #[] }] 49 2 #[1106, 1108, 575, 1110, 1112] #[{ accessFlags := 18, nameIndex := 13, descriptorIndex := 14, attributes := #[] }, { accessFlags := 18, nameIndex := 17, descriptorIndex := 18, attributes := #[] }, { accessFlags := 2, nameIndex := 21, descriptorIndex := 22, attributes := #[] }, { accessFlags := 2, nameIndex := 25, descriptorIndex := 26, attributes := #[] }, { accessFlags := 26, nameIndex := 1116, descriptorIndex := 1117, attributes := #[] }, { accessFlags := 24, nameIndex := 40, descriptorIndex := 26, attributes := #[] }, { accessFlags := 26, nameIndex := 1101, descriptorIndex := 1102, attributes := #[] }, { accessFlags := 26, nameIndex := 1121, descriptorIndex := 1122, attributes := #[] }, { accessFlags := 25, nameIndex := 599, descriptorIndex := 600, attributes := #[] }, { accessFlags := 24, nameIndex := 1125, descriptorIndex := 18, attributes := #[] }, { accessFlags := 24, nameIndex := 1127, descriptorIndex := 18, attributes := #[] }])
  fields := #[{ name := "value", type := (.array .byte), accessFlags := 18, slot := 0, constantValue := 0 }, { name := "coder", type := .byte, accessFlags := 18, slot := 1, constantValue := 0 }, { name := "hash", type := .int, accessFlags := 2, slot := 2, constantValue := 0 }, { name := "hashIsZero", type := .boolean, accessFlags := 2, slot := 3, constantValue := 0 }, { name := "serialVersionUID", type := .long, accessFlags := 26, slot := 0, constantValue := 0 }, { name := "COMPACT_STRINGS", type := .boolean, accessFlags := 24, slot := 1, constantValue := 0 }, { name := "serialPersistentFields", type := (.array (.object "java/io/ObjectStreamField")), accessFlags := 26, slot := 2, constantValue := 0 }, { name := "REPL", type := .char, accessFlags := 26, slot := 3, constantValue := 0 }, { name := "CASE_INSENSITIVE_ORDER", type := (.object "java/util/Comparator"), accessFlags := 25, slot := 4, constantValue := 0 }, { name := "LATIN1", type := .byte, accessFlags := 24, slot := 5, constantValue := 0 }, { name := "UTF16", type := .byte, accessFlags := 24, slot := 6, constantValue := 0 }]
  methods := #[k13m0, k13m1, k13m2]
  instanceTypes := #[(.array .byte), .byte, .int, .boolean]
  staticTypes := #[.long, .boolean, (.array (.object "java/io/ObjectStreamField")), .char, (.object "java/util/Comparator"), .byte, .byte]
  resolved := Array.replicate 1451 none
  statics := some 2 }

def pool14 : Array CpInfo := pool [(6, .class_ 8), (1, u "java/lang/Object"), (0, u "<init>"), (0, u "()V"), (1, .class_ 14), (1, u "java/lang/StringUTF16"), (31, u "$assertionsDisabled"), (0, u "Z"), (13, u "HI_BYTE_SHIFT"), (0, u "I"), (2, u "LO_BYTE_SHIFT"), (49, .methodref 12 116), (0, .nameAndType 117 118), (0, u "compress"), (0, u "([CI[BII)I"), (3, u "([CII)[B"), (138, u "coderFromArrayLen"), (0, u "([BI)B"), (106, .class_ 371), (1, u "java/lang/StringUTF16$LinesSpliterator"), (58, u "MAX_LENGTH"), (196, .class_ 628), (0, u "java/lang/StringUTF16$CodePointsSpliterator"), (0, .class_ 630), (0, u "java/lang/StringUTF16$CharsSpliterator")] 4

def k14m0 : Method := { name := "<init>", desc := "()V", sig := { parameters := [], returnType := none }, accessFlags := 0, code := none }
def k14c1 : Code := { maxStack := 2, maxLocals := 2, code := jdk_52_method_15_code, exceptionTable := #[], attributes := #[] }
def k14m1 : Method := { name := "coderFromArrayLen", desc := "([BI)B", sig := { parameters := [(.array .byte), .int], returnType := some .byte }, accessFlags := 8, code := some k14c1 }
def k14c2 : Code := { maxStack := 5, maxLocals := 6, code := jdk_52_method_16_code, exceptionTable := #[], attributes := #[] }
def k14m2 : Method := { name := "compress", desc := "([CII)[B", sig := { parameters := [(.array .char), .int, .int], returnType := some (.array .byte) }, accessFlags := 9, code := some k14c2 }
def k14c3 : Code := { maxStack := 3, maxLocals := 7, code := jdk_52_method_21_code, exceptionTable := #[], attributes := #[] }
def k14m3 : Method := { name := "compress", desc := "([CI[BII)I", sig := { parameters := [(.array .char), .int, (.array .byte), .int, .int], returnType := some .int }, accessFlags := 9, code := some k14c3 }
/-- java/lang/StringUTF16 -/
def k14 : Class := { plain "java/lang/StringUTF16" (some 0) with
  accessFlags := 48
  interfaces := #[]
  cf := some (fileOf pool14 12 #[.nestMembers #[627, 629, 369]] #[{ accessFlags := 0, nameIndex := 9, descriptorIndex := 10, attributes := #[] }, { accessFlags := 8, nameIndex := 261, descriptorIndex := 262, attributes := #[] }, { accessFlags := 9, nameIndex := 117, descriptorIndex := 122, attributes := #[] }, { accessFlags := 9, nameIndex := 117, descriptorIndex := 118, attributes := #[] }] 48 6 #[] #[{ accessFlags := 26, nameIndex := 61, descriptorIndex := 62, attributes := #[] }, { accessFlags := 26, nameIndex := 65, descriptorIndex := 62, attributes := #[] }, { accessFlags := 24, nameIndex := 430, descriptorIndex := 62, attributes := #[] }, { accessFlags := 4120, nameIndex := 46, descriptorIndex := 47, attributes := #[] }])
  fields := #[{ name := "HI_BYTE_SHIFT", type := .int, accessFlags := 26, slot := 0, constantValue := 0 }, { name := "LO_BYTE_SHIFT", type := .int, accessFlags := 26, slot := 1, constantValue := 0 }, { name := "MAX_LENGTH", type := .int, accessFlags := 24, slot := 2, constantValue := 0 }, { name := "$assertionsDisabled", type := .boolean, accessFlags := 4120, slot := 3, constantValue := 0 }]
  methods := #[k14m0, k14m1, k14m2, k14m3]
  instanceTypes := #[]
  staticTypes := #[.int, .int, .int, .boolean]
  resolved := Array.replicate 635 none
  statics := none }

def pool15 : Array CpInfo := pool [(4, .class_ 6), (1, u "java/lang/Object"), (0, u "<init>"), (0, u "()V"), (5, .class_ 16), (1, u "java/lang/StringLatin1"), (104, u "$assertionsDisabled"), (0, u "Z"), (98, .class_ 223), (1, u "java/lang/StringLatin1$LinesSpliterator"), (166, .class_ 391), (0, u "java/lang/StringLatin1$CharsSpliterator")] 3

def k15m0 : Method := { name := "<init>", desc := "()V", sig := { parameters := [], returnType := none }, accessFlags := 0, code := none }
/-- java/lang/StringLatin1 -/
def k15 : Class := { plain "java/lang/StringLatin1" (some 0) with
  accessFlags := 48
  interfaces := #[]
  cf := some (fileOf pool15 14 #[.nestMembers #[390, 221]] #[{ accessFlags := 0, nameIndex := 7, descriptorIndex := 8, attributes := #[] }] 48 4 #[] #[{ accessFlags := 4120, nameIndex := 121, descriptorIndex := 122, attributes := #[] }])
  fields := #[{ name := "$assertionsDisabled", type := .boolean, accessFlags := 4120, slot := 0, constantValue := 0 }]
  methods := #[k15m0]
  instanceTypes := #[]
  staticTypes := #[.boolean]
  resolved := Array.replicate 395 none
  statics := none }

def pool16 : Array CpInfo := pool [(2, .class_ 4), (1, u "java/lang/Object"), (0, u "<init>"), (0, u "()V"), (17, .class_ 26), (1, u "jdk/internal/util/Preconditions"), (28, .class_ 56), (0, u "jdk/internal/util/Preconditions$4"), (57, .class_ 115), (0, u "jdk/internal/util/Preconditions$1"), (7, u "SIOOBE_FORMATTER"), (0, u "Ljava/util/function/BiFunction;"), (0, .class_ 126), (0, u "jdk/internal/util/Preconditions$2"), (3, u "AIOOBE_FORMATTER"), (0, .class_ 132), (0, u "jdk/internal/util/Preconditions$3"), (3, u "IOOBE_FORMATTER")] 57

def k16m0 : Method := { name := "<init>", desc := "()V", sig := { parameters := [], returnType := none }, accessFlags := 1, code := none }
/-- jdk/internal/util/Preconditions -/
def k16 : Class := { plain "jdk/internal/util/Preconditions" (some 0) with
  accessFlags := 33
  interfaces := #[]
  cf := some (fileOf pool16 24 #[.nestMembers #[55, 131, 125, 114]] #[{ accessFlags := 1, nameIndex := 5, descriptorIndex := 6, attributes := #[] }] 33 2 #[] #[{ accessFlags := 25, nameIndex := 123, descriptorIndex := 124, attributes := #[] }, { accessFlags := 25, nameIndex := 130, descriptorIndex := 124, attributes := #[] }, { accessFlags := 25, nameIndex := 136, descriptorIndex := 124, attributes := #[] }])
  fields := #[{ name := "SIOOBE_FORMATTER", type := (.object "java/util/function/BiFunction"), accessFlags := 25, slot := 0, constantValue := 0 }, { name := "AIOOBE_FORMATTER", type := (.object "java/util/function/BiFunction"), accessFlags := 25, slot := 1, constantValue := 0 }, { name := "IOOBE_FORMATTER", type := (.object "java/util/function/BiFunction"), accessFlags := 25, slot := 2, constantValue := 0 }]
  methods := #[k16m0]
  instanceTypes := #[]
  staticTypes := #[(.object "java/util/function/BiFunction"), (.object "java/util/function/BiFunction"), (.object "java/util/function/BiFunction")]
  resolved := Array.replicate 194 none
  statics := some 3 }

def pool17 : Array CpInfo := pool [(9, u "<init>"), (6, .class_ 18), (1, u "java/lang/Object"), (0, u "()V"), (1, .class_ 23), (1, u "jdk/internal/util/ArraysSupport"), (0, u "LOG2_ARRAY_LONG_INDEX_SCALE"), (0, u "I"), (2, u "U"), (0, u "Ljdk/internal/misc/Unsafe;"), (8, u "BIG_ENDIAN"), (0, u "Z"), (8, u "LOG2_BYTE_BIT_SIZE"), (4, u "LOG2_ARRAY_INT_INDEX_SCALE"), (54, u "JLA"), (0, u "Ljdk/internal/access/JavaLangAccess;"), (11, u "LOG2_ARRAY_BOOLEAN_INDEX_SCALE"), (9, u "LOG2_ARRAY_BYTE_INDEX_SCALE"), (5, u "LOG2_ARRAY_CHAR_INDEX_SCALE"), (5, u "LOG2_ARRAY_SHORT_INDEX_SCALE"), (18, u "LOG2_ARRAY_FLOAT_INDEX_SCALE"), (24, u "LOG2_ARRAY_DOUBLE_INDEX_SCALE"), (89, u "T_BOOLEAN"), (2, u "T_CHAR"), (1, u "T_FLOAT"), (1, u "T_DOUBLE"), (1, u "T_BYTE"), (1, u "T_SHORT"), (1, u "T_INT"), (1, u "T_LONG"), (1, u "SOFT_MAX_ARRAY_LENGTH")] 83

def k17m0 : Method := { name := "<init>", desc := "()V", sig := { parameters := [], returnType := none }, accessFlags := 2, code := none }
/-- jdk/internal/util/ArraysSupport -/
def k17 : Class := { plain "jdk/internal/util/ArraysSupport" (some 0) with
  accessFlags := 33
  interfaces := #[]
  cf := some (fileOf pool17 21 #[] #[{ accessFlags := 2, nameIndex := 9, descriptorIndex := 19, attributes := #[] }] 33 16 #[] #[{ accessFlags := 24, nameIndex := 28, descriptorIndex := 29, attributes := #[] }, { accessFlags := 26, nameIndex := 38, descriptorIndex := 39, attributes := #[] }, { accessFlags := 25, nameIndex := 121, descriptorIndex := 25, attributes := #[] }, { accessFlags := 25, nameIndex := 131, descriptorIndex := 25, attributes := #[] }, { accessFlags := 25, nameIndex := 137, descriptorIndex := 25, attributes := #[] }, { accessFlags := 25, nameIndex := 143, descriptorIndex := 25, attributes := #[] }, { accessFlags := 25, nameIndex := 53, descriptorIndex := 25, attributes := #[] }, { accessFlags := 25, nameIndex := 24, descriptorIndex := 25, attributes := #[] }, { accessFlags := 25, nameIndex := 162, descriptorIndex := 25, attributes := #[] }, { accessFlags := 25, nameIndex := 187, descriptorIndex := 25, attributes := #[] }, { accessFlags := 26, nameIndex := 48, descriptorIndex := 25, attributes := #[] }, { accessFlags := 25, nameIndex := 277, descriptorIndex := 25, attributes := #[] }, { accessFlags := 25, nameIndex := 280, descriptorIndex := 25, attributes := #[] }, { accessFlags := 25, nameIndex := 282, descriptorIndex := 25, attributes := #[] }, { accessFlags := 25, nameIndex := 284, descriptorIndex := 25, attributes := #[] }, { accessFlags := 25, nameIndex := 286, descriptorIndex := 25, attributes := #[] }, { accessFlags := 25, nameIndex := 288, descriptorIndex := 25, attributes := #[] }, { accessFlags := 25, nameIndex := 290, descriptorIndex := 25, attributes := #[] }, { accessFlags := 25, nameIndex := 292, descriptorIndex := 25, attributes := #[] }, { accessFlags := 26, nameIndex := 108, descriptorIndex := 109, attributes := #[] }, { accessFlags := 25, nameIndex := 294, descriptorIndex := 25, attributes := #[] }])
  fields := #[{ name := "U", type := (.object "jdk/internal/misc/Unsafe"), accessFlags := 24, slot := 0, constantValue := 0 }, { name := "BIG_ENDIAN", type := .boolean, accessFlags := 26, slot := 1, constantValue := 0 }, { name := "LOG2_ARRAY_BOOLEAN_INDEX_SCALE", type := .int, accessFlags := 25, slot := 2, constantValue := 0 }, { name := "LOG2_ARRAY_BYTE_INDEX_SCALE", type := .int, accessFlags := 25, slot := 3, constantValue := 0 }, { name := "LOG2_ARRAY_CHAR_INDEX_SCALE", type := .int, accessFlags := 25, slot := 4, constantValue := 0 }, { name := "LOG2_ARRAY_SHORT_INDEX_SCALE", type := .int, accessFlags := 25, slot := 5, constantValue := 0 }, { name := "LOG2_ARRAY_INT_INDEX_SCALE", type := .int, accessFlags := 25, slot := 6, constantValue := 0 }, { name := "LOG2_ARRAY_LONG_INDEX_SCALE", type := .int, accessFlags := 25, slot := 7, constantValue := 0 }, { name := "LOG2_ARRAY_FLOAT_INDEX_SCALE", type := .int, accessFlags := 25, slot := 8, constantValue := 0 }, { name := "LOG2_ARRAY_DOUBLE_INDEX_SCALE", type := .int, accessFlags := 25, slot := 9, constantValue := 0 }, { name := "LOG2_BYTE_BIT_SIZE", type := .int, accessFlags := 26, slot := 10, constantValue := 0 }, { name := "T_BOOLEAN", type := .int, accessFlags := 25, slot := 11, constantValue := 0 }, { name := "T_CHAR", type := .int, accessFlags := 25, slot := 12, constantValue := 0 }, { name := "T_FLOAT", type := .int, accessFlags := 25, slot := 13, constantValue := 0 }, { name := "T_DOUBLE", type := .int, accessFlags := 25, slot := 14, constantValue := 0 }, { name := "T_BYTE", type := .int, accessFlags := 25, slot := 15, constantValue := 0 }, { name := "T_SHORT", type := .int, accessFlags := 25, slot := 16, constantValue := 0 }, { name := "T_INT", type := .int, accessFlags := 25, slot := 17, constantValue := 0 }, { name := "T_LONG", type := .int, accessFlags := 25, slot := 18, constantValue := 0 }, { name := "JLA", type := (.object "jdk/internal/access/JavaLangAccess"), accessFlags := 26, slot := 19, constantValue := 0 }, { name := "SOFT_MAX_ARRAY_LENGTH", type := .int, accessFlags := 25, slot := 20, constantValue := 0 }]
  methods := #[k17m0]
  instanceTypes := #[]
  staticTypes := #[(.object "jdk/internal/misc/Unsafe"), .boolean, .int, .int, .int, .int, .int, .int, .int, .int, .int, .int, .int, .int, .int, .int, .int, .int, .int, (.object "jdk/internal/access/JavaLangAccess"), .int]
  resolved := Array.replicate 378 none
  statics := none }

def pool18 : Array CpInfo := pool [(1, u "java/lang/Cloneable"), (0, .class_ 1), (0, u "java/lang/Object"), (0, .class_ 3)] 3

/-- java/lang/Cloneable -/
def k18 : Class := { plain "java/lang/Cloneable" (some 0) with
  accessFlags := 1537
  interfaces := #[]
  cf := some (fileOf pool18 2 #[] #[] 1537 4 #[] #[])
  fields := #[]
  methods := #[]
  instanceTypes := #[]
  staticTypes := #[]
  resolved := Array.replicate 8 none
  statics := none }

/-- the primitive byte -/
def k19 : Class := { plain "byte" none with kind := .primitive 'B', accessFlags := 0x411 }
/-- [B -/
def k20 : Class := { plain "[B" (some 0) with kind := .array 19 .byte, interfaces := #[18, 2], accessFlags := 1041 }

/-- the primitive char -/
def k21 : Class := { plain "char" none with kind := .primitive 'C', accessFlags := 0x411 }
/-- [C -/
def k22 : Class := { plain "[C" (some 0) with kind := .array 21 .char, interfaces := #[18, 2], accessFlags := 1041 }

/-- the primitive int -/
def k23 : Class := { plain "int" none with kind := .primitive 'I', accessFlags := 0x411 }
/-- [I -/
def k24 : Class := { plain "[I" (some 0) with kind := .array 23 .int, interfaces := #[18, 2], accessFlags := 1041 }

/-- [Ljava/lang/Long; -/
def k25 : Class := { plain "[Ljava/lang/Long;" (some 0) with kind := .array 7 (.object "java/lang/Long"), interfaces := #[18, 2], accessFlags := 1041 }

def heap : Heap := #[{ cls := 8, slots := #[.ref 4, .null, .int 0], vm := .statics 8 },
  { cls := 11, slots := #[.ref 262, .ref 261, .null, .long 0], vm := .statics 11 },
  { cls := 13, slots := #[.long 0, .int 1, .null, .int 0, .null, .int 0, .int 0], vm := .statics 13 },
  { cls := 16, slots := #[.null, .null, .null], vm := .statics 16 },
  { cls := 25, slots := #[.ref 5, .ref 6, .ref 7, .ref 8, .ref 9, .ref 10, .ref 11, .ref 12, .ref 13, .ref 14, .ref 15, .ref 16, .ref 17, .ref 18, .ref 19, .ref 20, .ref 21, .ref 22, .ref 23, .ref 24, .ref 25, .ref 26, .ref 27, .ref 28, .ref 29, .ref 30, .ref 31, .ref 32, .ref 33, .ref 34, .ref 35, .ref 36, .ref 37, .ref 38, .ref 39, .ref 40, .ref 41, .ref 42, .ref 43, .ref 44, .ref 45, .ref 46, .ref 47, .ref 48, .ref 49, .ref 50, .ref 51, .ref 52, .ref 53, .ref 54, .ref 55, .ref 56, .ref 57, .ref 58, .ref 59, .ref 60, .ref 61, .ref 62, .ref 63, .ref 64, .ref 65, .ref 66, .ref 67, .ref 68, .ref 69, .ref 70, .ref 71, .ref 72, .ref 73, .ref 74, .ref 75, .ref 76, .ref 77, .ref 78, .ref 79, .ref 80, .ref 81, .ref 82, .ref 83, .ref 84, .ref 85, .ref 86, .ref 87, .ref 88, .ref 89, .ref 90, .ref 91, .ref 92, .ref 93, .ref 94, .ref 95, .ref 96, .ref 97, .ref 98, .ref 99, .ref 100, .ref 101, .ref 102, .ref 103, .ref 104, .ref 105, .ref 106, .ref 107, .ref 108, .ref 109, .ref 110, .ref 111, .ref 112, .ref 113, .ref 114, .ref 115, .ref 116, .ref 117, .ref 118, .ref 119, .ref 120, .ref 121, .ref 122, .ref 123, .ref 124, .ref 125, .ref 126, .ref 127, .ref 128, .ref 129, .ref 130, .ref 131, .ref 132, .ref 133, .ref 134, .ref 135, .ref 136, .ref 137, .ref 138, .ref 139, .ref 140, .ref 141, .ref 142, .ref 143, .ref 144, .ref 145, .ref 146, .ref 147, .ref 148, .ref 149, .ref 150, .ref 151, .ref 152, .ref 153, .ref 154, .ref 155, .ref 156, .ref 157, .ref 158, .ref 159, .ref 160, .ref 161, .ref 162, .ref 163, .ref 164, .ref 165, .ref 166, .ref 167, .ref 168, .ref 169, .ref 170, .ref 171, .ref 172, .ref 173, .ref 174, .ref 175, .ref 176, .ref 177, .ref 178, .ref 179, .ref 180, .ref 181, .ref 182, .ref 183, .ref 184, .ref 185, .ref 186, .ref 187, .ref 188, .ref 189, .ref 190, .ref 191, .ref 192, .ref 193, .ref 194, .ref 195, .ref 196, .ref 197, .ref 198, .ref 199, .ref 200, .ref 201, .ref 202, .ref 203, .ref 204, .ref 205, .ref 206, .ref 207, .ref 208, .ref 209, .ref 210, .ref 211, .ref 212, .ref 213, .ref 214, .ref 215, .ref 216, .ref 217, .ref 218, .ref 219, .ref 220, .ref 221, .ref 222, .ref 223, .ref 224, .ref 225, .ref 226, .ref 227, .ref 228, .ref 229, .ref 230, .ref 231, .ref 232, .ref 233, .ref 234, .ref 235, .ref 236, .ref 237, .ref 238, .ref 239, .ref 240, .ref 241, .ref 242, .ref 243, .ref 244, .ref 245, .ref 246, .ref 247, .ref 248, .ref 249, .ref 250, .ref 251, .ref 252, .ref 253, .ref 254, .ref 255, .ref 256, .ref 257, .ref 258, .ref 259, .ref 260], vm := .none },
  { cls := 7, slots := #[.long (-128)], vm := .none },
  { cls := 7, slots := #[.long (-127)], vm := .none },
  { cls := 7, slots := #[.long (-126)], vm := .none },
  { cls := 7, slots := #[.long (-125)], vm := .none },
  { cls := 7, slots := #[.long (-124)], vm := .none },
  { cls := 7, slots := #[.long (-123)], vm := .none },
  { cls := 7, slots := #[.long (-122)], vm := .none },
  { cls := 7, slots := #[.long (-121)], vm := .none },
  { cls := 7, slots := #[.long (-120)], vm := .none },
  { cls := 7, slots := #[.long (-119)], vm := .none },
  { cls := 7, slots := #[.long (-118)], vm := .none },
  { cls := 7, slots := #[.long (-117)], vm := .none },
  { cls := 7, slots := #[.long (-116)], vm := .none },
  { cls := 7, slots := #[.long (-115)], vm := .none },
  { cls := 7, slots := #[.long (-114)], vm := .none },
  { cls := 7, slots := #[.long (-113)], vm := .none },
  { cls := 7, slots := #[.long (-112)], vm := .none },
  { cls := 7, slots := #[.long (-111)], vm := .none },
  { cls := 7, slots := #[.long (-110)], vm := .none },
  { cls := 7, slots := #[.long (-109)], vm := .none },
  { cls := 7, slots := #[.long (-108)], vm := .none },
  { cls := 7, slots := #[.long (-107)], vm := .none },
  { cls := 7, slots := #[.long (-106)], vm := .none },
  { cls := 7, slots := #[.long (-105)], vm := .none },
  { cls := 7, slots := #[.long (-104)], vm := .none },
  { cls := 7, slots := #[.long (-103)], vm := .none },
  { cls := 7, slots := #[.long (-102)], vm := .none },
  { cls := 7, slots := #[.long (-101)], vm := .none },
  { cls := 7, slots := #[.long (-100)], vm := .none },
  { cls := 7, slots := #[.long (-99)], vm := .none },
  { cls := 7, slots := #[.long (-98)], vm := .none },
  { cls := 7, slots := #[.long (-97)], vm := .none },
  { cls := 7, slots := #[.long (-96)], vm := .none },
  { cls := 7, slots := #[.long (-95)], vm := .none },
  { cls := 7, slots := #[.long (-94)], vm := .none },
  { cls := 7, slots := #[.long (-93)], vm := .none },
  { cls := 7, slots := #[.long (-92)], vm := .none },
  { cls := 7, slots := #[.long (-91)], vm := .none },
  { cls := 7, slots := #[.long (-90)], vm := .none },
  { cls := 7, slots := #[.long (-89)], vm := .none },
  { cls := 7, slots := #[.long (-88)], vm := .none },
  { cls := 7, slots := #[.long (-87)], vm := .none },
  { cls := 7, slots := #[.long (-86)], vm := .none },
  { cls := 7, slots := #[.long (-85)], vm := .none },
  { cls := 7, slots := #[.long (-84)], vm := .none },
  { cls := 7, slots := #[.long (-83)], vm := .none },
  { cls := 7, slots := #[.long (-82)], vm := .none },
  { cls := 7, slots := #[.long (-81)], vm := .none },
  { cls := 7, slots := #[.long (-80)], vm := .none },
  { cls := 7, slots := #[.long (-79)], vm := .none },
  { cls := 7, slots := #[.long (-78)], vm := .none },
  { cls := 7, slots := #[.long (-77)], vm := .none },
  { cls := 7, slots := #[.long (-76)], vm := .none },
  { cls := 7, slots := #[.long (-75)], vm := .none },
  { cls := 7, slots := #[.long (-74)], vm := .none },
  { cls := 7, slots := #[.long (-73)], vm := .none },
  { cls := 7, slots := #[.long (-72)], vm := .none },
  { cls := 7, slots := #[.long (-71)], vm := .none },
  { cls := 7, slots := #[.long (-70)], vm := .none },
  { cls := 7, slots := #[.long (-69)], vm := .none },
  { cls := 7, slots := #[.long (-68)], vm := .none },
  { cls := 7, slots := #[.long (-67)], vm := .none },
  { cls := 7, slots := #[.long (-66)], vm := .none },
  { cls := 7, slots := #[.long (-65)], vm := .none },
  { cls := 7, slots := #[.long (-64)], vm := .none },
  { cls := 7, slots := #[.long (-63)], vm := .none },
  { cls := 7, slots := #[.long (-62)], vm := .none },
  { cls := 7, slots := #[.long (-61)], vm := .none },
  { cls := 7, slots := #[.long (-60)], vm := .none },
  { cls := 7, slots := #[.long (-59)], vm := .none },
  { cls := 7, slots := #[.long (-58)], vm := .none },
  { cls := 7, slots := #[.long (-57)], vm := .none },
  { cls := 7, slots := #[.long (-56)], vm := .none },
  { cls := 7, slots := #[.long (-55)], vm := .none },
  { cls := 7, slots := #[.long (-54)], vm := .none },
  { cls := 7, slots := #[.long (-53)], vm := .none },
  { cls := 7, slots := #[.long (-52)], vm := .none },
  { cls := 7, slots := #[.long (-51)], vm := .none },
  { cls := 7, slots := #[.long (-50)], vm := .none },
  { cls := 7, slots := #[.long (-49)], vm := .none },
  { cls := 7, slots := #[.long (-48)], vm := .none },
  { cls := 7, slots := #[.long (-47)], vm := .none },
  { cls := 7, slots := #[.long (-46)], vm := .none },
  { cls := 7, slots := #[.long (-45)], vm := .none },
  { cls := 7, slots := #[.long (-44)], vm := .none },
  { cls := 7, slots := #[.long (-43)], vm := .none },
  { cls := 7, slots := #[.long (-42)], vm := .none },
  { cls := 7, slots := #[.long (-41)], vm := .none },
  { cls := 7, slots := #[.long (-40)], vm := .none },
  { cls := 7, slots := #[.long (-39)], vm := .none },
  { cls := 7, slots := #[.long (-38)], vm := .none },
  { cls := 7, slots := #[.long (-37)], vm := .none },
  { cls := 7, slots := #[.long (-36)], vm := .none },
  { cls := 7, slots := #[.long (-35)], vm := .none },
  { cls := 7, slots := #[.long (-34)], vm := .none },
  { cls := 7, slots := #[.long (-33)], vm := .none },
  { cls := 7, slots := #[.long (-32)], vm := .none },
  { cls := 7, slots := #[.long (-31)], vm := .none },
  { cls := 7, slots := #[.long (-30)], vm := .none },
  { cls := 7, slots := #[.long (-29)], vm := .none },
  { cls := 7, slots := #[.long (-28)], vm := .none },
  { cls := 7, slots := #[.long (-27)], vm := .none },
  { cls := 7, slots := #[.long (-26)], vm := .none },
  { cls := 7, slots := #[.long (-25)], vm := .none },
  { cls := 7, slots := #[.long (-24)], vm := .none },
  { cls := 7, slots := #[.long (-23)], vm := .none },
  { cls := 7, slots := #[.long (-22)], vm := .none },
  { cls := 7, slots := #[.long (-21)], vm := .none },
  { cls := 7, slots := #[.long (-20)], vm := .none },
  { cls := 7, slots := #[.long (-19)], vm := .none },
  { cls := 7, slots := #[.long (-18)], vm := .none },
  { cls := 7, slots := #[.long (-17)], vm := .none },
  { cls := 7, slots := #[.long (-16)], vm := .none },
  { cls := 7, slots := #[.long (-15)], vm := .none },
  { cls := 7, slots := #[.long (-14)], vm := .none },
  { cls := 7, slots := #[.long (-13)], vm := .none },
  { cls := 7, slots := #[.long (-12)], vm := .none },
  { cls := 7, slots := #[.long (-11)], vm := .none },
  { cls := 7, slots := #[.long (-10)], vm := .none },
  { cls := 7, slots := #[.long (-9)], vm := .none },
  { cls := 7, slots := #[.long (-8)], vm := .none },
  { cls := 7, slots := #[.long (-7)], vm := .none },
  { cls := 7, slots := #[.long (-6)], vm := .none },
  { cls := 7, slots := #[.long (-5)], vm := .none },
  { cls := 7, slots := #[.long (-4)], vm := .none },
  { cls := 7, slots := #[.long (-3)], vm := .none },
  { cls := 7, slots := #[.long (-2)], vm := .none },
  { cls := 7, slots := #[.long (-1)], vm := .none },
  { cls := 7, slots := #[.long (0)], vm := .none },
  { cls := 7, slots := #[.long (1)], vm := .none },
  { cls := 7, slots := #[.long (2)], vm := .none },
  { cls := 7, slots := #[.long (3)], vm := .none },
  { cls := 7, slots := #[.long (4)], vm := .none },
  { cls := 7, slots := #[.long (5)], vm := .none },
  { cls := 7, slots := #[.long (6)], vm := .none },
  { cls := 7, slots := #[.long (7)], vm := .none },
  { cls := 7, slots := #[.long (8)], vm := .none },
  { cls := 7, slots := #[.long (9)], vm := .none },
  { cls := 7, slots := #[.long (10)], vm := .none },
  { cls := 7, slots := #[.long (11)], vm := .none },
  { cls := 7, slots := #[.long (12)], vm := .none },
  { cls := 7, slots := #[.long (13)], vm := .none },
  { cls := 7, slots := #[.long (14)], vm := .none },
  { cls := 7, slots := #[.long (15)], vm := .none },
  { cls := 7, slots := #[.long (16)], vm := .none },
  { cls := 7, slots := #[.long (17)], vm := .none },
  { cls := 7, slots := #[.long (18)], vm := .none },
  { cls := 7, slots := #[.long (19)], vm := .none },
  { cls := 7, slots := #[.long (20)], vm := .none },
  { cls := 7, slots := #[.long (21)], vm := .none },
  { cls := 7, slots := #[.long (22)], vm := .none },
  { cls := 7, slots := #[.long (23)], vm := .none },
  { cls := 7, slots := #[.long (24)], vm := .none },
  { cls := 7, slots := #[.long (25)], vm := .none },
  { cls := 7, slots := #[.long (26)], vm := .none },
  { cls := 7, slots := #[.long (27)], vm := .none },
  { cls := 7, slots := #[.long (28)], vm := .none },
  { cls := 7, slots := #[.long (29)], vm := .none },
  { cls := 7, slots := #[.long (30)], vm := .none },
  { cls := 7, slots := #[.long (31)], vm := .none },
  { cls := 7, slots := #[.long (32)], vm := .none },
  { cls := 7, slots := #[.long (33)], vm := .none },
  { cls := 7, slots := #[.long (34)], vm := .none },
  { cls := 7, slots := #[.long (35)], vm := .none },
  { cls := 7, slots := #[.long (36)], vm := .none },
  { cls := 7, slots := #[.long (37)], vm := .none },
  { cls := 7, slots := #[.long (38)], vm := .none },
  { cls := 7, slots := #[.long (39)], vm := .none },
  { cls := 7, slots := #[.long (40)], vm := .none },
  { cls := 7, slots := #[.long (41)], vm := .none },
  { cls := 7, slots := #[.long (42)], vm := .none },
  { cls := 7, slots := #[.long (43)], vm := .none },
  { cls := 7, slots := #[.long (44)], vm := .none },
  { cls := 7, slots := #[.long (45)], vm := .none },
  { cls := 7, slots := #[.long (46)], vm := .none },
  { cls := 7, slots := #[.long (47)], vm := .none },
  { cls := 7, slots := #[.long (48)], vm := .none },
  { cls := 7, slots := #[.long (49)], vm := .none },
  { cls := 7, slots := #[.long (50)], vm := .none },
  { cls := 7, slots := #[.long (51)], vm := .none },
  { cls := 7, slots := #[.long (52)], vm := .none },
  { cls := 7, slots := #[.long (53)], vm := .none },
  { cls := 7, slots := #[.long (54)], vm := .none },
  { cls := 7, slots := #[.long (55)], vm := .none },
  { cls := 7, slots := #[.long (56)], vm := .none },
  { cls := 7, slots := #[.long (57)], vm := .none },
  { cls := 7, slots := #[.long (58)], vm := .none },
  { cls := 7, slots := #[.long (59)], vm := .none },
  { cls := 7, slots := #[.long (60)], vm := .none },
  { cls := 7, slots := #[.long (61)], vm := .none },
  { cls := 7, slots := #[.long (62)], vm := .none },
  { cls := 7, slots := #[.long (63)], vm := .none },
  { cls := 7, slots := #[.long (64)], vm := .none },
  { cls := 7, slots := #[.long (65)], vm := .none },
  { cls := 7, slots := #[.long (66)], vm := .none },
  { cls := 7, slots := #[.long (67)], vm := .none },
  { cls := 7, slots := #[.long (68)], vm := .none },
  { cls := 7, slots := #[.long (69)], vm := .none },
  { cls := 7, slots := #[.long (70)], vm := .none },
  { cls := 7, slots := #[.long (71)], vm := .none },
  { cls := 7, slots := #[.long (72)], vm := .none },
  { cls := 7, slots := #[.long (73)], vm := .none },
  { cls := 7, slots := #[.long (74)], vm := .none },
  { cls := 7, slots := #[.long (75)], vm := .none },
  { cls := 7, slots := #[.long (76)], vm := .none },
  { cls := 7, slots := #[.long (77)], vm := .none },
  { cls := 7, slots := #[.long (78)], vm := .none },
  { cls := 7, slots := #[.long (79)], vm := .none },
  { cls := 7, slots := #[.long (80)], vm := .none },
  { cls := 7, slots := #[.long (81)], vm := .none },
  { cls := 7, slots := #[.long (82)], vm := .none },
  { cls := 7, slots := #[.long (83)], vm := .none },
  { cls := 7, slots := #[.long (84)], vm := .none },
  { cls := 7, slots := #[.long (85)], vm := .none },
  { cls := 7, slots := #[.long (86)], vm := .none },
  { cls := 7, slots := #[.long (87)], vm := .none },
  { cls := 7, slots := #[.long (88)], vm := .none },
  { cls := 7, slots := #[.long (89)], vm := .none },
  { cls := 7, slots := #[.long (90)], vm := .none },
  { cls := 7, slots := #[.long (91)], vm := .none },
  { cls := 7, slots := #[.long (92)], vm := .none },
  { cls := 7, slots := #[.long (93)], vm := .none },
  { cls := 7, slots := #[.long (94)], vm := .none },
  { cls := 7, slots := #[.long (95)], vm := .none },
  { cls := 7, slots := #[.long (96)], vm := .none },
  { cls := 7, slots := #[.long (97)], vm := .none },
  { cls := 7, slots := #[.long (98)], vm := .none },
  { cls := 7, slots := #[.long (99)], vm := .none },
  { cls := 7, slots := #[.long (100)], vm := .none },
  { cls := 7, slots := #[.long (101)], vm := .none },
  { cls := 7, slots := #[.long (102)], vm := .none },
  { cls := 7, slots := #[.long (103)], vm := .none },
  { cls := 7, slots := #[.long (104)], vm := .none },
  { cls := 7, slots := #[.long (105)], vm := .none },
  { cls := 7, slots := #[.long (106)], vm := .none },
  { cls := 7, slots := #[.long (107)], vm := .none },
  { cls := 7, slots := #[.long (108)], vm := .none },
  { cls := 7, slots := #[.long (109)], vm := .none },
  { cls := 7, slots := #[.long (110)], vm := .none },
  { cls := 7, slots := #[.long (111)], vm := .none },
  { cls := 7, slots := #[.long (112)], vm := .none },
  { cls := 7, slots := #[.long (113)], vm := .none },
  { cls := 7, slots := #[.long (114)], vm := .none },
  { cls := 7, slots := #[.long (115)], vm := .none },
  { cls := 7, slots := #[.long (116)], vm := .none },
  { cls := 7, slots := #[.long (117)], vm := .none },
  { cls := 7, slots := #[.long (118)], vm := .none },
  { cls := 7, slots := #[.long (119)], vm := .none },
  { cls := 7, slots := #[.long (120)], vm := .none },
  { cls := 7, slots := #[.long (121)], vm := .none },
  { cls := 7, slots := #[.long (122)], vm := .none },
  { cls := 7, slots := #[.long (123)], vm := .none },
  { cls := 7, slots := #[.long (124)], vm := .none },
  { cls := 7, slots := #[.long (125)], vm := .none },
  { cls := 7, slots := #[.long (126)], vm := .none },
  { cls := 7, slots := #[.long (127)], vm := .none },
  { cls := 11, slots := #[.int 0], vm := .none },
  { cls := 11, slots := #[.int 1], vm := .none }]
def classes : Array Class := #[k0, k1, k2, k3, k4, k5, k6, k7, k8, k9, k10, k11, k12, k13, k14, k15, k16, k17, k18, k19, k20, k21, k22, k23, k24, k25]
def interned : List (Array UInt16 × Addr) := []
def slotsUsed : Nat := 531
def theMethod : MethodId := ⟨1, 2⟩
def args0 : Array Value := #[.int 4, .long 2, .int 3, .int 65, .int 66, .int 1]
def aboutOver (below : List Frame) : State where
  vm := { classes := classes, interned := interned.toArray }
  heap := heap
  slotsUsed := slotsUsed
  threads := #[{ frames := .invoking theMethod args0 :: below }]
def below0 : List Frame := [.native { method := ⟨0, 0⟩, args := #[] }]
def about1 : State := aboutOver below0
def p0 : Program := .bare "" "" ""
def e0 : Env := launch0.env 0 0 0
theorem w_frames : about1.frames = Frame.invoking theMethod args0 :: below0 := rfl
set_option maxRecDepth 65536 in
theorem w_args : argsFit about1.vm theMethod args0 = true := by decide +kernel
set_option maxRecDepth 65536 in
theorem w_heap : heapFits about1 = true := by decide +kernel
set_option maxRecDepth 65536 in
theorem w_runnable : about1.curStatus? = some .runnable := by decide +kernel
set_option maxRecDepth 65536 in
theorem w_alone : about1.alone = true := by decide +kernel
set_option maxRecDepth 65536 in
theorem w_named : about1.methodNamed? x = some theMethod := by decide +kernel
set_option maxRecDepth 65536 in
theorem w_hears : about1.hears theMethod below0 = true := by decide +kernel
set_option maxRecDepth 65536 in
theorem w_ripe : about1.ripe theMethod args0 below0 = true := by decide +kernel
theorem w_running : about1.status = .running := rfl
set_option maxRecDepth 65536 in
theorem w_room : about1.hasRoom e0.platform room_1 = true :=
  launch0.hasRoom_least _ room_1 (by decide +kernel) (by decide +kernel) (by decide +kernel) (by decide +kernel) (by decide +kernel) (by decide +kernel)
theorem allAtoms_all (ts : List Jvm.Cond) (a : Array Jvm.Value) (st : Jvm.State) : (allAtoms ts).before a st = ts.all (fun c => c.before a st) := by
  induction ts with
  | nil => rfl
  | cons c t ih =>
    show (Jvm.Cond.and c (allAtoms t)).before a st = _
    rw [Jvm.Cond.before_and, ih, List.all_cons]
def words1 : List Jvm.Cond := Jvm.Cond.code x code maxLocals ret :: tables_1
/-- a 'code' word, met by the world's own term for the bytes: nothing is compared byte by byte -/
theorem code_word {y : MethodName} {bytes : ByteArray} {mx : Nat} {rt : Option FieldType} {a : Array Value} {s : State} {m : MethodId} {meth : Method} {c : Code} (h1 : s.methodNamed? y = some m) (h2 : s.vm.method? m = some meth) (h3 : meth.code = some c) (h4 : c.code = bytes)
    (h5 : (c.maxLocals == mx && c.exceptionTable.isEmpty && decide (c.maxStack ≤ mostOperands) && decide (meth.sig.returnType = rt) && !meth.locks && decide (parseMethodDescriptor y.desc = some meth.sig)) = true) : (Jvm.Cond.code y bytes mx rt).before a s = true := by
  simp only [Bool.and_eq_true, beq_iff_eq, Bool.not_eq_true', decide_eq_true_eq] at h5
  obtain ⟨⟨⟨⟨⟨g1, g2⟩, g3⟩, g4⟩, g5⟩, g6⟩ := h5
  simp [Cond.before, Cond.holds, Cond.value, h1, h2, h3, h4, g1, g2, g3, g4, g5, g6]
def isCode : Jvm.Cond → Bool
  | .code _ _ _ _ => true
  | _ => false
theorem all_split {L : List Jvm.Cond} {P : Jvm.Cond → Bool} (h1 : L.all (fun c => isCode c || P c) = true) (h2 : ∀ c ∈ L.filter isCode, P c = true) : L.all P = true := by
  refine List.all_eq_true.mpr fun c hc => ?_
  have h := List.all_eq_true.mp h1 c hc
  rcases Bool.eq_false_or_eq_true (isCode c) with hi | hi
  · exact h2 c (List.mem_filter.mpr ⟨hc, hi⟩)
  · simpa [hi] using h
set_option maxRecDepth 65536 in
theorem w_c0 : (Jvm.Cond.code x code maxLocals ret).before args0 about1 = true := code_word (m := ⟨1, 2⟩) (meth := k1m2) (c := k1c2) (by decide +kernel) rfl rfl rfl (by decide +kernel)
set_option maxRecDepth 65536 in
theorem w_c1 : (Jvm.Cond.code ({ cls := "java/lang/Long", name := "valueOf", desc := "(J)Ljava/lang/Long;" } : Jvm.MethodName) jdk_35_method_24_code (3 : Nat) (Option.some (Jvm.ClassFile.FieldType.object "java/lang/Long"))).before args0 about1 = true := code_word (m := ⟨7, 0⟩) (meth := k7m0) (c := k7c0) (by decide +kernel) rfl rfl rfl (by decide +kernel)
set_option maxRecDepth 65536 in
theorem w_c2 : (Jvm.Cond.code ({ cls := "com/example/hornbrook/hornbrook/Values", name := "kind", desc := "(Ljava/lang/Object;)B" } : Jvm.MethodName) prog_203_method_2_code (2 : Nat) (Option.some Jvm.ClassFile.FieldType.byte)).before args0 about1 = true := code_word (m := ⟨9, 1⟩) (meth := k9m1) (c := k9c1) (by decide +kernel) rfl rfl rfl (by decide +kernel)
set_option maxRecDepth 65536 in
theorem w_c3 : (Jvm.Cond.code ({ cls := "java/lang/Double", name := "valueOf", desc := "(D)Ljava/lang/Double;" } : Jvm.MethodName) jdk_117_method_4_code (2 : Nat) (Option.some (Jvm.ClassFile.FieldType.object "java/lang/Double"))).before args0 about1 = true := code_word (m := ⟨10, 0⟩) (meth := k10m0) (c := k10c0) (by decide +kernel) rfl rfl rfl (by decide +kernel)
set_option maxRecDepth 65536 in
theorem w_c4 : (Jvm.Cond.code ({ cls := "java/lang/Double", name := "<init>", desc := "(D)V" } : Jvm.MethodName) jdk_117_method_9_code (3 : Nat) (Option.none : Option Jvm.ClassFile.FieldType)).before args0 about1 = true := code_word (m := ⟨10, 1⟩) (meth := k10m1) (c := k10c1) (by decide +kernel) rfl rfl rfl (by decide +kernel)
set_option maxRecDepth 65536 in
theorem w_c5 : (Jvm.Cond.code ({ cls := "java/lang/Number", name := "<init>", desc := "()V" } : Jvm.MethodName) jdk_18_method_1_code (1 : Nat) (Option.none : Option Jvm.ClassFile.FieldType)).before args0 about1 = true := code_word (m := ⟨3, 0⟩) (meth := k3m0) (c := k3c0) (by decide +kernel) rfl rfl rfl (by decide +kernel)
set_option maxRecDepth 65536 in
theorem w_c6 : (Jvm.Cond.code ({ cls := "java/lang/Object", name := "<init>", desc := "()V" } : Jvm.MethodName) object_method_1_code (1 : Nat) (Option.none : Option Jvm.ClassFile.FieldType)).before args0 about1 = true := code_word (m := ⟨0, 0⟩) (meth := k0m0) (c := k0c0) (by decide +kernel) rfl rfl rfl (by decide +kernel)
set_option maxRecDepth 65536 in
theorem w_c7 : (Jvm.Cond.code ({ cls := "java/lang/Long", name := "<init>", desc := "(J)V" } : Jvm.MethodName) jdk_35_method_26_code (3 : Nat) (Option.none : Option Jvm.ClassFile.FieldType)).before args0 about1 = true := code_word (m := ⟨7, 1⟩) (meth := k7m1) (c := k7c1) (by decide +kernel) rfl rfl rfl (by decide +kernel)
set_option maxRecDepth 65536 in
theorem w_c8 : (Jvm.Cond.code ({ cls := "com/example/hornbrook/hornbrook/ValuesKindPinLaw", name := "text", desc := "(III)Ljava/lang/String;" } : Jvm.MethodName) method_2_code (6 : Nat) (Option.some (Jvm.ClassFile.FieldType.object "java/lang/String"))).before args0 about1 = true := code_word (m := ⟨1, 1⟩) (meth := k1m1) (c := k1c1) (by decide +kernel) rfl rfl rfl (by decide +kernel)
set_option maxRecDepth 65536 in
theorem w_c9 : (Jvm.Cond.code ({ cls := "java/lang/String", name := "<init>", desc := "([C)V" } : Jvm.MethodName) jdk_42_method_3_code (2 : Nat) (Option.none : Option Jvm.ClassFile.FieldType)).before args0 about1 = true := code_word (m := ⟨13, 1⟩) (meth := k13m1) (c := k13c1) (by decide +kernel) rfl rfl rfl (by decide +kernel)
set_option maxRecDepth 65536 in
theorem w_c10 : (Jvm.Cond.code ({ cls := "java/lang/String", name := "<init>", desc := "([CIILjava/lang/Void;)V" } : Jvm.MethodName) jdk_42_method_149_code (6 : Nat) (Option.none : Option Jvm.ClassFile.FieldType)).before args0 about1 = true := code_word (m := ⟨13, 2⟩) (meth := k13m2) (c := k13c2) (by decide +kernel) rfl rfl rfl (by decide +kernel)
set_option maxRecDepth 65536 in
theorem w_c11 : (Jvm.Cond.code ({ cls := "java/lang/StringUTF16", name := "compress", desc := "([CII)[B" } : Jvm.MethodName) jdk_52_method_16_code (6 : Nat) (Option.some (Jvm.ClassFile.FieldType.array Jvm.ClassFile.FieldType.byte))).before args0 about1 = true := code_word (m := ⟨14, 2⟩) (meth := k14m2) (c := k14c2) (by decide +kernel) rfl rfl rfl (by decide +kernel)
set_option maxRecDepth 65536 in
theorem w_c12 : (Jvm.Cond.code ({ cls := "java/lang/StringUTF16", name := "compress", desc := "([CI[BII)I" } : Jvm.MethodName) jdk_52_method_21_code (7 : Nat) (Option.some Jvm.ClassFile.FieldType.int)).before args0 about1 = true := code_word (m := ⟨14, 3⟩) (meth := k14m3) (c := k14c3) (by decide +kernel) rfl rfl rfl (by decide +kernel)
set_option maxRecDepth 65536 in
theorem w_c13 : (Jvm.Cond.code ({ cls := "java/lang/StringUTF16", name := "coderFromArrayLen", desc := "([BI)B" } : Jvm.MethodName) jdk_52_method_15_code (2 : Nat) (Option.some Jvm.ClassFile.FieldType.byte)).before args0 about1 = true := code_word (m := ⟨14, 1⟩) (meth := k14m1) (c := k14c1) (by decide +kernel) rfl rfl rfl (by decide +kernel)
def codes1 : List Jvm.Cond := [Jvm.Cond.code x code maxLocals ret, Jvm.Cond.code ({ cls := "java/lang/Long", name := "valueOf", desc := "(J)Ljava/lang/Long;" } : Jvm.MethodName) jdk_35_method_24_code (3 : Nat) (Option.some (Jvm.ClassFile.FieldType.object "java/lang/Long")), Jvm.Cond.code ({ cls := "com/example/hornbrook/hornbrook/Values", name := "kind", desc := "(Ljava/lang/Object;)B" } : Jvm.MethodName) prog_203_method_2_code (2 : Nat) (Option.some Jvm.ClassFile.FieldType.byte), Jvm.Cond.code ({ cls := "java/lang/Double", name := "valueOf", desc := "(D)Ljava/lang/Double;" } : Jvm.MethodName) jdk_117_method_4_code (2 : Nat) (Option.some (Jvm.ClassFile.FieldType.object "java/lang/Double")), Jvm.Cond.code ({ cls := "java/lang/Double", name := "<init>", desc := "(D)V" } : Jvm.MethodName) jdk_117_method_9_code (3 : Nat) (Option.none : Option Jvm.ClassFile.FieldType), Jvm.Cond.code ({ cls := "java/lang/Number", name := "<init>", desc := "()V" } : Jvm.MethodName) jdk_18_method_1_code (1 : Nat) (Option.none : Option Jvm.ClassFile.FieldType), Jvm.Cond.code ({ cls := "java/lang/Object", name := "<init>", desc := "()V" } : Jvm.MethodName) object_method_1_code (1 : Nat) (Option.none : Option Jvm.ClassFile.FieldType), Jvm.Cond.code ({ cls := "java/lang/Long", name := "<init>", desc := "(J)V" } : Jvm.MethodName) jdk_35_method_26_code (3 : Nat) (Option.none : Option Jvm.ClassFile.FieldType), Jvm.Cond.code ({ cls := "com/example/hornbrook/hornbrook/ValuesKindPinLaw", name := "text", desc := "(III)Ljava/lang/String;" } : Jvm.MethodName) method_2_code (6 : Nat) (Option.some (Jvm.ClassFile.FieldType.object "java/lang/String")), Jvm.Cond.code ({ cls := "java/lang/String", name := "<init>", desc := "([C)V" } : Jvm.MethodName) jdk_42_method_3_code (2 : Nat) (Option.none : Option Jvm.ClassFile.FieldType), Jvm.Cond.code ({ cls := "java/lang/String", name := "<init>", desc := "([CIILjava/lang/Void;)V" } : Jvm.MethodName) jdk_42_method_149_code (6 : Nat) (Option.none : Option Jvm.ClassFile.FieldType), Jvm.Cond.code ({ cls := "java/lang/StringUTF16", name := "compress", desc := "([CII)[B" } : Jvm.MethodName) jdk_52_method_16_code (6 : Nat) (Option.some (Jvm.ClassFile.FieldType.array Jvm.ClassFile.FieldType.byte)), Jvm.Cond.code ({ cls := "java/lang/StringUTF16", name := "compress", desc := "([CI[BII)I" } : Jvm.MethodName) jdk_52_method_21_code (7 : Nat) (Option.some Jvm.ClassFile.FieldType.int), Jvm.Cond.code ({ cls := "java/lang/StringUTF16", name := "coderFromArrayLen", desc := "([BI)B" } : Jvm.MethodName) jdk_52_method_15_code (2 : Nat) (Option.some Jvm.ClassFile.FieldType.byte)]
set_option maxRecDepth 65536 in
theorem codes_eq : words1.filter isCode = codes1 := rfl
theorem w_codes : ∀ c ∈ words1.filter isCode, c.before args0 about1 = true := by
  rw [codes_eq]
  intro c hc
  simp only [codes1, List.mem_cons, List.not_mem_nil, or_false] at hc
  rcases hc with rfl | rfl | rfl | rfl | rfl | rfl | rfl | rfl | rfl | rfl | rfl | rfl | rfl | rfl
  · exact w_c0
  · exact w_c1
  · exact w_c2
  · exact w_c3
  · exact w_c4
  · exact w_c5
  · exact w_c6
  · exact w_c7
  · exact w_c8
  · exact w_c9
  · exact w_c10
  · exact w_c11
  · exact w_c12
  · exact w_c13
set_option maxRecDepth 65536 in
theorem w_t1 : (words1.take 24).all (fun c => isCode c || c.before args0 about1) = true := by decide +kernel
set_option maxRecDepth 65536 in
theorem w_t2 : ((words1.drop 24).take 24).all (fun c => isCode c || c.before args0 about1) = true := by decide +kernel
set_option maxRecDepth 65536 in
theorem w_t3 : (((words1.drop 24).drop 24).take 24).all (fun c => isCode c || c.before args0 about1) = true := by decide +kernel
set_option maxRecDepth 65536 in
theorem w_t4 : (((words1.drop 24).drop 24).drop 24).all (fun c => isCode c || c.before args0 about1) = true := by decide +kernel
theorem w_tables : (allAtoms (Jvm.Cond.code x code maxLocals ret :: tables_1)).before args0 about1 = true := by
  rw [allAtoms_all]
  show words1.all (fun c => c.before args0 about1) = true
  refine all_split ?_ w_codes
  rw [← List.take_append_drop 24 words1, List.all_append, w_t1, ← List.take_append_drop 24 (words1.drop 24), List.all_append, w_t2, ← List.take_append_drop 24 ((words1.drop 24).drop 24), List.all_append, w_t3, w_t4]
  rfl
set_option maxRecDepth 65536 in
theorem w_rest : rest_1_c.before args0 about1 = true := by decide +kernel
set_option maxRecDepth 65536 in
theorem w_case : (Jvm.Cond.and given_1 narrow_1).before args0 about1 = true := by decide +kernel
set_option maxRecDepth 65536 in
theorem w_consts : constsHeld consts_1 about1 := Jvm.Lit.constsHeldB_iff.mp (by decide +kernel)
theorem w_applies : (headSpec (Jvm.Cond.code x code maxLocals ret :: tables_1) room_1).applies x e0.platform about1 = true :=
  (Spec.applies_iff w_frames).mpr ⟨w_running, w_runnable, w_alone, w_named, w_hears, w_ripe, w_room, w_tables⟩
theorem atStart : AtStart classFile x code maxLocals ret World_1 tables_1 room_1 Calls_1 rest_1 Pre_1 launch0 p0 e0 about1 theMethod args0 below0 :=
  ⟨lists_1, trivial, launch0.admits_env _ _ _, launch0.least_env, fairChoices_fair.cas, fairChoices_fair.clock, w_frames, w_args, w_heap, w_applies, ⟨w_consts, trivial⟩, w_rest, w_case⟩
end start1
theorem witness_1 : WitnessClaimed_1 := ⟨start1.p0, start1.e0, start1.about1, start1.theMethod, start1.args0, start1.below0, start1.atStart⟩
end Jvm.Pilot.@@N@@
