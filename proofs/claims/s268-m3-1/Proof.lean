import JvmDerived
import JvmDerived.Pilot.@@N@@Statement
import JvmDerived.Pilot.@@N@@Code
set_option linter.unusedVariables false
set_option linter.unusedSimpArgs false
@@BLOCK:NumsL.lean.txt@@
/- laws to paste: Road.backV, Road.lenW, Road.chN, Road.codOf (cut by pick.py; bodies as the Statement names them) -/
namespace Jvm.Pilot.@@N@@
namespace StrChars
open Jvm Sem ClassFile Op Lib Jvm.Stand Jvm.Free.XT Jvm.Free.ALB Jvm.Free.JM Jvm.Free
open Jvm.Lib.Cold (StaticIs)
/-- a char array whose places are chars -/
def Ch (a : Addr) (A : Cell) (U : State) : Prop := Arr .char a A U ∧ Typed .char A
theorem Ch.mv {a : Addr} {A : Cell} {U U' : State} (h : Ch a A U) (hal : U.vm.Alike U'.vm) (hh : U'.heap = U.heap) : Ch a A U' := ⟨h.1.mv hal hh, h.2⟩
theorem Ch.keep {a : Addr} {A : Cell} {U U' : State} (h : Ch a A U) (hal : U.vm.Alike U'.vm) (hk : U'.heap[a]? = some A) : Ch a A U' := ⟨h.1.keep hal hk, h.2⟩
/-- what place i of a char[]'s cell holds -/
def cv (A : Cell) (i : Nat) : Int32 := match A.slots[i]? with | some (.int x) => x | _ => 0
theorem Ch.get {a : Addr} {A : Cell} {U : State} (h : Ch a A U) {i : Nat} (hi : i < A.slots.size) : A.slots[i]? = some (.int (cv A i)) := by
  have e := Array.getElem?_eq_getElem hi
  have f := h.2 i _ e
  unfold cv; rw [e]
  generalize A.slots[i] = v at f
  cases v <;> simp [fits] at f ⊢
/-- the byte that i2b leaves of a char -/
def lo8 (x : Int32) : Int32 := x.toInt8.toInt32
theorem fits_lo8 (y : Int32) : fits .byte (.int (lo8 y)) = true := by
  have h1 := y.toInt8.le_toInt
  have h2 := y.toInt8.toInt_lt
  simp only [lo8, fits, Bool.and_eq_true, decide_eq_true_eq, Int32.le_iff_toInt_le, Int8.toInt_toInt32, show (-128 : Int32).toInt = -128 from by decide, show (127 : Int32).toInt = 127 from by decide]
  omega
/-- A' is A but that each place j of lo .. hi - 1 holds f j -/
def Laid (A A' : Cell) (lo hi : Nat) (f : Nat → Value) : Prop := A'.cls = A.cls ∧ A'.vm = A.vm ∧ A'.slots.size = A.slots.size ∧ ∀ i, A'.slots[i]? = if lo ≤ i ∧ i < hi then some (f i) else A.slots[i]?
theorem Laid.zero (A : Cell) (lo : Nat) (f : Nat → Value) : Laid A A lo (lo + 0) f := ⟨rfl, rfl, rfl, fun i => by rw [if_neg (by omega)]⟩
theorem Laid.step {A Ak : Cell} {lo k : Nat} {f : Nat → Value} {v : Value} (h : Laid A Ak lo k f) (hlo : lo ≤ k) (hk : k < Ak.slots.size) (hv : v = f k) : Laid A (Ak.setSlot k v) lo (k + 1) f := by
  refine ⟨h.1, h.2.1, by simpa [Cell.setSlot] using h.2.2.1, fun i => ?_⟩
  by_cases e : k = i
  · subst e; rw [Cell.slots_setSlot_self v hk, if_pos (by omega), hv]
  · rw [Cell.slots_setSlot_ne v e, h.2.2.2 i]
    by_cases q : lo ≤ i ∧ i < k
    · rw [if_pos q, if_pos (by omega)]
    · rw [if_neg q, if_neg (by omega)]
def U16 : String := "java/lang/StringUTF16"
namespace Cmp5
def yN : MethodName := ⟨"java/lang/StringUTF16", "compress", "([CI[BII)I"⟩
abbrev yB : ByteArray := jdk_52_method_21_code
theorem d0 : decode yB 0 = .ok (.iconst 0, 1) := by decide +kernel
theorem d1 : decode yB 1 = .ok (.istore 5, 2) := by decide +kernel
theorem d3 : decode yB 3 = .ok (.iload 5, 2) := by decide +kernel
theorem d5 : decode yB 5 = .ok (.iload 4, 2) := by decide +kernel
theorem d7 : decode yB 7 = .ok (.if_icmp (.ge) 37, 3) := by decide +kernel
theorem d10 : decode yB 10 = .ok (.aload_n 0, 1) := by decide +kernel
theorem d11 : decode yB 11 = .ok (.iload_n 1, 1) := by decide +kernel
theorem d12 : decode yB 12 = .ok (.caload, 1) := by decide +kernel
theorem d13 : decode yB 13 = .ok (.istore 6, 2) := by decide +kernel
theorem d15 : decode yB 15 = .ok (.iload 6, 2) := by decide +kernel
theorem d17 : decode yB 17 = .ok (.sipush 255, 3) := by decide +kernel
theorem d20 : decode yB 20 = .ok (.if_icmp (.le) 6, 3) := by decide +kernel
theorem d26 : decode yB 26 = .ok (.aload_n 2, 1) := by decide +kernel
theorem d27 : decode yB 27 = .ok (.iload_n 3, 1) := by decide +kernel
theorem d28 : decode yB 28 = .ok (.iload 6, 2) := by decide +kernel
theorem d30 : decode yB 30 = .ok (.i2b, 1) := by decide +kernel
theorem d31 : decode yB 31 = .ok (.bastore, 1) := by decide +kernel
theorem d32 : decode yB 32 = .ok (.iinc 1 1, 3) := by decide +kernel
theorem d35 : decode yB 35 = .ok (.iinc 3 1, 3) := by decide +kernel
theorem d38 : decode yB 38 = .ok (.iinc 5 1, 3) := by decide +kernel
theorem d41 : decode yB 41 = .ok (.goto (-38), 3) := by decide +kernel
theorem d44 : decode yB 44 = .ok (.iload 4, 2) := by decide +kernel
theorem d46 : decode yB 46 = .ok (.ireturn, 1) := by decide +kernel
def site : List Cond := []
def tab : Cond := tabOf yN yB 7 (some .int) site
def P (b : Addr) (A : Cell) (d : Addr) (B : Cell) (o q len : Nat) (args : Array Value) (s : State) : Prop := args = #[.ref b, .int (Int32.ofNat o), .ref d, .int (Int32.ofNat q), .int (Int32.ofNat len)] ∧ Ch b A s ∧ Arr .byte d B s ∧ b ≠ d ∧ o + len ≤ A.slots.size ∧ q + len ≤ B.slots.size ∧ ∀ i, i < len → ¬ 255 < cv A (o + i)
def E (b : Addr) (A : Cell) (d : Addr) (B : Cell) (o q len : Nat) (r : Option Value) (s u : State) : Prop := r = some (.int (Int32.ofNat len)) ∧ ∃ B', Put d B' s u ∧ Laid B B' q (q + len) (fun j => Value.int (lo8 (cv A (o + (j - q)))))
/-- no char of the range above 255: len; the places written hold each char's low byte -/
theorem law (l : Launch) (b : Addr) (A : Cell) (d : Addr) (B : Cell) (o q len : Nat) : Law l yN 5 5 0 0 yB 7 (some .int) site (P b A d B o q len) (E b A d B o q len) (copyLocs d q len) 0 0 := by
  refine Law.of_walk (plainFor_of_name (by decide +kernel)) (by decide +kernel) (by decide +kernel) (by decide) (fun _ _ h => by rw [h.1]; rfl) (fun _ U U' hal hh h => ⟨h.1, h.2.1.mv hal hh, h.2.2.1.mv hal hh, h.2.2.2⟩) (fun r U U' V V' h1 hal h2 h => ⟨h.1, h.2.elim fun B' q => ⟨B', q.1.mv h1 h2, q.2⟩⟩) ?_
  intro p e s m args below meth c s₁ X0 hexec hbytes hml hret hlk hnm hown hh0 W hP
  obtain ⟨rfl, hA, hB, hne, l1, l2, hp⟩ := hP
  have c1 : Steps p.tables e below (s₁.setTop (entryFrame m #[.ref b, .int (Int32.ofNat o), .ref d, .int (Int32.ofNat q), .int (Int32.ofNat len)] 7)) (s₁.setTop (mkF m 0 #[.val (.ref b), .val (.int (Int32.ofNat o)), .val (.ref d), .val (.int (Int32.ofNat q)), .val (.int (Int32.ofNat len)), .unset, .unset] [])) := entry rfl
  have hA0 := hA.1.mv X0.warmed.alike hh0
  have hB0 := hB.mv X0.warmed.alike hh0
  have a31 := hA.1.2.2.2
  have c2 : Steps p.tables e below (s₁.setTop (entryFrame m #[.ref b, .int (Int32.ofNat o), .ref d, .int (Int32.ofNat q), .int (Int32.ofNat len)] 7)) (s₁.setTop (mkF m 3 #[.val (.ref b), .val (.int (Int32.ofNat o)), .val (.ref d), .val (.int (Int32.ofNat q)), .val (.int (Int32.ofNat len)), .val (.int 0), .unset] [])) := c1.trans (by
    refine iconstV X0.here hexec rfl 0 (hb hbytes d0) (by decide) ?_
    refine XS.istore X0.here hexec rfl (hb hbytes d1) rfl rfl ?_
    exact Steps.refl _)
  have loop : ∀ (r i : Nat), i + r = len → ∀ (z : Slot), (z = .unset ∨ ∃ w, z = .val w ∧ w.category = 1) → ∀ (Tl : State) (Bk : Cell), Stand p l e { frames := 0, locals := 0, cells := 0, slots := 0 } s m #[.ref b, .int (Int32.ofNat o), .ref d, .int (Int32.ofNat q), .int (Int32.ofNat len)] below meth c Tl ([] ++ copyLocs d q i) 0 0 → Put d Bk s₁ Tl → Laid B Bk q (q + i) (fun j => Value.int (lo8 (cv A (o + (j - q))))) →
      Steps p.tables e below (s₁.setTop (entryFrame m #[.ref b, .int (Int32.ofNat o), .ref d, .int (Int32.ofNat q), .int (Int32.ofNat len)] 7)) (Tl.setTop (mkF m 3 #[.val (.ref b), .val (.int (Int32.ofNat (o + i))), .val (.ref d), .val (.int (Int32.ofNat (q + i))), .val (.int (Int32.ofNat len)), .val (.int (Int32.ofNat i)), z] [])) → ∃ (T' : State) (B' : Cell) (z' : Slot), Stand p l e { frames := 0, locals := 0, cells := 0, slots := 0 } s m #[.ref b, .int (Int32.ofNat o), .ref d, .int (Int32.ofNat q), .int (Int32.ofNat len)] below meth c T' ([] ++ copyLocs d q len) 0 0 ∧ Put d B' s₁ T' ∧ Laid B B' q (q + len) (fun j => Value.int (lo8 (cv A (o + (j - q))))) ∧
      Steps p.tables e below (s₁.setTop (entryFrame m #[.ref b, .int (Int32.ofNat o), .ref d, .int (Int32.ofNat q), .int (Int32.ofNat len)] 7)) (T'.setTop (mkF m 3 #[.val (.ref b), .val (.int (Int32.ofNat (o + len))), .val (.ref d), .val (.int (Int32.ofNat (q + len))), .val (.int (Int32.ofNat len)), .val (.int (Int32.ofNat len)), z'] [])) := by
    intro r
    induction r with
    | zero =>
      intro i hi z hz Tl Bk Xl pl fl cl
      have hil : i = len := by omega
      rw [hil] at Xl fl cl
      exact ⟨Tl, Bk, z, Xl, pl, fl, cl⟩
    | succ r ih =>
      intro i hi z hz Tl Bk Xl pl fl cl
      have all := X0.warmed.alike.symm.trans Xl.warmed.alike
      have hAl := hA0.keep all (pl.other hne hA0.1)
      have hBk := hB0.like all pl.1 fl.1 fl.2.1 fl.2.2.1
      have hlt : q + i < Bk.slots.size := by rw [fl.2.2.1]; omega
      have c3 : Steps p.tables e below (s₁.setTop (entryFrame m #[.ref b, .int (Int32.ofNat o), .ref d, .int (Int32.ofNat q), .int (Int32.ofNat len)] 7)) (Tl.setTop (mkF m 12 #[.val (.ref b), .val (.int (Int32.ofNat (o + i))), .val (.ref d), .val (.int (Int32.ofNat (q + i))), .val (.int (Int32.ofNat len)), .val (.int (Int32.ofNat i)), z] [.int (Int32.ofNat (o + i)), .ref b])) := cl.trans (by
        refine XS.iload Xl.here hexec rfl (hb hbytes d3) rfl ?_
        refine XS.iload Xl.here hexec rfl (hb hbytes d5) rfl ?_
        refine XS.icmpNo Xl.here hexec rfl (hb hbytes d7) rfl (ii_ge_f (lt32 (by omega) (by omega))) ?_
        refine XS.aloadN Xl.here hexec rfl (hb hbytes d10) rfl rfl ?_
        refine XS.iloadN Xl.here hexec rfl (hb hbytes d11) rfl ?_
        exact Steps.refl _)
      have c4 : Steps p.tables e below (s₁.setTop (entryFrame m #[.ref b, .int (Int32.ofNat o), .ref d, .int (Int32.ofNat q), .int (Int32.ofNat len)] 7)) (Tl.setTop (mkF m 13 #[.val (.ref b), .val (.int (Int32.ofNat (o + i))), .val (.ref d), .val (.int (Int32.ofNat (q + i))), .val (.int (Int32.ofNat len)), .val (.int (Int32.ofNat i)), z] [.int (cv A (o + i))])) := c3.trans (by
        refine Xl.aget hexec hAl rfl (hA.get (i := o + i) (by omega)) rfl rfl (hb hbytes d12) ?_
        exact Steps.refl _)
      have c5 : Steps p.tables e below (s₁.setTop (entryFrame m #[.ref b, .int (Int32.ofNat o), .ref d, .int (Int32.ofNat q), .int (Int32.ofNat len)] 7)) (Tl.setTop (mkF m 15 #[.val (.ref b), .val (.int (Int32.ofNat (o + i))), .val (.ref d), .val (.int (Int32.ofNat (q + i))), .val (.int (Int32.ofNat len)), .val (.int (Int32.ofNat i)), .val (.int (cv A (o + i)))] [])) := c4.trans (by
        refine XS.istoreS Xl.here hexec rfl (hb hbytes d13) rfl rfl hz ?_
        exact Steps.refl _)
      have c6 : Steps p.tables e below (s₁.setTop (entryFrame m #[.ref b, .int (Int32.ofNat o), .ref d, .int (Int32.ofNat q), .int (Int32.ofNat len)] 7)) (Tl.setTop (mkF m 31 #[.val (.ref b), .val (.int (Int32.ofNat (o + i))), .val (.ref d), .val (.int (Int32.ofNat (q + i))), .val (.int (Int32.ofNat len)), .val (.int (Int32.ofNat i)), .val (.int (cv A (o + i)))] [.int (lo8 (cv A (o + i))), .int (Int32.ofNat (q + i)), .ref d])) := c5.trans (by
        refine XS.iload Xl.here hexec rfl (hb hbytes d15) rfl ?_
        refine sipushV Xl.here hexec rfl 255 (hb hbytes d17) (by decide) ?_
        refine XS.icmpYes Xl.here hexec rfl (pc0 := 20) rfl (hb hbytes d20) rfl (ii_le_t (hp i (by omega))) (by decide) rfl ?_
        refine XS.aloadN Xl.here hexec rfl (hb hbytes d26) rfl rfl ?_
        refine XS.iloadN Xl.here hexec rfl (hb hbytes d27) rfl ?_
        refine XS.iload Xl.here hexec rfl (hb hbytes d28) rfl ?_
        refine i2b Xl.here hexec rfl (hb hbytes d30) rfl ?_
        exact Steps.refl _)
      obtain ⟨T7, X7, p7, st7⟩ := Xl.aput hexec hBk rfl hlt rfl (fits_lo8 (cv A (o + i))) (g := (mkF m 31 #[.val (.ref b), .val (.int (Int32.ofNat (o + i))), .val (.ref d), .val (.int (Int32.ofNat (q + i))), .val (.int (Int32.ofNat len)), .val (.int (Int32.ofNat i)), .val (.int (cv A (o + i)))] [.int (lo8 (cv A (o + i))), .int (Int32.ofNat (q + i)), .ref d])) rfl (rest := []) rfl (hb hbytes d31)
      have c8 : Steps p.tables e below (s₁.setTop (entryFrame m #[.ref b, .int (Int32.ofNat o), .ref d, .int (Int32.ofNat q), .int (Int32.ofNat len)] 7)) (T7.setTop (mkF m 32 #[.val (.ref b), .val (.int (Int32.ofNat (o + i))), .val (.ref d), .val (.int (Int32.ofNat (q + i))), .val (.int (Int32.ofNat len)), .val (.int (Int32.ofNat i)), .val (.int (cv A (o + i)))] [])) := c6.trans (st7 _ (Steps.refl _))
      have c9 : Steps p.tables e below (s₁.setTop (entryFrame m #[.ref b, .int (Int32.ofNat o), .ref d, .int (Int32.ofNat q), .int (Int32.ofNat len)] 7)) (T7.setTop (mkF m 3 #[.val (.ref b), .val (.int (Int32.ofNat (o + i) + 1)), .val (.ref d), .val (.int (Int32.ofNat (q + i) + 1)), .val (.int (Int32.ofNat len)), .val (.int (Int32.ofNat i + 1)), .val (.int (cv A (o + i)))] [])) := c8.trans (by
        refine iincV X7.here hexec rfl 1 (hb hbytes d32) (by decide) rfl rfl ?_
        refine iincV X7.here hexec rfl 1 (hb hbytes d35) (by decide) rfl rfl ?_
        refine iincV X7.here hexec rfl 1 (hb hbytes d38) (by decide) rfl rfl ?_
        refine XS.goto X7.here hexec rfl (pc0 := 41) rfl (hb hbytes d41) (by decide) rfl ?_
        exact Steps.refl _)
      have c10 : Steps p.tables e below (s₁.setTop (entryFrame m #[.ref b, .int (Int32.ofNat o), .ref d, .int (Int32.ofNat q), .int (Int32.ofNat len)] 7)) (T7.setTop (mkF m 3 #[.val (.ref b), .val (.int (Int32.ofNat (o + (i + 1)))), .val (.ref d), .val (.int (Int32.ofNat (q + (i + 1)))), .val (.int (Int32.ofNat len)), .val (.int (Int32.ofNat (i + 1))), .val (.int (cv A (o + i)))] [])) := by
        have := c9
        rw [succ32, succ32, succ32] at this
        exact this
      exact ih (i + 1) (by omega) _ (Or.inr ⟨_, rfl, rfl⟩) T7 _ (by rw [copyLocs_step, ← List.append_assoc]; exact X7) (pl.trans p7) (fl.step (by omega) hlt (by simp)) c10
  obtain ⟨T9, B9, z9, X9, p9, f9, g9⟩ := loop len 0 (by omega) .unset (Or.inl rfl) s₁ B (by simpa [copyLocs] using X0) ⟨hB0.1, fun _ _ => rfl, rfl⟩ (Laid.zero _ _ _) c2
  have c11 : Steps p.tables e below (s₁.setTop (entryFrame m #[.ref b, .int (Int32.ofNat o), .ref d, .int (Int32.ofNat q), .int (Int32.ofNat len)] 7)) (T9.setTop (mkF m 46 #[.val (.ref b), .val (.int (Int32.ofNat (o + len))), .val (.ref d), .val (.int (Int32.ofNat (q + len))), .val (.int (Int32.ofNat len)), .val (.int (Int32.ofNat len)), z9] [.int (Int32.ofNat len)])) := g9.trans (by
    refine XS.iload X9.here hexec rfl (hb hbytes d3) rfl ?_
    refine XS.iload X9.here hexec rfl (hb hbytes d5) rfl ?_
    refine XS.icmpYes X9.here hexec rfl (pc0 := 7) rfl (hb hbytes d7) rfl (ii_ge_t (nlt32 (by omega) (Nat.le_refl _))) (by decide) rfl ?_
    refine XS.iload X9.here hexec rfl (hb hbytes d44) rfl ?_
    exact Steps.refl _)
  exact ⟨T9, some (.int (Int32.ofNat len)), _, _, _, X9, by simp, rfl, rfl, (fun h => by cases h), ⟨rfl, B9, p9.from hh0, f9⟩, fun fs hl => c11.trans (X9.ireturnOut hexec hret rfl (Or.inl rfl) (hb hbytes d46) hl)⟩
end Cmp5
namespace Cmp3
def yN : MethodName := ⟨"java/lang/StringUTF16", "compress", "([CII)[B"⟩
abbrev yB : ByteArray := jdk_52_method_16_code
theorem d0 : decode yB 0 = .ok (.iload_n 2, 1) := by decide +kernel
theorem d1 : decode yB 1 = .ok (.newarray .byte, 2) := by decide +kernel
theorem d3 : decode yB 3 = .ok (.astore_n 3, 1) := by decide +kernel
theorem d4 : decode yB 4 = .ok (.aload_n 0, 1) := by decide +kernel
theorem d5 : decode yB 5 = .ok (.iload_n 1, 1) := by decide +kernel
theorem d6 : decode yB 6 = .ok (.aload_n 3, 1) := by decide +kernel
theorem d7 : decode yB 7 = .ok (.iconst 0, 1) := by decide +kernel
theorem d8 : decode yB 8 = .ok (.iload_n 2, 1) := by decide +kernel
theorem d9 : decode yB 9 = .ok (.invokestatic 115, 3) := by decide +kernel
theorem d12 : decode yB 12 = .ok (.istore 4, 2) := by decide +kernel
theorem d14 : decode yB 14 = .ok (.iload 4, 2) := by decide +kernel
theorem d16 : decode yB 16 = .ok (.iload_n 2, 1) := by decide +kernel
theorem d17 : decode yB 17 = .ok (.if_icmp (.eq) 40, 3) := by decide +kernel
theorem d57 : decode yB 57 = .ok (.aload_n 3, 1) := by decide +kernel
theorem d58 : decode yB 58 = .ok (.areturn, 1) := by decide +kernel
def site : List Cond := [.arrayClass .byte, Cmp5.tab] ++ staticW U16 115 Cmp5.yN
def tab : Cond := tabOf yN yB 6 (some (.array .byte)) site
def P (b : Addr) (A : Cell) (o len : Nat) (args : Array Value) (s : State) : Prop := args = #[.ref b, .int (Int32.ofNat o), .int (Int32.ofNat len)] ∧ Ch b A s ∧ o + len ≤ A.slots.size ∧ len ≤ 536870912 ∧ ∀ i, i < len → ¬ 255 < cv A (o + i)
def E (b : Addr) (A : Cell) (o len : Nat) (r : Option Value) (s u : State) : Prop := NewArr .byte "[B" len (fun j => .int (lo8 (cv A (o + j)))) r s u ∧ u.heap.size = s.heap.size + 1
/-- no char of the range above 255: a new byte[] of their low bytes -/
theorem law (l : Launch) (b : Addr) (A : Cell) (o len : Nat) : Law l yN 3 3 1 18 yB 6 (some (.array .byte)) site (P b A o len) (E b A o len) [] 1 len := by
  refine Law.of_walk (plainFor_of_name (by decide +kernel)) (by decide +kernel) (by decide +kernel) (by decide) (fun _ _ h => by rw [h.1]; rfl) (fun _ U U' hal hh h => ⟨h.1, h.2.1.mv hal hh, h.2.2⟩) (fun r U U' V V' h1 hal h2 h => ⟨NewArr.mv r U U' V V' h1 hal h2 h.1, by rw [h1, h2]; exact h.2⟩) ?_
  intro p e s m args below meth c s₁ X0 hexec hbytes hml hret hlk hnm hown hh0 W hP
  obtain ⟨rfl, hA, l1, l2, hp⟩ := hP
  have a31 := hA.1.2.2.2
  have c1 : Steps p.tables e below (s₁.setTop (entryFrame m #[.ref b, .int (Int32.ofNat o), .int (Int32.ofNat len)] 6)) (s₁.setTop (mkF m 0 #[.val (.ref b), .val (.int (Int32.ofNat o)), .val (.int (Int32.ofNat len)), .unset, .unset, .unset] [])) := entry rfl
  have c2 : Steps p.tables e below (s₁.setTop (entryFrame m #[.ref b, .int (Int32.ofNat o), .int (Int32.ofNat len)] 6)) (s₁.setTop (mkF m 1 #[.val (.ref b), .val (.int (Int32.ofNat o)), .val (.int (Int32.ofNat len)), .unset, .unset, .unset] [.int (Int32.ofNat len)])) := c1.trans (by
    refine XS.iloadN X0.here hexec rfl (hb hbytes d0) rfl ?_
    exact Steps.refl _)
  obtain ⟨T3, B3, X3, ba3, bs3, bv3, bh3, bf3, st3⟩ := X0.anew hexec (atype := .byte) (wk W (.arrayClass .byte)) rfl (by show len * 1 ≤ _; omega) (by omega) (g := (mkF m 1 #[.val (.ref b), .val (.int (Int32.ofNat o)), .val (.int (Int32.ofNat len)), .unset, .unset, .unset] [.int (Int32.ofNat len)])) rfl (hb hbytes d1) (rest := []) rfl (Nat.le_refl _) (by show 0 + len ≤ len; omega)
  rw [hh0] at ba3 st3
  have kp3 : XT.Kept s T3 := (XT.Kept.of_eq hh0).push bh3
  have hA3 := hA.keep X3.warmed.alike (kp3 _ _ hA.1.1)
  have hne : b ≠ s.heap.size := hA.1.ne
  have c4 : Steps p.tables e below (s₁.setTop (entryFrame m #[.ref b, .int (Int32.ofNat o), .int (Int32.ofNat len)] 6)) (T3.setTop (mkF m 3 #[.val (.ref b), .val (.int (Int32.ofNat o)), .val (.int (Int32.ofNat len)), .unset, .unset, .unset] [.ref s.heap.size])) := c2.trans (st3 _ (Steps.refl _))
  have c5 : Steps p.tables e below (s₁.setTop (entryFrame m #[.ref b, .int (Int32.ofNat o), .int (Int32.ofNat len)] 6)) (T3.setTop (mkF m 9 #[.val (.ref b), .val (.int (Int32.ofNat o)), .val (.int (Int32.ofNat len)), .val (.ref s.heap.size), .unset, .unset] [.int (Int32.ofNat len), .int 0, .ref s.heap.size, .int (Int32.ofNat o), .ref b])) := c4.trans (by
    refine XS.astoreN X3.here hexec rfl (hb hbytes d3) rfl rfl rfl ?_
    refine XS.aloadN X3.here hexec rfl (hb hbytes d4) rfl rfl ?_
    refine XS.iloadN X3.here hexec rfl (hb hbytes d5) rfl ?_
    refine XS.aloadN X3.here hexec rfl (hb hbytes d6) rfl rfl ?_
    refine iconstV X3.here hexec rfl 0 (hb hbytes d7) (by decide) ?_
    refine XS.iloadN X3.here hexec rfl (hb hbytes d8) rfl ?_
    exact Steps.refl _)
  obtain ⟨v6, T6, X6, E6, g6⟩ := X3.callS hexec (Cmp5.law l b A s.heap.size B3 o 0 len) hown (wks W (staticW U16 115 Cmp5.yN)) (wk W Cmp5.tab) (W := 0) (Nat.le_of_ble_eq_true rfl) (Nat.le_of_ble_eq_true rfl) (Nat.le_refl _) (by show 0 + len + 0 ≤ len; omega) (g := (mkF m 9 #[.val (.ref b), .val (.int (Int32.ofNat o)), .val (.int (Int32.ofNat len)), .val (.ref s.heap.size), .unset, .unset] [.int (Int32.ofNat len), .int (Int32.ofNat 0), .ref s.heap.size, .int (Int32.ofNat o), .ref b])) rfl (by rw [hml]; rfl) c5 (argsL := [.ref b, .int (Int32.ofNat o), .ref s.heap.size, .int (Int32.ofNat 0), .int (Int32.ofNat len)]) (rest := []) rfl rfl (by show 2 * 0 + 0 ≤ _; decide) (hb hbytes d9) (⟨rfl, hA3, ba3, hne, l1, by rw [bs3]; simp, hp⟩)
  obtain ⟨rfl, B6, p6, f6⟩ := E6
  have c7 : Steps p.tables e below (s₁.setTop (entryFrame m #[.ref b, .int (Int32.ofNat o), .int (Int32.ofNat len)] 6)) (T6.setTop (mkF m 12 #[.val (.ref b), .val (.int (Int32.ofNat o)), .val (.int (Int32.ofNat len)), .val (.ref s.heap.size), .unset, .unset] [.int (Int32.ofNat len)])) := g6
  have c8 : Steps p.tables e below (s₁.setTop (entryFrame m #[.ref b, .int (Int32.ofNat o), .int (Int32.ofNat len)] 6)) (T6.setTop (mkF m 58 #[.val (.ref b), .val (.int (Int32.ofNat o)), .val (.int (Int32.ofNat len)), .val (.ref s.heap.size), .val (.int (Int32.ofNat len)), .unset] [.ref s.heap.size])) := c7.trans (by
    refine XS.istore X6.here hexec rfl (hb hbytes d12) rfl rfl ?_
    refine XS.iload X6.here hexec rfl (hb hbytes d14) rfl ?_
    refine XS.iloadN X6.here hexec rfl (hb hbytes d16) rfl ?_
    refine XS.icmpYes X6.here hexec rfl (pc0 := 17) rfl (hb hbytes d17) rfl (ii_eq_t rfl) (by decide) rfl ?_
    refine XS.aloadN X6.here hexec rfl (hb hbytes d57) rfl rfl ?_
    exact Steps.refl _)
  have X8 := X6.wide (L' := []) (cells' := 1) (slots' := len) (fun x hx hlt => by
    simp only [List.nil_append, copyLocs, List.mem_map, List.mem_range] at hx
    obtain ⟨i, -, rfl⟩ := hx
    exact absurd hlt (Nat.lt_irrefl _)) (Nat.le_refl _) (by omega)
  exact ⟨T6, some (.ref s.heap.size), _, _, _, X8, rfl, rfl, rfl, (fun h => by cases h), ⟨⟨rfl, B6, ba3.like (X3.warmed.alike.symm.trans X6.warmed.alike) p6.1 f6.1 f6.2.1 f6.2.2.1, f6.2.1.trans bv3, by rw [X6.warmed.alike.findClass, f6.1]; exact bf3, by rw [f6.2.2.1, bs3]; simp, fun j hj => by rw [f6.2.2.2 j, if_pos (by omega)]; rfl, kp3.put p6 (Nat.le_refl _)⟩, by rw [p6.2.2, bh3, hh0]; simp⟩, fun fs hl => c8.trans (X8.areturnOut hexec rfl hret rfl (hb hbytes d58) hl)⟩
end Cmp3
namespace CodL
def yN : MethodName := ⟨"java/lang/StringUTF16", "coderFromArrayLen", "([BI)B"⟩
abbrev yB : ByteArray := jdk_52_method_15_code
theorem d0 : decode yB 0 = .ok (.iload_n 1, 1) := by decide +kernel
theorem d1 : decode yB 1 = .ok (.aload_n 0, 1) := by decide +kernel
theorem d2 : decode yB 2 = .ok (.arraylength, 1) := by decide +kernel
theorem d3 : decode yB 3 = .ok (.isub, 1) := by decide +kernel
theorem d4 : decode yB 4 = .ok (.bipush 31, 2) := by decide +kernel
theorem d6 : decode yB 6 = .ok (.iushr, 1) := by decide +kernel
theorem d7 : decode yB 7 = .ok (.i2b, 1) := by decide +kernel
theorem d8 : decode yB 8 = .ok (.ireturn, 1) := by decide +kernel
def site : List Cond := []
def tab : Cond := tabOf yN yB 2 (some .byte) site
def P (d : Addr) (B : Cell) (args : Array Value) (s : State) : Prop := args = #[.ref d, .int (Int32.ofNat B.slots.size)] ∧ Arr .byte d B s
def E (r : Option Value) (s u : State) : Prop := XT.PureE (some (.int 0)) r s u
/-- an array as long as the number of chars: LATIN1 -/
theorem law (l : Launch) (d : Addr) (B : Cell) : Law l yN 2 2 0 0 yB 2 (some .byte) site (P d B) E [] 0 0 := by
  refine Law.of_walk (plainFor_of_name (by decide +kernel)) (by decide +kernel) (by decide +kernel) (by decide) (fun _ _ h => by rw [h.1]; rfl) (fun _ U U' hal hh h => ⟨h.1, h.2.mv hal hh⟩) (fun r U U' V V' h1 hal h2 h => XT.PureE.mv r U U' V V' h1 hal h2 h) ?_
  intro p e s m args below meth c s₁ X0 hexec hbytes hml hret hlk hnm hown hh0 W hP
  obtain ⟨rfl, hB⟩ := hP
  have hB0 := hB.mv X0.warmed.alike hh0
  have c1 : Steps p.tables e below (s₁.setTop (entryFrame m #[.ref d, .int (Int32.ofNat B.slots.size)] 2)) (s₁.setTop (mkF m 0 #[.val (.ref d), .val (.int (Int32.ofNat B.slots.size))] [])) := entry rfl
  have c2 : Steps p.tables e below (s₁.setTop (entryFrame m #[.ref d, .int (Int32.ofNat B.slots.size)] 2)) (s₁.setTop (mkF m 2 #[.val (.ref d), .val (.int (Int32.ofNat B.slots.size))] [.ref d, .int (Int32.ofNat B.slots.size)])) := c1.trans (by
    refine XS.iloadN X0.here hexec rfl (hb hbytes d0) rfl ?_
    refine XS.aloadN X0.here hexec rfl (hb hbytes d1) rfl rfl ?_
    exact Steps.refl _)
  have c3 : Steps p.tables e below (s₁.setTop (entryFrame m #[.ref d, .int (Int32.ofNat B.slots.size)] 2)) (s₁.setTop (mkF m 8 #[.val (.ref d), .val (.int (Int32.ofNat B.slots.size))] [.int (lo8 (ushr (Int32.ofNat B.slots.size - Int32.ofNat B.slots.size) 31))])) := c2.trans (by
    refine X0.alen hexec hB0 rfl rfl (hb hbytes d2) ?_
    refine XS.isub X0.here hexec rfl (hb hbytes d3) rfl ?_
    refine bipushV X0.here hexec rfl 31 (hb hbytes d4) (by decide) ?_
    refine iushr X0.here hexec rfl (hb hbytes d6) rfl ?_
    refine i2b X0.here hexec rfl (hb hbytes d7) rfl ?_
    exact Steps.refl _)
  have e0 : lo8 (ushr (Int32.ofNat B.slots.size - Int32.ofNat B.slots.size) 31) = 0 := by rw [Int32.sub_self]; decide
  rw [e0] at c3
  exact ⟨s₁, some (.int 0), _, _, _, X0, rfl, rfl, rfl, (fun h => by cases h), ⟨rfl, hh0⟩, fun fs hl => c3.trans (X0.ireturnOut hexec hret rfl (Or.inr (Or.inr (Or.inl rfl))) (hb hbytes d8) hl)⟩
end CodL
/-- the String at a is Latin-1 over a new byte[] (the heap's one new cell): the low bytes of the len chars of A from o on; every cell but a is kept -/
def Got (a : Addr) (D : Cell) (fV fC : Field) (A : Cell) (o len : Nat) (r : Option Value) (s u : State) : Prop := r = none ∧ ∃ D' V : Cell, Blank "java/lang/String" a D' u ∧ Same D D' [fV.slot, fC.slot] ∧ D'.slots[fV.slot]? = some (.ref s.heap.size) ∧ D'.slots[fC.slot]? = some (.int 0) ∧ Arr .byte s.heap.size V u ∧ V.vm = .none ∧ u.vm.findClass "[B" = some V.cls ∧ V.slots.size = len ∧ (∀ j, j < len → V.slots[j]? = some (.int (lo8 (cv A (o + j))))) ∧ (∀ (y : Addr) (c : Cell), y ≠ a → s.heap[y]? = some c → u.heap[y]? = some c) ∧ u.heap.size = s.heap.size + 1
theorem Got.mv {a : Addr} {D A : Cell} {fV fC : Field} {o len : Nat} : ∀ r (U U' V V' : State), U'.heap = U.heap → V.vm.Alike V'.vm → V'.heap = V.heap → Got a D fV fC A o len r U V → Got a D fV fC A o len r U' V' :=
  fun r U U' V V' h1 hal h2 ⟨e0, D', X, a1, a2, a3, a4, a5, a6, a7, a8, a9, a10, a11⟩ => ⟨e0, D', X, a1.mv hal h2, a2, by rw [h1]; exact a3, a4, by rw [h1]; exact a5.mv hal h2, a6, by rw [hal.findClass]; exact a7, a8, a9, by rw [h1, h2]; exact a10, by rw [h1, h2]; exact a11⟩
namespace New4
def yN : MethodName := ⟨"java/lang/String", "<init>", "([CIILjava/lang/Void;)V"⟩
abbrev yB : ByteArray := jdk_42_method_149_code
theorem d0 : decode yB 0 = .ok (.aload_n 0, 1) := by decide +kernel
theorem d1 : decode yB 1 = .ok (.invokespecial 1, 3) := by decide +kernel
theorem d4 : decode yB 4 = .ok (.iload_n 3, 1) := by decide +kernel
theorem d5 : decode yB 5 = .ok (.ifCond (.ne) 22, 3) := by decide +kernel
theorem d27 : decode yB 27 = .ok (.getstatic 38, 3) := by decide +kernel
theorem d30 : decode yB 30 = .ok (.ifCond (.eq) 28, 3) := by decide +kernel
theorem d33 : decode yB 33 = .ok (.aload_n 1, 1) := by decide +kernel
theorem d34 : decode yB 34 = .ok (.iload_n 2, 1) := by decide +kernel
theorem d35 : decode yB 35 = .ok (.iload_n 3, 1) := by decide +kernel
theorem d36 : decode yB 36 = .ok (.invokestatic 177, 3) := by decide +kernel
theorem d39 : decode yB 39 = .ok (.astore 5, 2) := by decide +kernel
theorem d41 : decode yB 41 = .ok (.aload_n 0, 1) := by decide +kernel
theorem d42 : decode yB 42 = .ok (.aload 5, 2) := by decide +kernel
theorem d44 : decode yB 44 = .ok (.iload_n 3, 1) := by decide +kernel
theorem d45 : decode yB 45 = .ok (.invokestatic 47, 3) := by decide +kernel
theorem d48 : decode yB 48 = .ok (.putfield 15, 3) := by decide +kernel
theorem d51 : decode yB 51 = .ok (.aload_n 0, 1) := by decide +kernel
theorem d52 : decode yB 52 = .ok (.aload 5, 2) := by decide +kernel
theorem d54 : decode yB 54 = .ok (.putfield 9, 3) := by decide +kernel
theorem d57 : decode yB 57 = .ok (.return_, 1) := by decide +kernel
def site : List Cond := [.fieldLink "java/lang/String" 38 "java/lang/String" "COMPACT_STRINGS" "Z", Cmp3.tab, CodL.tab, .laysFinal "java/lang/String" "java/lang/String" "value" "[B", .fieldLink "java/lang/String" 9 "java/lang/String" "value" "[B", .laysFinal "java/lang/String" "java/lang/String" "coder" "B", .fieldLink "java/lang/String" 15 "java/lang/String" "coder" "B"] ++ objW "java/lang/String" 1 ++ staticW "java/lang/String" 177 Cmp3.yN ++ staticW "java/lang/String" 47 CodL.yN
def tab : Cond := tabOf yN yB 6 none site
def P (a : Addr) (D : Cell) (fV fC : Field) (b : Addr) (A : Cell) (z : Int32) (o len : Nat) (args : Array Value) (s : State) : Prop := args = #[.ref a, .ref b, .int (Int32.ofNat o), .int (Int32.ofNat len), .null] ∧ Blank "java/lang/String" a D s ∧ Found "java/lang/String" "value" "[B" fV s ∧ Found "java/lang/String" "coder" "B" fC s ∧ Ch b A s ∧ StaticIs s "java/lang/String" "COMPACT_STRINGS" "Z" (.int z) ∧ ¬ z = 0 ∧ 0 < len ∧ o + len ≤ A.slots.size ∧ len ≤ 536870912 ∧ ∀ i, i < len → ¬ 255 < cv A (o + i)
def E (a : Addr) (D : Cell) (fV fC : Field) (A : Cell) (o len : Nat) (r : Option Value) (s u : State) : Prop := Got a D fV fC A o len r s u
/-- len > 0, no char of the range above 255: a Latin-1 String of their low bytes -/
theorem law (l : Launch) (a : Addr) (D : Cell) (fV fC : Field) (b : Addr) (A : Cell) (z : Int32) (o len : Nat) : Law l yN 5 4 2 35 yB 6 none site (P a D fV fC b A z o len) (E a D fV fC A o len) [⟨a, fC.slot⟩, ⟨a, fV.slot⟩] 1 len := by
  refine Law.of_walk (plainFor_of_name (by decide +kernel)) (by decide +kernel) (by decide +kernel) (by decide) (fun _ _ h => by rw [h.1]; rfl) (fun _ U U' hal hh h => ⟨h.1, h.2.1.mv hal hh, h.2.2.1.al hal, h.2.2.2.1.al hal, h.2.2.2.2.1.mv hal hh, h.2.2.2.2.2.1.there hal hh, h.2.2.2.2.2.2⟩) (fun r U U' V V' h1 hal h2 h => Got.mv r U U' V V' h1 hal h2 h) ?_
  intro p e s m args below meth c s₁ X0 hexec hbytes hml hret hlk hnm hown hh0 W hP
  obtain ⟨rfl, hB, f1, f2, hA, s1, hz, l0, l1, l2, hp⟩ := hP
  have a31 := hA.1.2.2.2
  have c1 : Steps p.tables e below (s₁.setTop (entryFrame m #[.ref a, .ref b, .int (Int32.ofNat o), .int (Int32.ofNat len), .null] 6)) (s₁.setTop (mkF m 0 #[.val (.ref a), .val (.ref b), .val (.int (Int32.ofNat o)), .val (.int (Int32.ofNat len)), .val .null, .unset] [])) := entry rfl
  have c2 : Steps p.tables e below (s₁.setTop (entryFrame m #[.ref a, .ref b, .int (Int32.ofNat o), .int (Int32.ofNat len), .null] 6)) (s₁.setTop (mkF m 1 #[.val (.ref a), .val (.ref b), .val (.int (Int32.ofNat o)), .val (.int (Int32.ofNat len)), .val .null, .unset] [.ref a])) := c1.trans (by
    refine XS.aloadN X0.here hexec rfl (hb hbytes d0) rfl rfl ?_
    exact Steps.refl _)
  obtain ⟨T3, X3, q3, st3⟩ := X0.oinit hexec hown (wks W (objW "java/lang/String" 1)) (g := (mkF m 1 #[.val (.ref a), .val (.ref b), .val (.int (Int32.ofNat o)), .val (.int (Int32.ofNat len)), .val .null, .unset] [.ref a])) rfl (by rw [hml]; rfl) (rest := []) rfl (hb hbytes d1) (W := 0) (by show 2 * 0 + 0 ≤ _; decide) (Nat.le_of_ble_eq_true rfl) (Nat.le_of_ble_eq_true rfl)
  have hh3 := q3.trans hh0
  have c4 : Steps p.tables e below (s₁.setTop (entryFrame m #[.ref a, .ref b, .int (Int32.ofNat o), .int (Int32.ofNat len), .null] 6)) (T3.setTop (mkF m 27 #[.val (.ref a), .val (.ref b), .val (.int (Int32.ofNat o)), .val (.int (Int32.ofNat len)), .val .null, .unset] [])) := (c2.trans (st3 _ (Steps.refl _))).trans (by
    refine XS.iloadN X3.here hexec rfl (hb hbytes d4) rfl ?_
    refine XS.ifYes X3.here hexec rfl (pc0 := 5) rfl (hb hbytes d5) rfl (i0_ne_t (nz32 (by omega) l0)) (by decide) rfl ?_
    exact Steps.refl _)
  obtain ⟨T5, X5, q5, st5⟩ := X3.sget hexec hown (wk W (.fieldLink "java/lang/String" 38 "java/lang/String" "COMPACT_STRINGS" "Z")) s1 (fun _ _ h => by rw [hh3]; exact h) (g := (mkF m 27 #[.val (.ref a), .val (.ref b), .val (.int (Int32.ofNat o)), .val (.int (Int32.ofNat len)), .val .null, .unset] [])) rfl (hb hbytes d27)
  have hh5 := q5.trans hh3
  have c6 : Steps p.tables e below (s₁.setTop (entryFrame m #[.ref a, .ref b, .int (Int32.ofNat o), .int (Int32.ofNat len), .null] 6)) (T5.setTop (mkF m 30 #[.val (.ref a), .val (.ref b), .val (.int (Int32.ofNat o)), .val (.int (Int32.ofNat len)), .val .null, .unset] [.int z])) := c4.trans (st5 _ (Steps.refl _))
  have c7 : Steps p.tables e below (s₁.setTop (entryFrame m #[.ref a, .ref b, .int (Int32.ofNat o), .int (Int32.ofNat len), .null] 6)) (T5.setTop (mkF m 36 #[.val (.ref a), .val (.ref b), .val (.int (Int32.ofNat o)), .val (.int (Int32.ofNat len)), .val .null, .unset] [.int (Int32.ofNat len), .int (Int32.ofNat o), .ref b])) := c6.trans (by
    refine XS.ifNo X5.here hexec rfl (hb hbytes d30) rfl (i0_eq_f hz) ?_
    refine XS.aloadN X5.here hexec rfl (hb hbytes d33) rfl rfl ?_
    refine XS.iloadN X5.here hexec rfl (hb hbytes d34) rfl ?_
    refine XS.iloadN X5.here hexec rfl (hb hbytes d35) rfl ?_
    exact Steps.refl _)
  obtain ⟨v8, T8, X8, E8, g8⟩ := X5.callS hexec (Cmp3.law l b A o len) hown (wks W (staticW "java/lang/String" 177 Cmp3.yN)) (wk W Cmp3.tab) (W := 0) (Nat.le_of_ble_eq_true rfl) (Nat.le_of_ble_eq_true rfl) (Nat.le_refl _) (by show 0 + len ≤ len; omega) (g := (mkF m 36 #[.val (.ref a), .val (.ref b), .val (.int (Int32.ofNat o)), .val (.int (Int32.ofNat len)), .val .null, .unset] [.int (Int32.ofNat len), .int (Int32.ofNat o), .ref b])) rfl (by rw [hml]; rfl) c7 (argsL := [.ref b, .int (Int32.ofNat o), .int (Int32.ofNat len)]) (rest := []) rfl rfl (by show 2 * 0 + 0 ≤ _; decide) (hb hbytes d36) (⟨rfl, hA.mv X5.warmed.alike hh5, l1, l2, hp⟩)
  obtain ⟨e8, z8⟩ := E8
  obtain ⟨rfl, N, n1, n2, n3, n4, n5, n6⟩ := NewArr.mv _ T5 s _ _ hh5.symm (Vm.Alike.refl _) rfl e8
  rw [hh5] at z8
  have hB1 := hB.keep X8.warmed.alike (n6 _ _ hB.1)
  have hne : s.heap.size ≠ a := (Nat.ne_of_lt (Array.getElem?_eq_some_iff.mp hB.1).1).symm
  have c9 : Steps p.tables e below (s₁.setTop (entryFrame m #[.ref a, .ref b, .int (Int32.ofNat o), .int (Int32.ofNat len), .null] 6)) (T8.setTop (mkF m 39 #[.val (.ref a), .val (.ref b), .val (.int (Int32.ofNat o)), .val (.int (Int32.ofNat len)), .val .null, .unset] [.ref s.heap.size])) := g8
  have c10 : Steps p.tables e below (s₁.setTop (entryFrame m #[.ref a, .ref b, .int (Int32.ofNat o), .int (Int32.ofNat len), .null] 6)) (T8.setTop (mkF m 45 #[.val (.ref a), .val (.ref b), .val (.int (Int32.ofNat o)), .val (.int (Int32.ofNat len)), .val .null, .val (.ref s.heap.size)] [.int (Int32.ofNat N.slots.size), .ref s.heap.size, .ref a])) := by
    have hc : Steps p.tables e below (s₁.setTop (entryFrame m #[.ref a, .ref b, .int (Int32.ofNat o), .int (Int32.ofNat len), .null] 6)) (T8.setTop (mkF m 45 #[.val (.ref a), .val (.ref b), .val (.int (Int32.ofNat o)), .val (.int (Int32.ofNat len)), .val .null, .val (.ref s.heap.size)] [.int (Int32.ofNat len), .ref s.heap.size, .ref a])) := c9.trans (by
      refine XS.astore X8.here hexec rfl (hb hbytes d39) rfl rfl rfl ?_
      refine XS.aloadN X8.here hexec rfl (hb hbytes d41) rfl rfl ?_
      refine XS.aload X8.here hexec rfl (hb hbytes d42) rfl rfl ?_
      refine XS.iloadN X8.here hexec rfl (hb hbytes d44) rfl ?_
      exact Steps.refl _)
    rw [n4]; exact hc
  obtain ⟨v11, T11, X11, E11, g11⟩ := X8.callS hexec (CodL.law l s.heap.size N) hown (wks W (staticW "java/lang/String" 47 CodL.yN)) (wk W CodL.tab) (W := 1) (Nat.le_of_ble_eq_true rfl) (Nat.le_of_ble_eq_true rfl) (Nat.le_refl _) (by show 0 + len + 0 ≤ len; omega) (g := (mkF m 45 #[.val (.ref a), .val (.ref b), .val (.int (Int32.ofNat o)), .val (.int (Int32.ofNat len)), .val .null, .val (.ref s.heap.size)] [.int (Int32.ofNat N.slots.size), .ref s.heap.size, .ref a])) rfl (by rw [hml]; rfl) c10 (argsL := [.ref s.heap.size, .int (Int32.ofNat N.slots.size)]) (rest := [.ref a]) rfl rfl (by show 2 * 0 + (1 + 0) ≤ _; decide) (hb hbytes d45) (⟨rfl, n1⟩)
  obtain ⟨rfl, q11⟩ := E11
  have hB11 := hB1.mv (X8.warmed.alike.symm.trans X11.warmed.alike) q11
  have c12 : Steps p.tables e below (s₁.setTop (entryFrame m #[.ref a, .ref b, .int (Int32.ofNat o), .int (Int32.ofNat len), .null] 6)) (T11.setTop (mkF m 48 #[.val (.ref a), .val (.ref b), .val (.int (Int32.ofNat o)), .val (.int (Int32.ofNat len)), .val .null, .val (.ref s.heap.size)] [.int 0, .ref a])) := g11
  obtain ⟨T13, X13, p13, bl13, sl13, st13⟩ := X11.finit hexec hown (wk W (.fieldLink "java/lang/String" 15 "java/lang/String" "coder" "B")) (Or.inr ⟨_, (wk W (.laysFinal "java/lang/String" "java/lang/String" "coder" "B"))⟩) (Or.inl ⟨rfl, hnm⟩) f2 (Or.inl rfl) hB11 (t := .byte) (by decide +kernel) rfl (g := (mkF m 48 #[.val (.ref a), .val (.ref b), .val (.int (Int32.ofNat o)), .val (.int (Int32.ofNat len)), .val .null, .val (.ref s.heap.size)] [.int 0, .ref a])) rfl (rest := []) rfl (hb hbytes d48)
  have c14 : Steps p.tables e below (s₁.setTop (entryFrame m #[.ref a, .ref b, .int (Int32.ofNat o), .int (Int32.ofNat len), .null] 6)) (T13.setTop (mkF m 54 #[.val (.ref a), .val (.ref b), .val (.int (Int32.ofNat o)), .val (.int (Int32.ofNat len)), .val .null, .val (.ref s.heap.size)] [.ref s.heap.size, .ref a])) := (c12.trans (st13 _ (Steps.refl _))).trans (by
    refine XS.aloadN X13.here hexec rfl (hb hbytes d51) rfl rfl ?_
    refine XS.aload X13.here hexec rfl (hb hbytes d52) rfl rfl ?_
    exact Steps.refl _)
  obtain ⟨T15, X15, p15, bl15, sl15, st15⟩ := X13.finit hexec hown (wk W (.fieldLink "java/lang/String" 9 "java/lang/String" "value" "[B")) (Or.inr ⟨_, (wk W (.laysFinal "java/lang/String" "java/lang/String" "value" "[B"))⟩) (Or.inl ⟨rfl, hnm⟩) f1 (Or.inl rfl) bl13 (t := (.array .byte)) (by decide +kernel) rfl (g := (mkF m 54 #[.val (.ref a), .val (.ref b), .val (.int (Int32.ofNat o)), .val (.int (Int32.ofNat len)), .val .null, .val (.ref s.heap.size)] [.ref s.heap.size, .ref a])) rfl (rest := []) rfl (hb hbytes d54)
  have c16 : Steps p.tables e below (s₁.setTop (entryFrame m #[.ref a, .ref b, .int (Int32.ofNat o), .int (Int32.ofNat len), .null] 6)) (T15.setTop (mkF m 57 #[.val (.ref a), .val (.ref b), .val (.int (Int32.ofNat o)), .val (.int (Int32.ofNat len)), .val .null, .val (.ref s.heap.size)] [])) := c14.trans (st15 _ (Steps.refl _))
  have ap := apart (Or.inr ⟨_, (wk W (.laysFinal "java/lang/String" "java/lang/String" "value" "[B"))⟩) (Or.inr ⟨_, (wk W (.laysFinal "java/lang/String" "java/lang/String" "coder" "B"))⟩) f1 f2 (t₁ := .array .byte) (t₂ := .byte) (by decide +kernel) (by decide +kernel) (by decide)
  have al := X8.warmed.alike.symm.trans X15.warmed.alike
  have n7 : T11.heap[s.heap.size]? = some N := by rw [q11]; exact n1.1
  exact ⟨T15, none, _, _, _, X15, by simp, rfl, by omega, (fun _ => rfl), ⟨rfl, _, N, bl15, ((Same.refl D _).set _ (by simp)).set _ (by simp), sl15, (Cell.slots_setSlot_ne _ ap).trans sl13, n1.keep al (p15.other hne (p13.other hne n7)), n2, by rw [al.findClass]; exact n3, n4, n5, fun y c h1 h2 => p15.other h1 (p13.other h1 (by rw [q11]; exact n6 y c h2)), by rw [p15.2.2, p13.2.2, q11]; exact z8⟩, fun fs hl => c16.trans (X15.returnOut hexec hret (hb hbytes d57) hl)⟩
end New4
namespace New1
def yN : MethodName := ⟨"java/lang/String", "<init>", "([C)V"⟩
abbrev yB : ByteArray := jdk_42_method_3_code
theorem d0 : decode yB 0 = .ok (.aload_n 0, 1) := by decide +kernel
theorem d1 : decode yB 1 = .ok (.aload_n 1, 1) := by decide +kernel
theorem d2 : decode yB 2 = .ok (.iconst 0, 1) := by decide +kernel
theorem d3 : decode yB 3 = .ok (.aload_n 1, 1) := by decide +kernel
theorem d4 : decode yB 4 = .ok (.arraylength, 1) := by decide +kernel
theorem d5 : decode yB 5 = .ok (.aconst_null, 1) := by decide +kernel
theorem d6 : decode yB 6 = .ok (.invokespecial 27, 3) := by decide +kernel
theorem d9 : decode yB 9 = .ok (.return_, 1) := by decide +kernel
def site : List Cond := [New4.tab] ++ initW "java/lang/String" 27 New4.yN
def tab : Cond := tabOf yN yB 2 none site
def P (a : Addr) (D : Cell) (fV fC : Field) (b : Addr) (A : Cell) (z : Int32) (args : Array Value) (s : State) : Prop := args = #[.ref a, .ref b] ∧ Blank "java/lang/String" a D s ∧ Found "java/lang/String" "value" "[B" fV s ∧ Found "java/lang/String" "coder" "B" fC s ∧ Ch b A s ∧ StaticIs s "java/lang/String" "COMPACT_STRINGS" "Z" (.int z) ∧ ¬ z = 0 ∧ 0 < A.slots.size ∧ A.slots.size ≤ 536870912 ∧ ∀ i, i < A.slots.size → ¬ 255 < cv A i
def E (a : Addr) (D : Cell) (fV fC : Field) (A : Cell) (r : Option Value) (s u : State) : Prop := Got a D fV fC A 0 A.slots.size r s u
/-- new String(chars), not empty, no char above 255: a Latin-1 String of their low bytes -/
theorem law (l : Launch) (a : Addr) (D : Cell) (fV fC : Field) (b : Addr) (A : Cell) (z : Int32) : Law l yN 2 1 3 52 yB 2 none site (P a D fV fC b A z) (E a D fV fC A) [⟨a, fC.slot⟩, ⟨a, fV.slot⟩] 1 A.slots.size := by
  refine Law.of_walk (plainFor_of_name (by decide +kernel)) (by decide +kernel) (by decide +kernel) (by decide) (fun _ _ h => by rw [h.1]; rfl) (fun _ U U' hal hh h => ⟨h.1, h.2.1.mv hal hh, h.2.2.1.al hal, h.2.2.2.1.al hal, h.2.2.2.2.1.mv hal hh, h.2.2.2.2.2.1.there hal hh, h.2.2.2.2.2.2⟩) (fun r U U' V V' h1 hal h2 h => Got.mv r U U' V V' h1 hal h2 h) ?_
  intro p e s m args below meth c s₁ X0 hexec hbytes hml hret hlk hnm hown hh0 W hP
  obtain ⟨rfl, hB, f1, f2, hA, s1, hz, l0, l2, hp⟩ := hP
  have c1 : Steps p.tables e below (s₁.setTop (entryFrame m #[.ref a, .ref b] 2)) (s₁.setTop (mkF m 0 #[.val (.ref a), .val (.ref b)] [])) := entry rfl
  have c2 : Steps p.tables e below (s₁.setTop (entryFrame m #[.ref a, .ref b] 2)) (s₁.setTop (mkF m 6 #[.val (.ref a), .val (.ref b)] [.null, .int (Int32.ofNat A.slots.size), .int 0, .ref b, .ref a])) := c1.trans (by
    refine XS.aloadN X0.here hexec rfl (hb hbytes d0) rfl rfl ?_
    refine XS.aloadN X0.here hexec rfl (hb hbytes d1) rfl rfl ?_
    refine iconstV X0.here hexec rfl 0 (hb hbytes d2) (by decide) ?_
    refine XS.aloadN X0.here hexec rfl (hb hbytes d3) rfl rfl ?_
    refine X0.alen hexec (hA.1.mv X0.warmed.alike hh0) rfl rfl (hb hbytes d4) ?_
    refine XS.aconstNull X0.here hexec rfl (hb hbytes d5) ?_
    exact Steps.refl _)
  obtain ⟨v3, T3, X3, E3, g3⟩ := X0.callN hexec (New4.law l a D fV fC b A z 0 A.slots.size) rfl hown (wks W (initW "java/lang/String" 27 New4.yN)) (W New4.tab (by simp only [site, List.mem_cons, List.mem_append, true_or, or_true])) (W := 0) (Nat.le_of_ble_eq_true rfl) (Nat.le_of_ble_eq_true rfl) (Nat.le_refl _) (by show 0 + A.slots.size ≤ A.slots.size; omega) (g := (mkF m 6 #[.val (.ref a), .val (.ref b)] [.null, .int (Int32.ofNat A.slots.size), .int (Int32.ofNat 0), .ref b, .ref a])) rfl (by rw [hml]; rfl) c2 (argsL := [.ref b, .int (Int32.ofNat 0), .int (Int32.ofNat A.slots.size), .null]) (rest := []) rfl rfl (by show 2 * 0 + 0 ≤ _; decide) (hb hbytes d6) (⟨rfl, hB.mv X0.warmed.alike hh0, f1.al X0.warmed.alike, f2.al X0.warmed.alike, hA.mv X0.warmed.alike hh0, s1.there X0.warmed.alike hh0, hz, l0, by omega, l2, fun i hi => by rw [Nat.zero_add]; exact hp i hi⟩)
  have e0 := Got.mv _ s₁ s _ _ hh0.symm (Vm.Alike.refl _) rfl E3
  obtain rfl := e0.1
  have c4 : Steps p.tables e below (s₁.setTop (entryFrame m #[.ref a, .ref b] 2)) (T3.setTop (mkF m 9 #[.val (.ref a), .val (.ref b)] [])) := g3
  exact ⟨T3, none, _, _, _, X3, by simp, rfl, by omega, (fun _ => rfl), e0, fun fs hl => c4.trans (X3.returnOut hexec hret (hb hbytes d9) hl)⟩
theorem pays {l : Launch} {R : Room} {p : Program} {e : Env} {below : List Frame} {s : State} {sargs : Array Value} {len W : Nat} (a : Addr) (D : Cell) (fV fC : Field) (b : Addr) (A : Cell) (z : Int32) (htab : tab.before sargs s = true) (hfr : 4 ≤ R.frames) (hlo : W + 65 ≤ R.locals) :
    Back l R p e below s sargs yN len W (fun A₁ a₁ => A₁.cells + 1 ≤ R.cells ∧ A₁.slots + A.slots.size ≤ R.slots ∧ P a D fV fC b A z a₁ A₁.U) (fun A₁ _ v₁ B₁ => E a D fV fC A v₁ A₁.U B₁.U ∧ B₁.locs = A₁.locs ++ [⟨a, fC.slot⟩, ⟨a, fV.slot⟩] ∧ B₁.cells = A₁.cells + 1 ∧ B₁.slots = A₁.slots + A.slots.size) :=
  (law l a D fV fC b A z).pays htab hfr (by omega)
end New1
/-- the byte, read back as charAt reads it, is the char -/
theorem lo8_mask {x : Int32} (h0 : ¬ x < 0) (h1 : ¬ 255 < x) : lo8 x &&& 255 = x := by
  have t : ∀ k : Fin 256, lo8 (Int32.ofNat k.val) &&& 255 = Int32.ofNat k.val := by decide +kernel
  rw [Int32.lt_iff_toInt_lt] at h0 h1
  have e0 : (0 : Int32).toInt = 0 := rfl
  have e1 : (255 : Int32).toInt = 255 := rfl
  obtain ⟨k, hk⟩ : ∃ k : Nat, x.toInt = k := ⟨x.toInt.toNat, by omega⟩
  have hx : x = Int32.ofNat k := Int32.toInt_inj.mp (by rw [hk, Int32.toInt_ofNat_small (by omega)])
  rw [hx]
  exact t ⟨k, by omega⟩
end StrChars
namespace StrChars.Road
open Jvm Sem ClassFile Op Lib Jvm.Stand Jvm.Free Jvm.Free.XT
open Jvm.Lib.Cold (StaticIs)
abbrev ST : String := "java/lang/String"
/-- every table word that New1's law asks, flat -/
abbrev words : List Jvm.Cond := [.code New1.yN New1.yB 2 none, .initialized ST, .methodLink ST 27 New4.yN, .instanceMethod New4.yN,
  .code New4.yN New4.yB 6 none, .fieldLink ST 38 ST "COMPACT_STRINGS" "Z", .laysFinal ST ST "value" "[B", .fieldLink ST 9 ST "value" "[B", .laysFinal ST ST "coder" "B", .fieldLink ST 15 ST "coder" "B",
  .methodLink ST 1 Lib.objectInit, .instanceMethod Lib.objectInit, .code Lib.objectInit ⟨#[0xb1]⟩ 1 none, .methodLink ST 177 Cmp3.yN, .static Cmp3.yN, .methodLink ST 47 CodL.yN, .static CodL.yN,
  .code Cmp3.yN Cmp3.yB 6 (some (.array .byte)), .initialized U16, .arrayClass .byte, .methodLink U16 115 Cmp5.yN, .static Cmp5.yN, .code Cmp5.yN Cmp5.yB 7 (some .int), .code CodL.yN CodL.yB 2 (some .byte)]
theorem tab_of {a : Array Value} {s : State} (h : ∀ w ∈ words, w.before a s = true) : New1.tab.before a s = true := by
  have h5 : Cmp5.tab.before a s = true := unparts (wk h (.code Cmp5.yN Cmp5.yB 7 (some .int))) (wks h (.initialized Cmp5.yN.cls :: Cmp5.site))
  have hc : CodL.tab.before a s = true := unparts (wk h (.code CodL.yN CodL.yB 2 (some .byte))) (wks h (.initialized CodL.yN.cls :: CodL.site))
  have q5 : ∀ w ∈ Cmp5.tab :: words, w.before a s = true := fun w hw => (List.mem_cons.mp hw).elim (fun e => e ▸ h5) (h w)
  have h3 : Cmp3.tab.before a s = true := unparts (wk q5 (.code Cmp3.yN Cmp3.yB 6 (some (.array .byte)))) (wks q5 (.initialized Cmp3.yN.cls :: Cmp3.site))
  have q3 : ∀ w ∈ Cmp3.tab :: CodL.tab :: words, w.before a s = true := fun w hw => (List.mem_cons.mp hw).elim (fun e => e ▸ h3) fun hw => (List.mem_cons.mp hw).elim (fun e => e ▸ hc) (h w)
  have h4 : New4.tab.before a s = true := unparts (wk q3 (.code New4.yN New4.yB 6 none)) (wks q3 (.initialized New4.yN.cls :: New4.site))
  have q4 : ∀ w ∈ New4.tab :: words, w.before a s = true := fun w hw => (List.mem_cons.mp hw).elim (fun e => e ▸ h4) (h w)
  exact unparts (wk q4 (.code New1.yN New1.yB 2 none)) (wks q4 (.initialized New1.yN.cls :: New1.site))
/-- the words ride from the start Z to the walk's own state -/
theorem moved {Z s : State} {a0 args : Array Value} (hZ : Z.Warmed39 s.vm) (hw : ∀ d ∈ words, d.before a0 Z = true) : ∀ d ∈ words, d.before args s = true := fun d hd => by
  have q := hw d hd
  have t : ∀ d ∈ words, d = .arrayClass .byte ∨ (d.onTables && d.keepsFace) = true := by decide +kernel
  rcases t d hd with rfl | t
  · exact RoadKit.mvA hZ q
  · exact RoadKit.mv hZ q t
/-- WHAT COMES BACK, over the tables of the start Z: h the heap at the call, h' behind it -/
def Q (Z : State) (x : Addr) (A : Cell) (h : Heap) (v : Option Value) (h' : Heap) (L : List Loc) : Prop := v = none ∧ (∀ y ∈ L, y.base = x) ∧ RoadKit.Keep h h' [x] ∧ h'.size = h.size + 1 ∧ RoadKit.Exa Z h' x ST ∧ RoadKit.Fld Z h' x ST "value" "[B" (.ref h.size) ∧ RoadKit.Fld Z h' x ST "coder" "B" (.int 0) ∧
  (∃ V : Cell, RoadKit.Arr Z h' h.size V .byte ∧ V.vm = .none ∧ Z.vm.findClass "[B" = some V.cls ∧ V.slots.size = A.slots.size ∧ ∀ j, j < A.slots.size → V.slots[j]? = some (.int (lo8 (cv A j)))) ∧
  ∀ (O n d : String) (w : Value), RoadKit.Fld Z h x O n d w → RoadKit.slotOf Z O n d ≠ RoadKit.slotOf Z ST "value" "[B" → RoadKit.slotOf Z O n d ≠ RoadKit.slotOf Z ST "coder" "B" → RoadKit.Fld Z h' x O n d w
/-- **new String(chars) AT A CALL, IN THE ROAD'S FORM**: for specialBack behind newO: x the fresh String, b the char[] with the cell A -/
theorem back {p : Program} {l : Launch} {e : Env} {R : Room} {s : State} {args : Array Value} {below : List Frame} {len W : Nat} {Z : State} {a0 : Array Value} {h : Heap} (hZ : Z.Warmed39 s.vm) (hw : ∀ d ∈ words, d.before a0 Z = true) {kI : Nat} (wi : (Jvm.Cond.instantiable ST kI).before a0 Z = true)
    {x b : Addr} {A : Cell} {z : Int32} {v0 c0 : Value} (E : RoadKit.Exa Z h x ST) (V : RoadKit.Fld Z h x ST "value" "[B" v0) (C : RoadKit.Fld Z h x ST "coder" "B" c0) (K : RoadKit.Arr Z h b A .char) (hty : Typed .char A) (S : RoadKit.Sta Z h ST "COMPACT_STRINGS" "Z" (.int z)) (hz : ¬ z = 0)
    (l0 : 0 < A.slots.size) (l2 : A.slots.size ≤ 536870912) (hp : ∀ i, i < A.slots.size → ¬ 255 < cv A i) (hfr : 4 ≤ R.frames) (hlo : W + 65 ≤ R.locals) :
    Back l R p e below s args New1.yN len W (fun P a => a = #[.ref x, .ref b] ∧ P.U.heap = h ∧ P.cells + 1 ≤ R.cells ∧ P.slots + A.slots.size ≤ R.slots)
      (fun P _ v B => ∃ L, Q Z x A h v B.U.heap L ∧ B.locs = P.locs ++ L ∧ B.cells = P.cells + 1 ∧ B.slots = P.slots + A.slots.size) := by
  intro m meth c P g ig mk a X hg hsize hdg hW hn hp'
  obtain ⟨rfl, rfl, r1, r2⟩ := hp'
  have al : Z.vm.Alike P.U.vm := hZ.alike.trans X.warmed.alike
  obtain ⟨D, cfV, kV, iV, fV, hD, gV, stV, knV, obV, asV, slV⟩ := id V
  obtain ⟨D', cfC, kC, iC, fC, hD', gC, stC, -, -, asC, slC⟩ := id C
  cases hD.symm.trans hD'
  obtain ⟨D2, kD, e1, e2, e3, e4, e5⟩ := id E
  cases hD.symm.trans e1
  obtain ⟨c2, k2, i1, i2, i3, -⟩ := Cond.instantiable_spec wi
  cases e2.symm.trans i1
  cases e3.symm.trans i2
  obtain ⟨kU, u1, u2⟩ := al.2.2 _ _ e3
  have hB : Blank ST x D P.U := ⟨hD, ⟨knV, fun q hq => by rw [hq] at obV; cases obV⟩, by rw [al.findClass]; exact e2, kU, u1, by rw [u2]; exact i3, by rw [u2]; exact e5 i3⟩
  have F1 : Found ST "value" "[B" fV P.U := ⟨SBG.found_only al ⟨cfV, kV, iV, gV⟩, stV⟩
  have F2 : Found ST "coder" "B" fC P.U := ⟨SBG.found_only al ⟨cfC, kC, iC, gC⟩, stC⟩
  have hA : Ch b A P.U := ⟨⟨K.1, State.isArrayOf_alike al K.2.1, K.2.2, by omega⟩, hty⟩
  have hS : StaticIs P.U ST "COMPACT_STRINGS" "Z" (.int z) := by
    obtain ⟨cfS, iS, kS, fS, st, cS, t1, t2, t3, t4, t5, t6, t7⟩ := S
    exact StaticIs.there (s := { Z with heap := P.U.heap }) ⟨cfS, iS, kS, fS, st, cS, t1, t2, t3, t4, t5, (fun q => by rw [q] at t6; cases t6), t7⟩ al rfl
  obtain ⟨v, B, X', ⟨⟨hv, E', V', q1, q2, q3, q4, q5, q6, q7, q8, q9, q10, q11⟩, hl, hc, hs⟩, st⟩ := New1.pays x D fV fC b A z (tab_of (moved hZ hw)) hfr hlo m meth c P g ig mk _ X hg hsize hdg hW hn ⟨r1, r2, rfl, hB, F1, F2, hA, hS, hz, l0, l2, hp⟩
  have al' : Z.vm.Alike B.U.vm := hZ.alike.trans X'.warmed.alike
  have hsz : E'.slots.size = D.slots.size := by
    obtain ⟨-, -, -, kB, w1, w2, w3⟩ := q1
    obtain ⟨kB', y1, y2⟩ := al'.2.2 _ _ e3
    rw [q2.2.1] at w1
    cases w1.symm.trans y1
    rw [w3, e5 i3, y2]
  refine ⟨v, B, X', ⟨_, ⟨hv, ?_, ⟨by omega, fun y cy hy hn' => q10 y cy (by simpa using hn') hy, fun y cy hy => ?_⟩, q11, ⟨E', _, q1.1, by rw [q2.2.1]; exact e2, by rw [q2.2.1]; exact e3, by rw [q2.1]; exact obV, fun _ => by rw [hsz]; exact e5 i3⟩,
    ⟨E', cfV, kV, iV, fV, q1.1, gV, stV, by rw [q2.1]; exact knV, by rw [q2.1]; exact obV, by rw [q2.2.1]; exact asV, q3⟩, ⟨E', cfC, kC, iC, fC, q1.1, gC, stC, by rw [q2.1]; exact knV, by rw [q2.1]; exact obV, by rw [q2.2.1]; exact asC, q4⟩,
    ⟨V', ⟨q5.1, State.isArrayOf_alike al'.symm q5.2.1, q5.2.2.1⟩, q6, by rw [← al'.findClass]; exact q7, q8, fun j hj => by have := q9 j hj; rwa [Nat.zero_add] at this⟩, fun O n d w F n1 n2 => ?_⟩, hl, hc, hs⟩, st⟩
  · intro y hy
    simp only [List.mem_cons, List.not_mem_nil, or_false] at hy
    rcases hy with rfl | rfl <;> rfl
  · by_cases q : y = x
    · subst q
      cases hD.symm.trans hy
      exact ⟨E', q1.1, q2.2.1, q2.1, hsz⟩
    · exact ⟨cy, q10 y cy q hy, rfl, rfl, rfl⟩
  · obtain ⟨D3, cf, k, i, f, g1, g2, g3, g4, g5, g6, g7⟩ := F
    cases hD.symm.trans g1
    simp only [RoadKit.slotOf, g2, gV, gC, Option.map_some, Option.getD_some] at n1 n2
    exact ⟨E', cf, k, i, f, q1.1, g2, g3, by rw [q2.1]; exact g4, by rw [q2.1]; exact g5, by rw [q2.2.1]; exact g6, by rw [q2.2.2 f.slot (by simp [n1, n2])]; exact g7⟩
end StrChars.Road
namespace StrChars.Road
open Jvm Sem ClassFile Op Lib Jvm.Stand Jvm.Free Jvm.Free.XT
/-- WHAT COMES BACK, the byte[] as a list of values -/
def QA (Z : State) (x : Addr) (zn : Int32) (cs : List Int32) (h : Heap) (v : Option Value) (h' : Heap) (L : List Loc) : Prop := v = none ∧ (∀ y ∈ L, y.base = x) ∧ RoadKit.Keep h h' [x] ∧ h'.size = h.size + 1 ∧ RoadKit.Exa Z h' x ST ∧ RoadKit.Fld Z h' x ST "value" "[B" (.ref h.size) ∧ RoadKit.Fld Z h' x ST "coder" "B" (.int 0) ∧
  (∃ kb, Z.vm.findClass "[B" = some kb ∧ RoadKit.Arv Z h' h.size kb .byte zn (cs.map fun c => .int (lo8 c)) (.int 0)) ∧
  ∀ (O n d : String) (w : Value), RoadKit.Fld Z h x O n d w → RoadKit.slotOf Z O n d ≠ RoadKit.slotOf Z ST "value" "[B" → RoadKit.slotOf Z O n d ≠ RoadKit.slotOf Z ST "coder" "B" → RoadKit.Fld Z h' x O n d w
/-- **new String(chars) AT A CALL, THE ARRAYS AS LISTS**: the char[] at b holds cs, not empty, no char above 255 -/
theorem backArv {p : Program} {l : Launch} {e : Env} {R : Room} {s : State} {args : Array Value} {below : List Frame} {len W : Nat} {Z : State} {a0 : Array Value} {h : Heap} (hZ : Z.Warmed39 s.vm) (hw : ∀ d ∈ words, d.before a0 Z = true) {kI : Nat} (wi : (Jvm.Cond.instantiable ST kI).before a0 Z = true)
    {x b : Addr} {k : ClassId} {zn z : Int32} {cs : List Int32} {dv v0 c0 : Value} (E : RoadKit.Exa Z h x ST) (V : RoadKit.Fld Z h x ST "value" "[B" v0) (C : RoadKit.Fld Z h x ST "coder" "B" c0) (K : RoadKit.Arv Z h b k .char zn (cs.map Value.int) dv) (S : RoadKit.Sta Z h ST "COMPACT_STRINGS" "Z" (.int z)) (hz : ¬ z = 0)
    (hlen : zn.toNatClampNeg = cs.length) (h0 : 0 < cs.length) (hbig : cs.length ≤ 536870912) (hall : ∀ c ∈ cs, ¬ 255 < c) (hfr : 4 ≤ R.frames) (hlo : W + 65 ≤ R.locals) :
    Back l R p e below s args New1.yN len W (fun P a => a = #[.ref x, .ref b] ∧ P.U.heap = h ∧ P.cells + 1 ≤ R.cells ∧ P.slots + cs.length ≤ R.slots)
      (fun P _ v B => ∃ L, QA Z x zn cs h v B.U.heap L ∧ B.locs = P.locs ++ L ∧ B.cells = P.cells + 1 ∧ B.slots = P.slots + cs.length) := by
  obtain ⟨A, K1, K2, K3, K4, K5, K6⟩ := K
  have e : A.slots.size = cs.length := K3.trans hlen
  have hat : ∀ (i : Nat) (hi : i < cs.length), A.slots[i]? = some (.int cs[i]) := fun i hi => by rw [K5 i (by omega)]; simp [List.getD_eq_getElem?_getD, hi]
  have hcv : ∀ (i : Nat) (hi : i < cs.length), cv A i = cs[i] := fun i hi => by unfold cv; rw [hat i hi]
  have hty : Typed .char A := fun i v hv => by
    have hi : i < A.slots.size := (Array.getElem?_eq_some_iff.mp hv).1
    have q := K5 i hi
    rw [hv] at q
    rw [Option.some.inj q]
    exact K6 i hi
  refine Back.mono (back hZ hw wi E V C K1 hty S hz (by omega) (by omega) (fun i hi => by rw [hcv i (by omega)]; exact hall _ (List.getElem_mem _)) hfr hlo) (fun P a hp => ⟨hp.1, hp.2.1, hp.2.2.1, by rw [e]; exact hp.2.2.2⟩) (fun P a v B hp hq => ?_)
  obtain ⟨L, ⟨q1, q2, q3, q4, q5, q6, q7, ⟨V', v1, v2, v3, v4, v5⟩, q9⟩, hl, hc, hs⟩ := hq
  refine ⟨L, ⟨q1, q2, q3, q4, q5, q6, q7, ⟨V'.cls, v3, V', v1, rfl, by rw [v4, e, hlen], K4, fun i hi => ?_, fun i hi => ?_⟩, q9⟩, hl, hc, by rw [hs, e]⟩
  · have hi' : i < cs.length := by omega
    rw [v5 i (by omega), hcv i hi']; simp [List.getD_eq_getElem?_getD, hi']
  · have hi' : i < cs.length := by omega
    simp only [List.getD_eq_getElem?_getD, List.getElem?_map, List.getElem?_eq_getElem hi', Option.map_some, Option.getD_some]
    exact fits_lo8 _
end StrChars.Road
namespace StrChars.Road
open Jvm Sem ClassFile Op Lib Jvm.Stand Jvm.Free Jvm.Free.XT
/-- WHAT COMES BACK, in the writer's own shape -/
def QV (Z : State) (x : Addr) (N : Int32) (bs : List Int32) (h : Heap) (n0 : Nat) (v : Option Value) (h' : Heap) (L : List Loc) : Prop := v = none ∧ RoadKit.Fr n0 L ∧ RoadKit.Keep h h' [x] ∧ RoadKit.Exa Z h' x ST ∧ RoadKit.Fld Z h' x ST "coder" "B" (.int 0) ∧
  ∃ (t : Addr) (kb : ClassId), n0 ≤ t ∧ h.size ≤ t ∧ ¬ t = x ∧ RoadKit.Fld Z h' x ST "value" "[B" (.ref t) ∧ RoadKit.Arv Z h' t kb .byte N (bs.map Value.int) (.int 0)
/-- **new String(chars) AT A CALL, FOR THE WRITER**: a char[] of n known ints, each 0 to 255 -/
theorem backV {p : Program} {l : Launch} {e : Env} {R : Room} {s : State} {args : Array Value} {below : List Frame} {len W : Nat} {Z : State} {a0 : Array Value} {h : Heap} (hZ : Z.Warmed39 s.vm) (hw : ∀ d ∈ words, d.before a0 Z = true) {kI : Nat} (wi : (Jvm.Cond.instantiable ST kI).before a0 Z = true)
    {x b : Addr} {kC : ClassId} {cs bs : List Int32} {d v0 c0 : Value} {z N : Int32} {n n0 : Nat} (hx0 : n0 ≤ x) (hh0 : n0 ≤ h.size) (E : RoadKit.Exa Z h x ST) (V : RoadKit.Fld Z h x ST "value" "[B" v0) (C : RoadKit.Fld Z h x ST "coder" "B" c0) (K : RoadKit.Arv Z h b kC .char N (cs.map Value.int) d) (S : RoadKit.Sta Z h ST "COMPACT_STRINGS" "Z" (.int z)) (hz : ¬ z = 0)
    (hn : cs.length = n) (hN : N = Int32.ofNat n) (l0 : 0 < n) (l2 : n ≤ 4000) (hp : ∀ c ∈ cs, ¬ c < 0 ∧ ¬ (255 : Int32) < c) (hb : bs = cs.map (fun c => c.toInt8.toInt32)) (hfr : 4 ≤ R.frames) (hlo : W + 65 ≤ R.locals) :
    Back l R p e below s args (⟨"java/lang/String", "<init>", "([C)V"⟩ : MethodName) len W (fun P a => a = #[.ref x, .ref b] ∧ P.U.heap = h ∧ P.cells + 1 ≤ R.cells ∧ P.slots + n ≤ R.slots)
      (fun P _ v B => ∃ L, QV Z x N bs h n0 v B.U.heap L ∧ B.locs = P.locs ++ L ∧ B.cells = P.cells + 1 ∧ B.slots = P.slots + n) := by
  subst hn hN hb
  refine Back.mono (backArv hZ hw wi E V C K S hz (n32 (by omega)) l0 (by omega) (fun c hc => (hp c hc).2) hfr hlo) (fun P a hp => hp) (fun P a v B hp hq => ?_)
  obtain ⟨L, ⟨q1, q2, q3, q4, q5, q6, q7, ⟨kb, v1, v2⟩, q9⟩, hl, hc, hs⟩ := hq
  exact ⟨L, ⟨q1, fun y hy => by rw [q2 y hy]; exact hx0, q3, q5, q7, h.size, kb, hh0, Nat.le_refl _, Nat.ne_of_gt E.lt, q6, by rw [List.map_map]; exact v2⟩, hl, hc, hs⟩
end StrChars.Road
namespace StrChars
open Jvm Sem ClassFile Op Lib Jvm.Stand Jvm.Free.XT Jvm.Free.ALB Jvm.Free.JM Jvm.Free
open Jvm.Lib.Cold (StaticIs)
def hi8 (x : Int32) : Int32 := lo8 (x >>> ((8 : Int32) &&& 31))
/-- what StringUTF16.getChar makes of two bytes -/
def pairCh (u v : Int32) : Int32 := (((u &&& 255) <<< ((0 : Int32) &&& 31)) ||| ((v &&& 255) <<< ((8 : Int32) &&& 31))).toUInt32.toUInt16.toUInt32.toInt32
theorem shr0 (c : Int32) : c >>> ((0 : Int32) &&& 31) = c := by
  have e : ((0 : Int32) &&& 31) = 0 := by decide
  rw [e]
  apply Int32.toBitVec_inj.mp
  rw [Int32.toBitVec_shiftRight]
  have e1 : ((0 : Int32).toBitVec.smod 32) = 0#32 := by decide
  rw [e1, BitVec.sshiftRight_eq']
  exact BitVec.sshiftRight_zero
theorem lo8_and (x : Int32) : (lo8 x &&& 255).toBitVec.toNat = x.toBitVec.toNat % 256 := by
  have h : (lo8 x).toBitVec = (x.toBitVec.signExtend 8).signExtend 32 := by rw [lo8, Int8.toBitVec_toInt32, Int32.toBitVec_toInt8]
  rw [Int32.toBitVec_and, BitVec.toNat_and, h]
  have e : ((x.toBitVec.signExtend 8).signExtend 32).toNat % 256 = x.toBitVec.toNat % 256 := by
    rw [BitVec.toNat_signExtend]
    have hlt := x.toBitVec.isLt
    simp only [BitVec.toNat_setWidth, BitVec.toNat_signExtend]
    split <;> split <;> omega
  rw [← e]
  exact Nat.and_two_pow_sub_one_eq_mod _ 8
theorem pair_says {c : Int32} (h0 : ¬ c < 0) (h1 : ¬ 65535 < c) : pairCh (lo8 c) (hi8 c) = c := by
  rw [Int32.lt_iff_toInt_lt] at h0 h1
  have e0 : (0 : Int32).toInt = 0 := rfl
  have e1 : (65535 : Int32).toInt = 65535 := rfl
  have hc : c.toInt = c.toBitVec.toNat := by
    have := c.toBitVec.isLt
    have e : c.toInt = c.toBitVec.toInt := rfl
    rw [e] at h0 h1
    rw [e]
    rw [BitVec.toInt_eq_toNat_cond] at h0 h1 ⊢
    split at h0 <;> split <;> omega
  have hn : c.toBitVec.toNat < 65536 := by omega
  have a1 := lo8_and c
  have a2 : (hi8 c &&& 255).toBitVec.toNat = c.toBitVec.toNat / 256 := by
    rw [hi8, lo8_and]
    have e : ((8 : Int32) &&& 31) = 8 := by decide
    rw [e, Int32.toBitVec_shiftRight]
    have e2 : ((8 : Int32).toBitVec.smod 32) = 8#32 := by decide
    rw [e2, BitVec.sshiftRight_eq', BitVec.toNat_sshiftRight_of_msb_false (by rw [BitVec.msb_eq_false_iff_two_mul_lt]; omega)]
    show c.toBitVec.toNat >>> 8 % 256 = _
    rw [Nat.shiftRight_eq_div_pow]
    omega
  unfold pairCh
  apply Int32.toBitVec_inj.mp
  apply BitVec.eq_of_toNat_eq
  have f0 : ((0 : Int32) &&& 31) = 0 := by decide
  have f8 : ((8 : Int32) &&& 31) = 8 := by decide
  rw [f0, f8]
  have g : (((lo8 c &&& 255) <<< (0 : Int32)) ||| ((hi8 c &&& 255) <<< (8 : Int32))).toBitVec.toNat = c.toBitVec.toNat := by
    rw [Int32.toBitVec_or, Int32.toBitVec_shiftLeft, Int32.toBitVec_shiftLeft]
    have s0 : ((0 : Int32).toBitVec.smod 32) = 0#32 := by decide
    have s8 : ((8 : Int32).toBitVec.smod 32) = 8#32 := by decide
    rw [s0, s8, BitVec.toNat_or]
    simp only [BitVec.shiftLeft_eq', BitVec.toNat_shiftLeft, a1, a2]
    show (c.toBitVec.toNat % 256) <<< 0 % 2 ^ 32 ||| (c.toBitVec.toNat / 256) <<< 8 % 2 ^ 32 = _
    rw [Nat.shiftLeft_zero, Nat.mod_eq_of_lt (show c.toBitVec.toNat % 256 < 2 ^ 32 by omega), Nat.mod_eq_of_lt (show (c.toBitVec.toNat / 256) <<< 8 < 2 ^ 32 by rw [Nat.shiftLeft_eq]; omega), Nat.or_comm, ← Nat.shiftLeft_add_eq_or_of_lt (by omega), Nat.shiftLeft_eq]
    omega
  show BitVec.toNat (((((lo8 c &&& 255) <<< (0 : Int32)) ||| ((hi8 c &&& 255) <<< (8 : Int32))).toBitVec.setWidth 16).setWidth 32) = _
  rw [BitVec.toNat_setWidth, BitVec.toNat_setWidth, g]
  omega
end StrChars
namespace StrChars
open Jvm Sem ClassFile Op Lib Jvm.Stand Jvm.Free.XT Jvm.Free.ALB Jvm.Free.JM Jvm.Free
open Jvm.Lib.Cold (StaticIs)
theorem shr1 {n : Nat} (h : 2 * n < 2 ^ 31) : Int32.ofNat (2 * n) >>> ((1 : Int32) &&& 31) = Int32.ofNat n := by
  have e : ((1 : Int32) &&& 31) = 1 := by decide
  rw [e]
  apply Int32.toBitVec_inj.mp
  rw [Int32.toBitVec_shiftRight]
  have e1 : ((1 : Int32).toBitVec.smod 32) = 1#32 := by decide
  have hm : (BitVec.ofNat 32 (2 * n)).toNat = 2 * n := by rw [BitVec.toNat_ofNat, Nat.mod_eq_of_lt (by omega)]
  rw [e1, BitVec.sshiftRight_eq']
  apply BitVec.eq_of_toNat_eq
  show ((BitVec.ofNat 32 (2 * n)).sshiftRight 1).toNat = (BitVec.ofNat 32 n).toNat
  rw [BitVec.toNat_sshiftRight_of_msb_false (by rw [BitVec.msb_eq_false_iff_two_mul_lt, hm]; omega), hm, BitVec.toNat_ofNat, Nat.shiftRight_eq_div_pow]
  omega
/-- charAt's cast of a byte read back -/
def chr8 (u : Int32) : Int32 := (u &&& 255).toUInt32.toUInt16.toUInt32.toInt32
theorem chr8_lo8 {c : Int32} (h0 : ¬ c < 0) (h1 : ¬ 255 < c) : chr8 (lo8 c) = c := by
  have t : ∀ k : Fin 256, (Int32.ofNat k.val).toUInt32.toUInt16.toUInt32.toInt32 = Int32.ofNat k.val := by decide +kernel
  unfold chr8
  rw [lo8_mask h0 h1]
  rw [Int32.lt_iff_toInt_lt] at h0 h1
  have e0 : (0 : Int32).toInt = 0 := rfl
  have e1 : (255 : Int32).toInt = 255 := rfl
  obtain ⟨k, hk⟩ : ∃ k : Nat, c.toInt = k := ⟨c.toInt.toNat, by omega⟩
  have hx : c = Int32.ofNat k := Int32.toInt_inj.mp (by rw [hk, Int32.toInt_ofNat_small (by omega)])
  rw [hx]
  exact t ⟨k, by omega⟩
theorem narrow_ch {c : Int32} (h0 : ¬ c < 0) (h1 : ¬ 65535 < c) : narrow .char (.int c) = .int c := by
  have q : narrow .char (.int (pairCh (lo8 c) (hi8 c))) = .int (pairCh (lo8 c) (hi8 c)) := narrow_c _
  rwa [pair_says h0 h1] at q
/-- the array's cell V codes the n chars f 0 .. f (n - 1) by the coder cd, as the JDK does: coder 1 just where some char is above 255 -/
def Cod (cd : Int32) (n : Nat) (f : Nat → Int32) (V : Cell) : Prop := (cd = 0 ∧ V.slots.size = n ∧ ∀ j, j < n → V.slots[j]? = some (.int (lo8 (f j))) ∧ ¬ 255 < f j) ∨ (cd = 1 ∧ V.slots.size = 2 * n ∧ (∀ j, j < n → V.slots[2 * j]? = some (.int (lo8 (f j))) ∧ V.slots[2 * j + 1]? = some (.int (hi8 (f j)))) ∧ ∃ j, j < n ∧ 255 < f j)
theorem Cod.cd {cd : Int32} {n : Nat} {f : Nat → Int32} {V : Cell} (h : Cod cd n f V) : cd = 0 ∨ cd = 1 := h.imp (fun q => q.1) fun q => q.1
theorem Cod.len {cd : Int32} {n : Nat} {f : Nat → Int32} {V : Cell} (h : Cod cd n f V) (hs : V.slots.size < 2 ^ 31) : Int32.ofNat V.slots.size >>> (cd &&& 31) = Int32.ofNat n := by
  rcases h with ⟨rfl, h, -⟩ | ⟨rfl, h, -⟩
  · rw [shr0, h]
  · rw [h, shr1 (by omega)]
/-- **x is a String of the n chars f 0 .. f (n - 1)**, Latin-1 or UTF-16; its array at t has the cell V -/
def Txt (x t : Addr) (V : Cell) (cd : Int32) (n : Nat) (f : Nat → Int32) (U : State) : Prop := Exact "java/lang/String" x U ∧ Has x "java/lang/String" "value" "[B" (.ref t) U ∧ Has x "java/lang/String" "coder" "B" (.int cd) U ∧ XT.Arr .byte t V U ∧ Cod cd n f V ∧ ∀ j, j < n → ¬ f j < 0 ∧ ¬ 65535 < f j
theorem Txt.mv {x t : Addr} {V : Cell} {cd : Int32} {n : Nat} {f : Nat → Int32} {U U' : State} (h : Txt x t V cd n f U) (hal : U.vm.Alike U'.vm) (hh : U'.heap = U.heap) : Txt x t V cd n f U' := ⟨h.1.mv hal hh, h.2.1.mv hal hh, h.2.2.1.mv hal hh, h.2.2.2.1.mv hal hh, h.2.2.2.2⟩
namespace Cdr
def yN : MethodName := ⟨"java/lang/String", "coder", "()B"⟩
abbrev yB : ByteArray := jdk_42_method_152_code
theorem d0 : decode yB 0 = .ok (.getstatic 38, 3) := by decide +kernel
theorem d3 : decode yB 3 = .ok (.ifCond (.eq) 10, 3) := by decide +kernel
theorem d6 : decode yB 6 = .ok (.aload_n 0, 1) := by decide +kernel
theorem d7 : decode yB 7 = .ok (.getfield 15, 3) := by decide +kernel
theorem d10 : decode yB 10 = .ok (.goto 4, 3) := by decide +kernel
theorem d14 : decode yB 14 = .ok (.ireturn, 1) := by decide +kernel
def site : List Cond := [.fieldLink "java/lang/String" 38 "java/lang/String" "COMPACT_STRINGS" "Z", .fieldLink "java/lang/String" 15 "java/lang/String" "coder" "B"]
def tab : Cond := tabOf yN yB 1 (some .byte) site
def P (x : Addr) (cd z : Int32) (args : Array Value) (s : State) : Prop := args = #[.ref x] ∧ Has x "java/lang/String" "coder" "B" (.int cd) s ∧ (cd = 0 ∨ cd = 1) ∧ StaticIs s "java/lang/String" "COMPACT_STRINGS" "Z" (.int z) ∧ ¬ z = 0
def E (cd : Int32) (r : Option Value) (s u : State) : Prop := XT.PureE (some (.int cd)) r s u
theorem law (l : Launch) (x : Addr) (cd z : Int32) : Law l yN 1 0 0 0 yB 1 (some .byte) site (P x cd z) (E cd) [] 0 0 := by
  refine Law.of_walk (plainFor_of_name (by decide +kernel)) (by decide +kernel) (by decide +kernel) (by decide) (fun _ _ h => by rw [h.1]; rfl) (fun _ U U' hal hh h => ⟨h.1, h.2.1.mv hal hh, h.2.2.1, h.2.2.2.1.there hal hh, h.2.2.2.2⟩) (fun r U U' V V' h1 hal h2 h => XT.PureE.mv r U U' V V' h1 hal h2 h) ?_
  intro p e s m args below meth c s₁ X0 hexec hbytes hml hret hlk hnm hown hh0 W hP
  obtain ⟨rfl, hx, hc, s1, hz⟩ := hP
  have c1 : Steps p.tables e below (s₁.setTop (entryFrame m #[.ref x] 1)) (s₁.setTop (mkF m 0 #[.val (.ref x)] [])) := entry rfl
  obtain ⟨T2, X2, q2, st2⟩ := X0.sget hexec hown (wk W (.fieldLink "java/lang/String" 38 "java/lang/String" "COMPACT_STRINGS" "Z")) s1 (fun _ _ h => by rw [hh0]; exact h) (g := (mkF m 0 #[.val (.ref x)] [])) rfl (hb hbytes d0)
  have hh2 := q2.trans hh0
  have c3 : Steps p.tables e below (s₁.setTop (entryFrame m #[.ref x] 1)) (T2.setTop (mkF m 7 #[.val (.ref x)] [.ref x])) := (c1.trans (st2 _ (Steps.refl _))).trans (by
    refine XS.ifNo X2.here hexec rfl (hb hbytes d3) rfl (i0_eq_f hz) ?_
    refine XS.aloadN X2.here hexec rfl (hb hbytes d6) rfl rfl ?_
    exact Steps.refl _)
  obtain ⟨T4, X4, q4, st4⟩ := X2.hget hexec hown (wk W (.fieldLink "java/lang/String" 15 "java/lang/String" "coder" "B")) (hx.mv X2.warmed.alike hh2) (g := (mkF m 7 #[.val (.ref x)] [.ref x])) rfl (rest := []) rfl (hb hbytes d7)
  have c5 : Steps p.tables e below (s₁.setTop (entryFrame m #[.ref x] 1)) (T4.setTop (mkF m 14 #[.val (.ref x)] [.int cd])) := (c3.trans (st4 _ (Steps.refl _))).trans (by
    refine XS.goto X4.here hexec rfl (pc0 := 10) rfl (hb hbytes d10) (by decide) rfl ?_
    exact Steps.refl _)
  exact ⟨T4, some (.int cd), _, _, _, X4, rfl, rfl, rfl, (fun h => by cases h), ⟨rfl, q4.trans hh2⟩, fun fs hl => c5.trans (X4.ireturnOut hexec hret (by rcases hc with rfl | rfl <;> rfl) (Or.inr (Or.inr (Or.inl rfl))) (hb hbytes d14) hl)⟩
end Cdr
namespace Len
def yN : MethodName := ⟨"java/lang/String", "length", "()I"⟩
abbrev yB : ByteArray := jdk_42_method_54_code
theorem d0 : decode yB 0 = .ok (.aload_n 0, 1) := by decide +kernel
theorem d1 : decode yB 1 = .ok (.getfield 9, 3) := by decide +kernel
theorem d4 : decode yB 4 = .ok (.arraylength, 1) := by decide +kernel
theorem d5 : decode yB 5 = .ok (.aload_n 0, 1) := by decide +kernel
theorem d6 : decode yB 6 = .ok (.invokevirtual 335, 3) := by decide +kernel
theorem d9 : decode yB 9 = .ok (.ishr, 1) := by decide +kernel
theorem d10 : decode yB 10 = .ok (.ireturn, 1) := by decide +kernel
def site : List Cond := [.fieldLink "java/lang/String" 9 "java/lang/String" "value" "[B", Cdr.tab] ++ virtW "java/lang/String" 335 "java/lang/String" Cdr.yN Cdr.yN
def tab : Cond := tabOf yN yB 1 (some .int) site
def P (x t : Addr) (V : Cell) (cd : Int32) (n : Nat) (f : Nat → Int32) (z : Int32) (args : Array Value) (s : State) : Prop := args = #[.ref x] ∧ Txt x t V cd n f s ∧ StaticIs s "java/lang/String" "COMPACT_STRINGS" "Z" (.int z) ∧ ¬ z = 0
def E (n : Nat) (r : Option Value) (s u : State) : Prop := XT.PureE (some (.int (Int32.ofNat n))) r s u
/-- length() of a String of n chars, in either coding -/
theorem law (l : Launch) (x t : Addr) (V : Cell) (cd : Int32) (n : Nat) (f : Nat → Int32) (z : Int32) : Law l yN 1 0 1 13 yB 1 (some .int) site (P x t V cd n f z) (E n) [] 0 0 := by
  refine Law.of_walk (plainFor_of_name (by decide +kernel)) (by decide +kernel) (by decide +kernel) (by decide) (fun _ _ h => by rw [h.1]; rfl) (fun _ U U' hal hh h => ⟨h.1, h.2.1.mv hal hh, h.2.2.1.there hal hh, h.2.2.2⟩) (fun r U U' V V' h1 hal h2 h => XT.PureE.mv r U U' V V' h1 hal h2 h) ?_
  intro p e s m args below meth c s₁ X0 hexec hbytes hml hret hlk hnm hown hh0 W hP
  obtain ⟨rfl, hx, s1, hz⟩ := hP
  have v31 := hx.2.2.2.1.2.2.2
  have c1 : Steps p.tables e below (s₁.setTop (entryFrame m #[.ref x] 1)) (s₁.setTop (mkF m 1 #[.val (.ref x)] [.ref x])) := Steps.trans (entry rfl) (by
    show Steps p.tables e below (s₁.setTop (mkF m 0 #[.val (.ref x)] [])) _
    refine XS.aloadN X0.here hexec rfl (hb hbytes d0) rfl rfl ?_
    exact Steps.refl _)
  obtain ⟨T2, X2, q2, st2⟩ := X0.hget hexec hown (wk W (.fieldLink "java/lang/String" 9 "java/lang/String" "value" "[B")) (hx.mv X0.warmed.alike hh0).2.1 (g := (mkF m 1 #[.val (.ref x)] [.ref x])) rfl (rest := []) rfl (hb hbytes d1)
  have hh2 := q2.trans hh0
  have hx2 := hx.mv X2.warmed.alike hh2
  have c3 : Steps p.tables e below (s₁.setTop (entryFrame m #[.ref x] 1)) (T2.setTop (mkF m 6 #[.val (.ref x)] [.ref x, .int (Int32.ofNat V.slots.size)])) := (c1.trans (st2 _ (Steps.refl _))).trans (by
    refine X2.alen hexec hx2.2.2.2.1 rfl rfl (hb hbytes d4) ?_
    refine XS.aloadN X2.here hexec rfl (hb hbytes d5) rfl rfl ?_
    exact Steps.refl _)
  obtain ⟨v4, T4, X4, E4, g4⟩ := X2.callV hexec (Cdr.law l x cd z) hown (wks W (virtW "java/lang/String" 335 "java/lang/String" Cdr.yN Cdr.yN)) rfl (by decide) (wk W Cdr.tab) (W := 1) (Nat.le_of_ble_eq_true rfl) (Nat.le_of_ble_eq_true rfl) (Nat.le_refl _) (Nat.le_refl _) (hx2.1.fc X2.warmed.alike) hx2.1.is (g := (mkF m 6 #[.val (.ref x)] [.ref x, .int (Int32.ofNat V.slots.size)])) rfl (by rw [hml]; rfl) c3 (argsL := []) (rest := [.int (Int32.ofNat V.slots.size)]) rfl rfl (by show 2 * 0 + (1 + 0) ≤ _; decide) (hb hbytes d6) (⟨rfl, hx2.2.2.1, hx.2.2.2.2.1.cd, s1.there X2.warmed.alike hh2, hz⟩)
  obtain ⟨rfl, q4⟩ := E4
  have c5 : Steps p.tables e below (s₁.setTop (entryFrame m #[.ref x] 1)) (T4.setTop (mkF m 10 #[.val (.ref x)] [.int (Int32.ofNat V.slots.size >>> (cd &&& 31))])) := Steps.trans g4 (by
    refine ishr X4.here hexec rfl (hb hbytes d9) rfl ?_
    exact Steps.refl _)
  rw [hx.2.2.2.2.1.len v31] at c5
  exact ⟨T4, some (.int (Int32.ofNat n)), _, _, _, X4, rfl, rfl, rfl, (fun h => by cases h), ⟨rfl, q4.trans hh2⟩, fun fs hl => c5.trans (X4.ireturnOut hexec hret rfl (Or.inl rfl) (hb hbytes d10) hl)⟩
theorem pays {l : Launch} {R : Room} {p : Program} {e : Env} {below : List Frame} {s : State} {sargs : Array Value} {len W : Nat} (x t : Addr) (V : Cell) (cd : Int32) (n : Nat) (f : Nat → Int32) (z : Int32) (htab : tab.before sargs s = true) (hfr : 2 ≤ R.frames) (hlo : W + 25 ≤ R.locals) :
    Back l R p e below s sargs yN len W (fun A₁ a₁ => A₁.cells + 0 ≤ R.cells ∧ A₁.slots + 0 ≤ R.slots ∧ P x t V cd n f z a₁ A₁.U) (fun A₁ _ v₁ B₁ => E n v₁ A₁.U B₁.U ∧ B₁.locs = A₁.locs ++ [] ∧ B₁.cells = A₁.cells + 0 ∧ B₁.slots = A₁.slots + 0) :=
  (law l x t V cd n f z).pays htab hfr (by omega)
end Len
namespace IsL
def yN : MethodName := ⟨"java/lang/String", "isLatin1", "()Z"⟩
abbrev yB : ByteArray := jdk_42_method_154_code
theorem d0 : decode yB 0 = .ok (.getstatic 38, 3) := by decide +kernel
theorem d3 : decode yB 3 = .ok (.ifCond (.eq) 14, 3) := by decide +kernel
theorem d6 : decode yB 6 = .ok (.aload_n 0, 1) := by decide +kernel
theorem d7 : decode yB 7 = .ok (.getfield 15, 3) := by decide +kernel
theorem d10 : decode yB 10 = .ok (.ifCond (.ne) 7, 3) := by decide +kernel
theorem d13 : decode yB 13 = .ok (.iconst 1, 1) := by decide +kernel
theorem d14 : decode yB 14 = .ok (.goto 4, 3) := by decide +kernel
theorem d17 : decode yB 17 = .ok (.iconst 0, 1) := by decide +kernel
theorem d18 : decode yB 18 = .ok (.ireturn, 1) := by decide +kernel
def site : List Cond := [.fieldLink "java/lang/String" 38 "java/lang/String" "COMPACT_STRINGS" "Z", .fieldLink "java/lang/String" 15 "java/lang/String" "coder" "B"]
def tab : Cond := tabOf yN yB 1 (some .boolean) site
def P (x : Addr) (cd z : Int32) (args : Array Value) (s : State) : Prop := args = #[.ref x] ∧ Has x "java/lang/String" "coder" "B" (.int cd) s ∧ (cd = 0 ∨ cd = 1) ∧ StaticIs s "java/lang/String" "COMPACT_STRINGS" "Z" (.int z) ∧ ¬ z = 0
def E (cd : Int32) (r : Option Value) (s u : State) : Prop := XT.PureE (some (.int (1 - cd))) r s u
theorem law (l : Launch) (x : Addr) (cd z : Int32) : Law l yN 1 0 0 0 yB 1 (some .boolean) site (P x cd z) (E cd) [] 0 0 := by
  refine Law.of_walk (plainFor_of_name (by decide +kernel)) (by decide +kernel) (by decide +kernel) (by decide) (fun _ _ h => by rw [h.1]; rfl) (fun _ U U' hal hh h => ⟨h.1, h.2.1.mv hal hh, h.2.2.1, h.2.2.2.1.there hal hh, h.2.2.2.2⟩) (fun r U U' V V' h1 hal h2 h => XT.PureE.mv r U U' V V' h1 hal h2 h) ?_
  intro p e s m args below meth c s₁ X0 hexec hbytes hml hret hlk hnm hown hh0 W hP
  obtain ⟨rfl, hx, hc, s1, hz⟩ := hP
  have c1 : Steps p.tables e below (s₁.setTop (entryFrame m #[.ref x] 1)) (s₁.setTop (mkF m 0 #[.val (.ref x)] [])) := entry rfl
  obtain ⟨T2, X2, q2, st2⟩ := X0.sget hexec hown (wk W (.fieldLink "java/lang/String" 38 "java/lang/String" "COMPACT_STRINGS" "Z")) s1 (fun _ _ h => by rw [hh0]; exact h) (g := (mkF m 0 #[.val (.ref x)] [])) rfl (hb hbytes d0)
  have hh2 := q2.trans hh0
  have c3 : Steps p.tables e below (s₁.setTop (entryFrame m #[.ref x] 1)) (T2.setTop (mkF m 7 #[.val (.ref x)] [.ref x])) := (c1.trans (st2 _ (Steps.refl _))).trans (by
    refine XS.ifNo X2.here hexec rfl (hb hbytes d3) rfl (i0_eq_f hz) ?_
    refine XS.aloadN X2.here hexec rfl (hb hbytes d6) rfl rfl ?_
    exact Steps.refl _)
  obtain ⟨T4, X4, q4, st4⟩ := X2.hget hexec hown (wk W (.fieldLink "java/lang/String" 15 "java/lang/String" "coder" "B")) (hx.mv X2.warmed.alike hh2) (g := (mkF m 7 #[.val (.ref x)] [.ref x])) rfl (rest := []) rfl (hb hbytes d7)
  have c5 : Steps p.tables e below (s₁.setTop (entryFrame m #[.ref x] 1)) (T4.setTop (mkF m 10 #[.val (.ref x)] [.int cd])) := c3.trans (st4 _ (Steps.refl _))
  have c6 : Steps p.tables e below (s₁.setTop (entryFrame m #[.ref x] 1)) (T4.setTop (mkF m 18 #[.val (.ref x)] [.int (1 - cd)])) := by
    rcases hc with rfl | rfl
    · exact c5.trans (by
        refine XS.ifNo X4.here hexec rfl (hb hbytes d10) rfl (i0_ne_f rfl) ?_
        refine iconstV X4.here hexec rfl 1 (hb hbytes d13) (by decide) ?_
        refine XS.goto X4.here hexec rfl (pc0 := 14) rfl (hb hbytes d14) (by decide) rfl ?_
        exact Steps.refl _)
    · exact c5.trans (by
        refine XS.ifYes X4.here hexec rfl (pc0 := 10) rfl (hb hbytes d10) rfl (i0_ne_t (by decide)) (by decide) rfl ?_
        refine iconstV X4.here hexec rfl 0 (hb hbytes d17) (by decide) ?_
        exact Steps.refl _)
  exact ⟨T4, some (.int (1 - cd)), _, _, _, X4, rfl, rfl, rfl, (fun h => by cases h), ⟨rfl, q4.trans hh2⟩, fun fs hl => c6.trans (X4.ireturnOut hexec hret (by rcases hc with rfl | rfl <;> rfl) (Or.inr (Or.inl rfl)) (hb hbytes d18) hl)⟩
end IsL
namespace LChA
def yN : MethodName := ⟨"java/lang/StringLatin1", "charAt", "([BI)C"⟩
abbrev yB : ByteArray := jdk_43_method_2_code
theorem d0 : decode yB 0 = .ok (.iload_n 1, 1) := by decide +kernel
theorem d1 : decode yB 1 = .ok (.aload_n 0, 1) := by decide +kernel
theorem d2 : decode yB 2 = .ok (.arraylength, 1) := by decide +kernel
theorem d3 : decode yB 3 = .ok (.invokestatic 9, 3) := by decide +kernel
theorem d6 : decode yB 6 = .ok (.aload_n 0, 1) := by decide +kernel
theorem d7 : decode yB 7 = .ok (.iload_n 1, 1) := by decide +kernel
theorem d8 : decode yB 8 = .ok (.baload, 1) := by decide +kernel
theorem d9 : decode yB 9 = .ok (.sipush 255, 3) := by decide +kernel
theorem d12 : decode yB 12 = .ok (.iand, 1) := by decide +kernel
theorem d13 : decode yB 13 = .ok (.i2c, 1) := by decide +kernel
theorem d14 : decode yB 14 = .ok (.ireturn, 1) := by decide +kernel
def site : List Cond := [JO.Str_checkIndex.tab] ++ staticW "java/lang/StringLatin1" 9 JO.Str_checkIndex.yN
def tab : Cond := tabOf yN yB 2 (some .char) site
def P (t : Addr) (V : Cell) (i : Nat) (u : Int32) (fm : Value) (args : Array Value) (s : State) : Prop := args = #[.ref t, .int (Int32.ofNat i)] ∧ XT.Arr .byte t V s ∧ V.slots[i]? = some (.int u) ∧ (StaticIs s "jdk/internal/util/Preconditions" "SIOOBE_FORMATTER" "Ljava/util/function/BiFunction;" fm ∧ fm.isRef = true)
def E (u : Int32) (r : Option Value) (s w : State) : Prop := XT.PureE (some (.int (chr8 u))) r s w
theorem law (l : Launch) (t : Addr) (V : Cell) (i : Nat) (u : Int32) (fm : Value) : Law l yN 2 2 2 27 yB 2 (some .char) site (P t V i u fm) (E u) [] 0 0 := by
  refine Law.of_walk (plainFor_of_name (by decide +kernel)) (by decide +kernel) (by decide +kernel) (by decide) (fun _ _ h => by rw [h.1]; rfl) (fun _ U U' hal hh h => ⟨h.1, h.2.1.mv hal hh, h.2.2.1, h.2.2.2.1.there hal hh, h.2.2.2.2⟩) (fun r U U' V V' h1 hal h2 h => XT.PureE.mv r U U' V V' h1 hal h2 h) ?_
  intro p e s m args below meth c s₁ X0 hexec hbytes hml hret hlk hnm hown hh0 W hP
  obtain ⟨rfl, hV, hu, s1, rf⟩ := hP
  have v31 := hV.2.2.2
  have hi : i < V.slots.size := (Array.getElem?_eq_some_iff.mp hu).1
  have c1 : Steps p.tables e below (s₁.setTop (entryFrame m #[.ref t, .int (Int32.ofNat i)] 2)) (s₁.setTop (mkF m 0 #[.val (.ref t), .val (.int (Int32.ofNat i))] [])) := entry rfl
  have c2 : Steps p.tables e below (s₁.setTop (entryFrame m #[.ref t, .int (Int32.ofNat i)] 2)) (s₁.setTop (mkF m 3 #[.val (.ref t), .val (.int (Int32.ofNat i))] [.int (Int32.ofNat V.slots.size), .int (Int32.ofNat i)])) := c1.trans (by
    refine XS.iloadN X0.here hexec rfl (hb hbytes d0) rfl ?_
    refine XS.aloadN X0.here hexec rfl (hb hbytes d1) rfl rfl ?_
    refine X0.alen hexec (hV.mv X0.warmed.alike hh0) rfl rfl (hb hbytes d2) ?_
    exact Steps.refl _)
  obtain ⟨v3, T3, X3, E3, g3⟩ := X0.callS hexec (JO.Str_checkIndex.law l (Int32.ofNat i) (Int32.ofNat V.slots.size) fm) hown (wks W (staticW "java/lang/StringLatin1" 9 JO.Str_checkIndex.yN)) (wk W JO.Str_checkIndex.tab) (W := 0) (Nat.le_of_ble_eq_true rfl) (Nat.le_of_ble_eq_true rfl) (Nat.le_refl _) (Nat.le_refl _) (g := (mkF m 3 #[.val (.ref t), .val (.int (Int32.ofNat i))] [.int (Int32.ofNat V.slots.size), .int (Int32.ofNat i)])) rfl (by rw [hml]; rfl) c2 (argsL := [.int (Int32.ofNat i), .int (Int32.ofNat V.slots.size)]) (rest := []) rfl rfl (by show 2 * 0 + 0 ≤ _; decide) (hb hbytes d3) (⟨rfl, rf, s1.there X0.warmed.alike hh0, Int32.ofNat_not_neg (by omega), lt32 v31 hi⟩)
  obtain ⟨rfl, q3⟩ := E3
  have hh3 := q3.trans hh0
  have c4 : Steps p.tables e below (s₁.setTop (entryFrame m #[.ref t, .int (Int32.ofNat i)] 2)) (T3.setTop (mkF m 14 #[.val (.ref t), .val (.int (Int32.ofNat i))] [.int (chr8 u)])) := Steps.trans g3 (by
    refine XS.aloadN X3.here hexec rfl (hb hbytes d6) rfl rfl ?_
    refine XS.iloadN X3.here hexec rfl (hb hbytes d7) rfl ?_
    refine X3.aget hexec (hV.mv X3.warmed.alike hh3) rfl hu rfl rfl (hb hbytes d8) ?_
    refine sipushV X3.here hexec rfl 255 (hb hbytes d9) (by decide) ?_
    refine XS.iand X3.here hexec rfl (hb hbytes d12) rfl ?_
    refine i2c X3.here hexec rfl (hb hbytes d13) rfl ?_
    exact Steps.refl _)
  exact ⟨T3, some (.int (chr8 u)), _, _, _, X3, rfl, rfl, rfl, (fun h => by cases h), ⟨rfl, hh3⟩, fun fs hl => c4.trans (X3.ireturnOut hexec hret (narrow_c _) (Or.inr (Or.inr (Or.inr (Or.inl rfl)))) (hb hbytes d14) hl)⟩
end LChA
end StrChars
namespace StrChars.Road
open Jvm Sem ClassFile Op Lib Jvm.Stand Jvm.Free Jvm.Free.XT
open Jvm.Lib.Cold (StaticIs)
theorem consq {a : Array Value} {s : State} {c : Jvm.Cond} {L : List Jvm.Cond} (h0 : c.before a s = true) (h : ∀ w ∈ L, w.before a s = true) : ∀ w ∈ c :: L, w.before a s = true := fun w hw => (List.mem_cons.mp hw).elim (fun e => e ▸ h0) (h w)
/-- the words of String.length(), either coding -/
abbrev wordsLen : List Jvm.Cond := [.code Len.yN Len.yB 1 (some .int), .initialized ST, .fieldLink ST 9 ST "value" "[B", .fieldLink ST 38 ST "COMPACT_STRINGS" "Z", .fieldLink ST 15 ST "coder" "B", .code Cdr.yN Cdr.yB 1 (some .byte), .methodLink ST 335 Cdr.yN, .declares Cdr.yN, .selects ST Cdr.yN Cdr.yN, .instanceMethod Cdr.yN]
theorem tabLen_of {a : Array Value} {s : State} (h : ∀ w ∈ wordsLen, w.before a s = true) : Len.tab.before a s = true := by
  have hc : Cdr.tab.before a s = true := unparts (wk h (.code Cdr.yN Cdr.yB 1 (some .byte))) (wks h (.initialized Cdr.yN.cls :: Cdr.site))
  have q := consq hc h
  exact unparts (wk q (.code Len.yN Len.yB 1 (some .int))) (wks q (.initialized Len.yN.cls :: Len.site))
theorem movedLen {Z s : State} {a0 args : Array Value} (hZ : Z.Warmed39 s.vm) (hw : ∀ d ∈ wordsLen, d.before a0 Z = true) : ∀ d ∈ wordsLen, d.before args s = true := fun d hd => by
  have q := hw d hd
  have t : ∀ d ∈ wordsLen, d = .arrayClass .byte ∨ (d.onTables && d.keepsFace) = true := by decide +kernel
  rcases t d hd with rfl | t
  · exact RoadKit.mvA hZ q
  · exact RoadKit.mv hZ q t
/-- the bytes of the chars cs, low before high -/
def wideBytes : List Int32 → List Value
  | [] => []
  | c :: cs => .int (lo8 c) :: .int (hi8 c) :: wideBytes cs
theorem wide_lo (d : Value) : ∀ (cs : List Int32) (j : Nat), j < cs.length → (wideBytes cs).getD (2 * j) d = .int (lo8 (cs.getD j 0))
  | [], j, h => absurd h (Nat.not_lt_zero j)
  | c :: cs, 0, _ => rfl
  | c :: cs, j + 1, h => by
    have q := wide_lo d cs j (by simpa using h)
    rw [show 2 * (j + 1) = 2 * j + 1 + 1 from by omega]
    simpa [wideBytes] using q
theorem wide_hi (d : Value) : ∀ (cs : List Int32) (j : Nat), j < cs.length → (wideBytes cs).getD (2 * j + 1) d = .int (hi8 (cs.getD j 0))
  | [], j, h => absurd h (Nat.not_lt_zero j)
  | c :: cs, 0, _ => rfl
  | c :: cs, j + 1, h => by
    have q := wide_hi d cs j (by simpa using h)
    rw [show 2 * (j + 1) + 1 = 2 * j + 1 + 1 + 1 from by omega]
    simpa [wideBytes] using q
theorem low_at (d : Value) (cs : List Int32) (j : Nat) (h : j < cs.length) : (cs.map fun c => Value.int (lo8 c)).getD j d = .int (lo8 (cs.getD j 0)) := by
  simp [List.getD_eq_getElem?_getD, h]
/-- an array of N2 bytes vs codes the chars cs by the coder cd -/
def CodA (cs : List Int32) (cd N2 : Int32) (vs : List Value) : Prop := (cd = 0 ∧ N2 = Int32.ofNat cs.length ∧ vs = (cs.map fun c => Value.int (lo8 c)) ∧ ∀ c ∈ cs, ¬ 255 < c) ∨ (cd = 1 ∧ N2 = Int32.ofNat (2 * cs.length) ∧ vs = wideBytes cs ∧ ∃ c ∈ cs, 255 < c)
theorem CodA.cod {cs : List Int32} {cd N2 : Int32} {vs : List Value} {V : Cell} (h : CodA cs cd N2 vs) (hn : 2 * cs.length < 2 ^ 31) (hs : V.slots.size = N2.toNatClampNeg) (hv : RoadKit.Has V vs (.int 0)) : Cod cd cs.length (fun j => cs.getD j 0) V := by
  rcases h with ⟨rfl, rfl, rfl, h⟩ | ⟨rfl, rfl, rfl, c, hc, hw⟩
  · rw [n32 (by omega)] at hs
    exact Or.inl ⟨rfl, hs, fun j hj => ⟨by rw [hv j (by omega), low_at _ _ _ hj], by
      have e : cs.getD j 0 = cs[j] := by simp [List.getD_eq_getElem?_getD, hj]
      show ¬ 255 < cs.getD j 0
      rw [e]; exact h _ (List.getElem_mem _)⟩⟩
  · rw [n32 (by omega)] at hs
    obtain ⟨j, hj, rfl⟩ := List.getElem_of_mem hc
    exact Or.inr ⟨rfl, hs, fun j hj => ⟨by rw [hv _ (by omega), wide_lo _ _ _ hj], by rw [hv _ (by omega), wide_hi _ _ _ hj]⟩, j, hj, by
      have e : cs.getD j 0 = cs[j] := by simp [List.getD_eq_getElem?_getD, hj]
      show 255 < cs.getD j 0
      rw [e]; exact hw⟩
/-- an object of exactly java/lang/String, its two fields found: as the laws ask it -/
theorem strObj {Z U : State} {a0 : Array Value} {kI : Nat} (wi : (Jvm.Cond.instantiable ST kI).before a0 Z = true) (al : Z.vm.Alike U.vm) {x : Addr} {v0 c0 : Value} (E : RoadKit.Exa Z U.heap x ST) (V : RoadKit.Fld Z U.heap x ST "value" "[B" v0) (C : RoadKit.Fld Z U.heap x ST "coder" "B" c0) :
    ∃ (D : Cell) (fV fC : Field), Blank ST x D U ∧ Found ST "value" "[B" fV U ∧ Found ST "coder" "B" fC U ∧ D.slots[fV.slot]? = some v0 ∧ D.slots[fC.slot]? = some c0 ∧ RoadKit.slotOf Z ST "value" "[B" = fV.slot ∧ RoadKit.slotOf Z ST "coder" "B" = fC.slot := by
  obtain ⟨D, cfV, kV, iV, fV, hD, gV, stV, knV, obV, asV, slV⟩ := V
  obtain ⟨D', cfC, kC, iC, fC, hD', gC, stC, -, -, asC, slC⟩ := C
  cases hD.symm.trans hD'
  obtain ⟨D2, kD, e1, e2, e3, e4, e5⟩ := E
  cases hD.symm.trans e1
  obtain ⟨c2, k2, i1, i2, i3, -⟩ := Cond.instantiable_spec wi
  cases e2.symm.trans i1
  cases e3.symm.trans i2
  obtain ⟨kU, u1, u2⟩ := al.2.2 _ _ e3
  exact ⟨D, fV, fC, ⟨hD, ⟨knV, fun q hq => by rw [hq] at obV; cases obV⟩, by rw [al.findClass]; exact e2, kU, u1, by rw [u2]; exact i3, by rw [u2]; exact e5 i3⟩, ⟨SBG.found_only al ⟨cfV, kV, iV, gV⟩, stV⟩, ⟨SBG.found_only al ⟨cfC, kC, iC, gC⟩, stC⟩, slV, slC, by simp [RoadKit.slotOf, gV], by simp [RoadKit.slotOf, gC]⟩
theorem sta_is {Z U : State} (al : Z.vm.Alike U.vm) {C n d : String} {v : Value} (S : RoadKit.Sta Z U.heap C n d v) : StaticIs U C n d v := by
  obtain ⟨cfS, iS, kS, fS, st, cS, t1, t2, t3, t4, t5, t6, t7⟩ := S
  exact StaticIs.there (s := { Z with heap := U.heap }) ⟨cfS, iS, kS, fS, st, cS, t1, t2, t3, t4, t5, (fun q => by rw [q] at t6; cases t6), t7⟩ al rfl
/-- **length() OF SUCH A STRING** -/
theorem lenW {p : Program} {l : Launch} {e : Env} {R : Room} {s : State} {args : Array Value} {below : List Frame} {len W : Nat} {Z : State} {a0 : Array Value} {h : Heap} (hZ : Z.Warmed39 s.vm) (hw : ∀ d ∈ wordsLen, d.before a0 Z = true) {kI : Nat} (wi : (Jvm.Cond.instantiable ST kI).before a0 Z = true)
    {x t : Addr} {kb : ClassId} {cs : List Int32} {cd N2 z : Int32} {vs : List Value} (E : RoadKit.Exa Z h x ST) (V : RoadKit.Fld Z h x ST "value" "[B" (.ref t)) (C : RoadKit.Fld Z h x ST "coder" "B" (.int cd)) (K : RoadKit.Arv Z h t kb .byte N2 vs (.int 0)) (hc : CodA cs cd N2 vs) (hb : ∀ c ∈ cs, ¬ c < 0 ∧ ¬ (65535 : Int32) < c)
    (S : RoadKit.Sta Z h ST "COMPACT_STRINGS" "Z" (.int z)) (hz : ¬ z = 0) (l2 : cs.length ≤ 4000) (hfr : 2 ≤ R.frames) (hlo : W + 25 ≤ R.locals) :
    Back l R p e below s args (⟨"java/lang/String", "length", "()I"⟩ : MethodName) len W (fun P a => a = #[.ref x] ∧ P.U.heap = h ∧ P.cells + 0 ≤ R.cells ∧ P.slots + 0 ≤ R.slots)
      (fun P _ v B => ∃ L, (v = some (.int (Int32.ofNat cs.length)) ∧ L = [] ∧ B.U.heap = h) ∧ B.locs = P.locs ++ L ∧ B.cells = P.cells + 0 ∧ B.slots = P.slots + 0) := by
  obtain ⟨A, K1, K2, K3, K4, K5, K6⟩ := K
  have hcod := hc.cod (by omega) K3 K5
  intro m meth c P g ig mk a X hg hsize hdg hW hn hp'
  obtain ⟨rfl, rfl, r1, r2⟩ := hp'
  have al : Z.vm.Alike P.U.vm := hZ.alike.trans X.warmed.alike
  obtain ⟨D, fV, fC, hB, F1, F2, g1, g2, -, -⟩ := strObj wi al E V C
  have hx : Txt x t A cd cs.length (fun j => cs.getD j 0) P.U := ⟨⟨_, hB.2.2.1, D, hB.1, rfl, by cases q : D.vm <;> first | rfl | exact absurd q (hB.2.1.2 _)⟩, Has.of hB F1 g1, Has.of hB F2 g2, ⟨K1.1, State.isArrayOf_alike al K1.2.1, K1.2.2, by rcases hcod with ⟨-, q, -⟩ | ⟨-, q, -⟩ <;> omega⟩, hcod, fun j hj => by
    have e : cs.getD j 0 = cs[j] := by simp [List.getD_eq_getElem?_getD, hj]
    show ¬ cs.getD j 0 < 0 ∧ ¬ 65535 < cs.getD j 0
    rw [e]; exact hb _ (List.getElem_mem _)⟩
  obtain ⟨v, B, X', ⟨⟨hv, hh⟩, hl, hk, hs⟩, st⟩ := Len.pays x t A cd cs.length (fun j => cs.getD j 0) z (tabLen_of (movedLen hZ hw)) hfr hlo m meth c P g ig mk _ X hg hsize hdg hW hn ⟨r1, r2, rfl, hx, sta_is al S, hz⟩
  exact ⟨v, B, X', ⟨[], ⟨hv, rfl, hh⟩, hl, hk, hs⟩, st⟩
end StrChars.Road
namespace StrChars.Road
open Jvm Sem ClassFile Op Lib Jvm.Stand Jvm.Free Jvm.Free.XT
open Jvm.Lib.Cold (StaticIs)
/-- the road's facts of a String, as the laws ask it -/
theorem txt_of {Z U : State} {a0 : Array Value} {kI : Nat} (wi : (Jvm.Cond.instantiable ST kI).before a0 Z = true) (al : Z.vm.Alike U.vm) {x t : Addr} {kb : ClassId} {cs : List Int32} {cd N2 : Int32} {vs : List Value} (E : RoadKit.Exa Z U.heap x ST) (V : RoadKit.Fld Z U.heap x ST "value" "[B" (.ref t)) (C : RoadKit.Fld Z U.heap x ST "coder" "B" (.int cd)) (K : RoadKit.Arv Z U.heap t kb .byte N2 vs (.int 0)) (hc : CodA cs cd N2 vs) (hb : ∀ c ∈ cs, ¬ c < 0 ∧ ¬ (65535 : Int32) < c) (l2 : cs.length ≤ 4000) :
    ∃ A, Txt x t A cd cs.length (fun j => cs.getD j 0) U := by
  obtain ⟨A, K1, K2, K3, K4, K5, K6⟩ := K
  have hcod := hc.cod (by omega) K3 K5
  obtain ⟨D, fV, fC, hB, F1, F2, g1, g2, -, -⟩ := strObj wi al E V C
  exact ⟨A, ⟨_, hB.2.2.1, D, hB.1, rfl, by cases q : D.vm <;> first | rfl | exact absurd q (hB.2.1.2 _)⟩, Has.of hB F1 g1, Has.of hB F2 g2, ⟨K1.1, State.isArrayOf_alike al K1.2.1, K1.2.2, by rcases hcod with ⟨-, q, -⟩ | ⟨-, q, -⟩ <;> omega⟩, hcod, fun j hj => by
    have e : cs.getD j 0 = cs[j] := by simp [List.getD_eq_getElem?_getD, hj]
    show ¬ cs.getD j 0 < 0 ∧ ¬ 65535 < cs.getD j 0
    rw [e]; exact hb _ (List.getElem_mem _)⟩
end StrChars.Road
namespace StrChars
open Jvm Sem ClassFile Op Lib Jvm.Stand Jvm.Free.XT Jvm.Free.ALB Jvm.Free.JM Jvm.Free
open Jvm.Lib.Cold (StaticIs)
namespace ChN
def yN : MethodName := ⟨"java/lang/String", "charAt", "(I)C"⟩
abbrev yB : ByteArray := jdk_42_method_56_code
theorem d0 : decode yB 0 = .ok (.aload_n 0, 1) := by decide +kernel
theorem d1 : decode yB 1 = .ok (.invokevirtual 492, 3) := by decide +kernel
theorem d4 : decode yB 4 = .ok (.ifCond (.eq) 12, 3) := by decide +kernel
theorem d7 : decode yB 7 = .ok (.aload_n 0, 1) := by decide +kernel
theorem d8 : decode yB 8 = .ok (.getfield 9, 3) := by decide +kernel
theorem d11 : decode yB 11 = .ok (.iload_n 1, 1) := by decide +kernel
theorem d12 : decode yB 12 = .ok (.invokestatic 495, 3) := by decide +kernel
theorem d15 : decode yB 15 = .ok (.ireturn, 1) := by decide +kernel
def site : List Cond := [.fieldLink "java/lang/String" 9 "java/lang/String" "value" "[B", IsL.tab, LChA.tab] ++ virtW "java/lang/String" 492 "java/lang/String" IsL.yN IsL.yN ++ staticW "java/lang/String" 495 LChA.yN
def tab : Cond := tabOf yN yB 2 (some .char) site
def P (x t : Addr) (V : Cell) (n : Nat) (f : Nat → Int32) (z : Int32) (fm : Value) (i : Nat) (args : Array Value) (s : State) : Prop := args = #[.ref x, .int (Int32.ofNat i)] ∧ Txt x t V 0 n f s ∧ i < n ∧ StaticIs s "java/lang/String" "COMPACT_STRINGS" "Z" (.int z) ∧ ¬ z = 0 ∧ StaticIs s "jdk/internal/util/Preconditions" "SIOOBE_FORMATTER" "Ljava/util/function/BiFunction;" fm ∧ fm.isRef = true
def E (f : Nat → Int32) (i : Nat) (r : Option Value) (s u : State) : Prop := XT.PureE (some (.int (f i))) r s u
/-- charAt(i) of a Latin-1 String of n chars, i < n: f i -/
theorem law (l : Launch) (x t : Addr) (V : Cell) (n : Nat) (f : Nat → Int32) (z : Int32) (fm : Value) (i : Nat) : Law l yN 2 1 3 40 yB 2 (some .char) site (P x t V n f z fm i) (E f i) [] 0 0 := by
  refine Law.of_walk (plainFor_of_name (by decide +kernel)) (by decide +kernel) (by decide +kernel) (by decide) (fun _ _ h => by rw [h.1]; rfl) (fun _ U U' hal hh h => ⟨h.1, h.2.1.mv hal hh, h.2.2.1, h.2.2.2.1.there hal hh, h.2.2.2.2.1, h.2.2.2.2.2.1.there hal hh, h.2.2.2.2.2.2⟩) (fun r U U' V V' h1 hal h2 h => XT.PureE.mv r U U' V V' h1 hal h2 h) ?_
  intro p e s m args below meth c s₁ X0 hexec hbytes hml hret hlk hnm hown hh0 W hP
  obtain ⟨rfl, hx, hi, s1, hz, s3, rf⟩ := hP
  have v31 := hx.2.2.2.1.2.2.2
  have hr := hx.2.2.2.2.2 i hi
  have hx0 := hx.mv X0.warmed.alike hh0
  have c1 : Steps p.tables e below (s₁.setTop (entryFrame m #[.ref x, .int (Int32.ofNat i)] 2)) (s₁.setTop (mkF m 1 #[.val (.ref x), .val (.int (Int32.ofNat i))] [.ref x])) := Steps.trans (entry rfl) (by
    show Steps p.tables e below (s₁.setTop (mkF m 0 #[.val (.ref x), .val (.int (Int32.ofNat i))] [])) _
    refine XS.aloadN X0.here hexec rfl (hb hbytes d0) rfl rfl ?_
    exact Steps.refl _)
  obtain ⟨v2, T2, X2, E2, g2⟩ := X0.callV hexec (IsL.law l x 0 z) hown (wks W (virtW "java/lang/String" 492 "java/lang/String" IsL.yN IsL.yN)) rfl (by decide) (wk W IsL.tab) (W := 0) (Nat.le_of_ble_eq_true rfl) (Nat.le_of_ble_eq_true rfl) (Nat.le_refl _) (Nat.le_refl _) (hx0.1.fc X0.warmed.alike) hx0.1.is (g := (mkF m 1 #[.val (.ref x), .val (.int (Int32.ofNat i))] [.ref x])) rfl (by rw [hml]; rfl) c1 (argsL := []) (rest := []) rfl rfl (by show 2 * 0 + 0 ≤ _; decide) (hb hbytes d1) (⟨rfl, hx0.2.2.1, hx.2.2.2.2.1.cd, s1.there X0.warmed.alike hh0, hz⟩)
  obtain ⟨rfl, q2⟩ := E2
  have hh2 := q2.trans hh0
  have hx2 := hx.mv X2.warmed.alike hh2
  obtain ⟨-, k1, k2⟩ | ⟨k0, -⟩ := hx.2.2.2.2.1
  · have c3 : Steps p.tables e below (s₁.setTop (entryFrame m #[.ref x, .int (Int32.ofNat i)] 2)) (T2.setTop (mkF m 8 #[.val (.ref x), .val (.int (Int32.ofNat i))] [.ref x])) := Steps.trans g2 (by
      refine XS.ifNo X2.here hexec rfl (hb hbytes d4) rfl (i0_eq_f (by decide)) ?_
      refine XS.aloadN X2.here hexec rfl (hb hbytes d7) rfl rfl ?_
      exact Steps.refl _)
    obtain ⟨T4, X4, q4, st4⟩ := X2.hget hexec hown (wk W (.fieldLink "java/lang/String" 9 "java/lang/String" "value" "[B")) hx2.2.1 (g := (mkF m 8 #[.val (.ref x), .val (.int (Int32.ofNat i))] [.ref x])) rfl (rest := []) rfl (hb hbytes d8)
    have hh4 := q4.trans hh2
    have c5 : Steps p.tables e below (s₁.setTop (entryFrame m #[.ref x, .int (Int32.ofNat i)] 2)) (T4.setTop (mkF m 12 #[.val (.ref x), .val (.int (Int32.ofNat i))] [.int (Int32.ofNat i), .ref t])) := (c3.trans (st4 _ (Steps.refl _))).trans (by
      refine XS.iloadN X4.here hexec rfl (hb hbytes d11) rfl ?_
      exact Steps.refl _)
    obtain ⟨v6, T6, X6, E6, g6⟩ := X4.callS hexec (LChA.law l t V i (lo8 (f i)) fm) hown (wks W (staticW "java/lang/String" 495 LChA.yN)) (wk W LChA.tab) (W := 0) (Nat.le_of_ble_eq_true rfl) (Nat.le_of_ble_eq_true rfl) (Nat.le_refl _) (Nat.le_refl _) (g := (mkF m 12 #[.val (.ref x), .val (.int (Int32.ofNat i))] [.int (Int32.ofNat i), .ref t])) rfl (by rw [hml]; rfl) c5 (argsL := [.ref t, .int (Int32.ofNat i)]) (rest := []) rfl rfl (by show 2 * 0 + 0 ≤ _; decide) (hb hbytes d12) (⟨rfl, hx.2.2.2.1.mv X4.warmed.alike hh4, (k2 i hi).1, s3.there X4.warmed.alike hh4, rf⟩)
    obtain ⟨rfl, q6⟩ := E6
    rw [chr8_lo8 hr.1 (k2 i hi).2] at g6
    exact ⟨T6, some (.int (f i)), _, _, _, X6, rfl, rfl, rfl, (fun h => by cases h), ⟨rfl, q6.trans hh4⟩, fun fs hl => Steps.trans g6 (X6.ireturnOut hexec hret (narrow_ch hr.1 hr.2) (Or.inr (Or.inr (Or.inr (Or.inl rfl)))) (hb hbytes d15) hl)⟩
  · exact absurd k0 (by decide)
theorem pays {l : Launch} {R : Room} {p : Program} {e : Env} {below : List Frame} {s : State} {sargs : Array Value} {len W : Nat} (x t : Addr) (V : Cell) (n : Nat) (f : Nat → Int32) (z : Int32) (fm : Value) (i : Nat) (htab : tab.before sargs s = true) (hfr : 4 ≤ R.frames) (hlo : W + 53 ≤ R.locals) :
    Back l R p e below s sargs yN len W (fun A₁ a₁ => A₁.cells + 0 ≤ R.cells ∧ A₁.slots + 0 ≤ R.slots ∧ P x t V n f z fm i a₁ A₁.U) (fun A₁ _ v₁ B₁ => E f i v₁ A₁.U B₁.U ∧ B₁.locs = A₁.locs ++ [] ∧ B₁.cells = A₁.cells + 0 ∧ B₁.slots = A₁.slots + 0) :=
  (law l x t V n f z fm i).pays htab hfr (by omega)
end ChN
end StrChars
namespace StrChars.Road
open Jvm Sem ClassFile Op Lib Jvm.Stand Jvm.Free Jvm.Free.XT
open Jvm.Lib.Cold (StaticIs)
/-- the words of String.charAt(int), the Latin-1 road alone -/
abbrev wordsChN : List Jvm.Cond := [.code ChN.yN ChN.yB 2 (some .char), .initialized ST, .fieldLink ST 9 ST "value" "[B", .fieldLink ST 38 ST "COMPACT_STRINGS" "Z", .fieldLink ST 15 ST "coder" "B", .code IsL.yN IsL.yB 1 (some .boolean), .methodLink ST 492 IsL.yN, .declares IsL.yN, .selects ST IsL.yN IsL.yN, .instanceMethod IsL.yN,
  .methodLink ST 495 LChA.yN, .static LChA.yN, .code LChA.yN LChA.yB 2 (some .char), .initialized "java/lang/StringLatin1", .methodLink "java/lang/StringLatin1" 9 JO.Str_checkIndex.yN, .static JO.Str_checkIndex.yN, .code JO.Str_checkIndex.yN JO.Str_checkIndex.yB 2 none,
  .fieldLink ST 1053 "jdk/internal/util/Preconditions" "SIOOBE_FORMATTER" "Ljava/util/function/BiFunction;", .methodLink ST 1059 JC.PreCheck.yN, .static JC.PreCheck.yN, .code JC.PreCheck.yN JC.PreCheck.yB 3 (some .int), .initialized "jdk/internal/util/Preconditions"]
theorem tabChN_of {a : Array Value} {s : State} (h : ∀ w ∈ wordsChN, w.before a s = true) : ChN.tab.before a s = true := by
  have hp : JC.PreCheck.tab.before a s = true := unparts (wk h (.code JC.PreCheck.yN JC.PreCheck.yB 3 (some .int))) (wks h (.initialized JC.PreCheck.yN.cls :: JC.PreCheck.site))
  have qk := consq hp h
  have hk : JO.Str_checkIndex.tab.before a s = true := unparts (wk qk (.code JO.Str_checkIndex.yN JO.Str_checkIndex.yB 2 none)) (wks qk (.initialized JO.Str_checkIndex.yN.cls :: JO.Str_checkIndex.site))
  have ql := consq hk h
  have hl : LChA.tab.before a s = true := unparts (wk ql (.code LChA.yN LChA.yB 2 (some .char))) (wks ql (.initialized LChA.yN.cls :: LChA.site))
  have hi : IsL.tab.before a s = true := unparts (wk h (.code IsL.yN IsL.yB 1 (some .boolean))) (wks h (.initialized IsL.yN.cls :: IsL.site))
  have q := consq hi (consq hl h)
  exact unparts (wk q (.code ChN.yN ChN.yB 2 (some .char))) (wks q (.initialized ChN.yN.cls :: ChN.site))
theorem movedChN {Z s : State} {a0 args : Array Value} (hZ : Z.Warmed39 s.vm) (hw : ∀ d ∈ wordsChN, d.before a0 Z = true) : ∀ d ∈ wordsChN, d.before args s = true := fun d hd => by
  have t : ∀ d ∈ wordsChN, (d.onTables && d.keepsFace) = true := by decide +kernel
  exact RoadKit.mv hZ (hw d hd) (t d hd)
/-- **charAt(i) OF A LATIN-1 STRING**, i < n: the char -/
theorem chN {p : Program} {l : Launch} {e : Env} {R : Room} {s : State} {args : Array Value} {below : List Frame} {len W : Nat} {Z : State} {a0 : Array Value} {h : Heap} (hZ : Z.Warmed39 s.vm) (hw : ∀ d ∈ wordsChN, d.before a0 Z = true) {kI : Nat} (wi : (Jvm.Cond.instantiable ST kI).before a0 Z = true)
    {x t : Addr} {kb : ClassId} {cs : List Int32} {N2 z : Int32} {vs : List Value} {fm : Value} {i : Nat} {j : Int32} (E : RoadKit.Exa Z h x ST) (V : RoadKit.Fld Z h x ST "value" "[B" (.ref t)) (C : RoadKit.Fld Z h x ST "coder" "B" (.int 0)) (K : RoadKit.Arv Z h t kb .byte N2 vs (.int 0)) (hc : CodA cs 0 N2 vs) (hb : ∀ c ∈ cs, ¬ c < 0 ∧ ¬ (65535 : Int32) < c)
    (S : RoadKit.Sta Z h ST "COMPACT_STRINGS" "Z" (.int z)) (hz : ¬ z = 0) (F : RoadKit.Sta Z h "jdk/internal/util/Preconditions" "SIOOBE_FORMATTER" "Ljava/util/function/BiFunction;" fm) (rf : fm.isRef = true) (l2 : cs.length ≤ 4000) (hi : i < cs.length) (hj : j = Int32.ofNat i) (hfr : 4 ≤ R.frames) (hlo : W + 53 ≤ R.locals) :
    Back l R p e below s args (⟨"java/lang/String", "charAt", "(I)C"⟩ : MethodName) len W (fun P a => a = #[.ref x, .int j] ∧ P.U.heap = h ∧ P.cells + 0 ≤ R.cells ∧ P.slots + 0 ≤ R.slots)
      (fun P _ v B => ∃ L, (v = some (.int (cs.getD i 0)) ∧ L = [] ∧ B.U.heap = h) ∧ B.locs = P.locs ++ L ∧ B.cells = P.cells + 0 ∧ B.slots = P.slots + 0) := by
  subst hj
  intro m meth c P g ig mk a X hg hsize hdg hW hn hp'
  obtain ⟨rfl, rfl, r1, r2⟩ := hp'
  have al : Z.vm.Alike P.U.vm := hZ.alike.trans X.warmed.alike
  obtain ⟨A, hx⟩ := txt_of wi al E V C K hc hb l2
  obtain ⟨v, B, X', ⟨⟨hv, hh⟩, hl, hk, hs⟩, st⟩ := ChN.pays x t A cs.length (fun j => cs.getD j 0) z fm i (tabChN_of (movedChN hZ hw)) hfr hlo m meth c P g ig mk _ X hg hsize hdg hW hn ⟨r1, r2, rfl, hx, hi, sta_is al S, hz, sta_is al F, rf⟩
  exact ⟨v, B, X', ⟨[], ⟨hv, rfl, hh⟩, hl, hk, hs⟩, st⟩
/-- what backV says of its String, as the contracts of this text ask it: cs's low bytes, coder 0 -/
theorem codOf {cs : List Int32} {n : Nat} (hn : cs.length = n) (hb : ∀ c ∈ cs, ¬ 255 < c) : CodA cs 0 (Int32.ofNat n) ((cs.map lo8).map Value.int) := Or.inl ⟨rfl, by rw [hn], by simp [List.map_map, Function.comp_def], hb⟩
end StrChars.Road
end Jvm.Pilot.@@N@@
namespace Jvm.Pilot.@@N@@
open Jvm Jvm.ClassFile Sem Op Lib Jvm.Free Jvm.Stand Jvm.LawKit Jvm.RoadKit Bundle Jvm.Pilot.@@N@@.Jvm.D

def own_n (q : Int64) (sh : Int32) : Int32 := ((q.toUInt64 >>> (sh &&& 0x3f).toInt64.toUInt64).toInt64 &&& (15 : Int64)).toInt32
def own_hc (n : Int32) (b : Bool) : Int32 := if n < 10 then ((48 : Int32) + n).toUInt32.toUInt16.toUInt32.toInt32 else if b then ((65 : Int32) + (n - 10)).toUInt32.toUInt16.toUInt32.toInt32 else ((97 : Int32) + (n - 10)).toUInt32.toUInt16.toUInt32.toInt32
def own_hx (q : Int64) (sh cb k : Int32) : Int32 := nar .char (own_hc (own_n q sh) (decide (¬ ((cb.toUInt32 >>> (k &&& 31).toUInt32).toInt32 &&& 1) = 0)))
def own_H : List Int32 := [48, 49, 50, 51, 52, 53, 54, 55, 56, 57, 65, 66, 67, 68, 69, 70, 97, 98, 99, 100, 101, 102]
def own_val (c : Int32) : Int32 := if c < 58 then c - 48 else if c < 71 then c - 55 else c - 87
theorem own_hx_d : ∀ (d : Fin 16) (b : Bool), nar .char (own_hc (Int32.ofNat d.val) b) ∈ own_H ∧ own_val (nar .char (own_hc (Int32.ofNat d.val) b)) = Int32.ofNat d.val := by decide +kernel
theorem own_nar : ∀ c ∈ own_H, nar .char c = c := by decide +kernel
theorem own_Hb : ∀ c ∈ own_H, ¬ c < 0 ∧ ¬ (255 : Int32) < c := by decide +kernel
theorem own_H3 : ∀ c ∈ own_H, (¬ c < 48 ∧ ¬ (57 : Int32) < c) ∨ (¬ c < 97 ∧ ¬ (102 : Int32) < c) ∨ (¬ c < 65 ∧ ¬ (70 : Int32) < c) := by decide +kernel
theorem own_Hn : ∀ c ∈ own_H, c = Int32.ofNat c.toNatClampNeg ∧ c.toNatClampNeg < 128 := by decide +kernel
theorem own_valn : ∀ c ∈ own_H, own_val c = Int32.ofNat (own_val c).toNatClampNeg ∧ (own_val c).toNatClampNeg < 16 := by decide +kernel
theorem own_n_nat (q : Int64) (sh : Nat) (h : sh < 64) : own_n q (Int32.ofNat sh) = Int32.ofNat (q.toBitVec.toNat / 2 ^ sh % 16) := by
  have hs : ∀ s : Fin 64, (((Int32.ofNat s.val) &&& 0x3f).toInt64.toUInt64).toNat % 64 = s.val := by decide +kernel
  have e := hs ⟨sh, h⟩
  apply Int32.toBitVec_inj.mp
  apply BitVec.eq_of_toNat_eq
  have hq : q.toUInt64.toNat = q.toBitVec.toNat := rfl
  have : (own_n q (Int32.ofNat sh)).toBitVec = (((q.toUInt64 >>> ((Int32.ofNat sh) &&& 0x3f).toInt64.toUInt64).toBitVec &&& 15#64).signExtend 32) := rfl
  rw [this]
  have h15 : ((q.toUInt64 >>> ((Int32.ofNat sh) &&& 0x3f).toInt64.toUInt64).toBitVec &&& 15#64).toNat = q.toBitVec.toNat / 2 ^ sh % 16 := by
    rw [BitVec.toNat_and]
    have : (q.toUInt64 >>> ((Int32.ofNat sh) &&& 0x3f).toInt64.toUInt64).toBitVec.toNat = q.toBitVec.toNat / 2 ^ sh := by
      show (q.toUInt64 >>> ((Int32.ofNat sh) &&& 0x3f).toInt64.toUInt64).toNat = _
      rw [UInt64.toNat_shiftRight, e, Nat.shiftRight_eq_div_pow, hq]
    rw [this]
    exact Nat.and_two_pow_sub_one_eq_mod _ 4
  have hlt : q.toBitVec.toNat / 2 ^ sh % 16 < 16 := Nat.mod_lt _ (by decide)
  rw [BitVec.signExtend_eq_setWidth_of_le _ (by decide), BitVec.toNat_setWidth, h15]
  show _ = (BitVec.ofNat 32 _).toNat
  rw [BitVec.toNat_ofNat]
theorem own_or32 (a b : Nat) : Int32.ofNat a ||| Int32.ofNat b = Int32.ofNat (a ||| b) := by
  apply Int32.toBitVec_inj.mp
  show BitVec.ofNat 32 a ||| BitVec.ofNat 32 b = BitVec.ofNat 32 (a ||| b)
  rw [BitVec.ofNat_or]
theorem own_or64 (a b : Nat) : Int64.ofNat a ||| Int64.ofNat b = Int64.ofNat (a ||| b) := by
  apply Int64.toBitVec_inj.mp
  show BitVec.ofNat 64 a ||| BitVec.ofNat 64 b = BitVec.ofNat 64 (a ||| b)
  rw [BitVec.ofNat_or]
theorem own_lt32 {n : Nat} (h : n < 256) : ¬ ((255 : Int32) < Int32.ofNat n) := by
  intro q
  rw [Int32.lt_iff_toInt_lt, Int32.toInt_ofNat_of_lt (by omega)] at q
  have : (255 : Int32).toInt = 255 := by decide
  omega
theorem own_chk {a b c d : Int32} (ha : a ∈ own_H) (hb : b ∈ own_H) (hc : c ∈ own_H) (hd : d ∈ own_H) : ¬ ((255 : Int32) < (((a ||| b) ||| c) ||| d)) := by
  obtain ⟨e1, l1⟩ := own_Hn a ha; obtain ⟨e2, l2⟩ := own_Hn b hb; obtain ⟨e3, l3⟩ := own_Hn c hc; obtain ⟨e4, l4⟩ := own_Hn d hd
  rw [e1, e2, e3, e4, own_or32, own_or32, own_or32]
  apply own_lt32
  have h2 : ∀ x y : Nat, x < 128 → y < 128 → x ||| y < 128 := fun x y hx hy => Nat.or_lt_two_pow (n := 7) hx hy
  exact Nat.lt_trans (h2 _ _ (h2 _ _ (h2 _ _ l1 l2) l3) l4) (by decide)
theorem own_orS (a i b : Nat) (h : b < 2 ^ i) : a * 2 ^ i ||| b = a * 2 ^ i + b := by
  rw [Nat.mul_comm]; exact (Nat.two_pow_add_eq_or_of_lt h a).symm
def own_p4 (a b c d : Int32) : Int64 := ((((a <<< ((12 : Int32) &&& 31)) ||| (b <<< ((8 : Int32) &&& 31))) ||| (c <<< ((4 : Int32) &&& 31))) ||| d).toInt64
theorem own_p4_nat {a b c d : Nat} (ha : a < 16) (hb : b < 16) (hc : c < 16) (hd : d < 16) : own_p4 (Int32.ofNat a) (Int32.ofNat b) (Int32.ofNat c) (Int32.ofNat d) = Int64.ofNat (a * 4096 + b * 256 + c * 16 + d) := by
  have s1 : ∀ x : Fin 16, Int32.ofNat x.val <<< ((12 : Int32) &&& 31) = Int32.ofNat (x.val * 2 ^ 12) := by decide +kernel
  have s2 : ∀ x : Fin 16, Int32.ofNat x.val <<< ((8 : Int32) &&& 31) = Int32.ofNat (x.val * 2 ^ 8) := by decide +kernel
  have s3 : ∀ x : Fin 16, Int32.ofNat x.val <<< ((4 : Int32) &&& 31) = Int32.ofNat (x.val * 2 ^ 4) := by decide +kernel
  have t1 := s1 ⟨a, ha⟩; have t2 := s2 ⟨b, hb⟩; have t3 := s3 ⟨c, hc⟩
  simp only at t1 t2 t3
  unfold own_p4
  rw [t1, t2, t3, own_or32, own_or32, own_or32]
  have e1 : a * 2 ^ 12 ||| b * 2 ^ 8 = (a * 16 + b) * 2 ^ 8 := by rw [own_orS _ _ _ (by omega)]; omega
  have e2 : (a * 16 + b) * 2 ^ 8 ||| c * 2 ^ 4 = (a * 256 + b * 16 + c) * 2 ^ 4 := by rw [own_orS _ _ _ (by omega)]; omega
  have e3 : (a * 256 + b * 16 + c) * 2 ^ 4 ||| d = a * 4096 + b * 256 + c * 16 + d := by rw [own_orS _ _ _ (by omega)]; omega
  rw [e1, e2, e3]
  apply Int64.toInt_inj.mp
  rw [Int32.toInt_toInt64, Int32.toInt_ofNat_of_lt (by omega), Int64.toInt_ofNat_of_lt (by omega)]
theorem own_pos4 {a b c d e f g h : Nat} (l1 : a < 65536) (l2 : b < 65536) (l3 : c < 65536) (l4 : d < 65536) (l5 : e < 65536) (l6 : f < 65536) (l7 : g < 65536) (l8 : h < 65536) :
    ¬ ((((((((Int64.ofNat a ||| Int64.ofNat b) ||| Int64.ofNat c) ||| Int64.ofNat d) ||| Int64.ofNat e) ||| Int64.ofNat f) ||| Int64.ofNat g) ||| Int64.ofNat h) < (0 : Int64)) := by
  simp only [own_or64]
  have h2 : ∀ x y : Nat, x < 65536 → y < 65536 → x ||| y < 65536 := fun x y hx hy => Nat.or_lt_two_pow (n := 16) hx hy
  have := h2 _ _ (h2 _ _ (h2 _ _ (h2 _ _ (h2 _ _ (h2 _ _ (h2 _ _ l1 l2) l3) l4) l5) l6) l7) l8
  intro q
  rw [Int64.lt_iff_toInt_lt, Int64.toInt_ofNat_of_lt (by omega)] at q
  have : (0 : Int64).toInt = 0 := by decide
  omega
def own_m (a b c d : Int64) : Int64 := (((a <<< ((48 : Int32) &&& 0x3f).toInt64) ||| (b <<< ((32 : Int32) &&& 0x3f).toInt64)) ||| (c <<< ((16 : Int32) &&& 0x3f).toInt64)) ||| d
theorem own_shl {n i : Nat} {j : Int64} (hj : j.toBitVec.smod 64#64 = BitVec.ofNat 64 i) (hi : i < 64) : Int64.ofNat n <<< j = Int64.ofNat (n * 2 ^ i) := by
  apply Int64.toBitVec_inj.mp
  show BitVec.ofNat 64 n <<< (j.toBitVec.smod 64#64) = BitVec.ofNat 64 (n * 2 ^ i)
  rw [hj]
  apply BitVec.eq_of_toNat_eq
  rw [BitVec.shiftLeft_eq', BitVec.toNat_shiftLeft, BitVec.toNat_ofNat, BitVec.toNat_ofNat, BitVec.toNat_ofNat]
  rw [Nat.mod_eq_of_lt (show i < 2 ^ 64 by omega), Nat.shiftLeft_eq, Nat.mod_mul_mod]
theorem own_m_nat {a b c d : Nat} (hb : b < 65536) (hc : c < 65536) (hd : d < 65536) : own_m (Int64.ofNat a) (Int64.ofNat b) (Int64.ofNat c) (Int64.ofNat d) = Int64.ofNat (a * 2 ^ 48 + b * 2 ^ 32 + c * 2 ^ 16 + d) := by
  unfold own_m
  rw [own_shl (i := 48) (by decide) (by decide), own_shl (i := 32) (by decide) (by decide), own_shl (i := 16) (by decide) (by decide), own_or64, own_or64, own_or64]
  have e1 : a * 2 ^ 48 ||| b * 2 ^ 32 = (a * 65536 + b) * 2 ^ 32 := by rw [own_orS _ _ _ (by omega)]; omega
  have e2 : (a * 65536 + b) * 2 ^ 32 ||| c * 2 ^ 16 = (a * 2 ^ 32 + b * 65536 + c) * 2 ^ 16 := by rw [own_orS _ _ _ (by omega)]; omega
  have e3 : (a * 2 ^ 32 + b * 65536 + c) * 2 ^ 16 ||| d = a * 2 ^ 48 + b * 2 ^ 32 + c * 2 ^ 16 + d := by rw [own_orS _ _ _ (by omega)]; omega
  rw [e1, e2, e3]
theorem own_back (q : Int64) : Int64.ofNat q.toBitVec.toNat = q := by
  apply Int64.toBitVec_inj.mp
  show BitVec.ofNat 64 _ = _
  simp
theorem own_g4 (M : Nat) : M / 2 ^ 12 % 16 * 4096 + M / 2 ^ 8 % 16 * 256 + M / 2 ^ 4 % 16 * 16 + M % 16 = M % 65536 := by omega
theorem own_dd (N i j : Nat) : N / 2 ^ (i + j) = N / 2 ^ i / 2 ^ j := by rw [Nat.pow_add, Nat.div_div_eq_div_mul]
theorem own_dig (N : Nat) (h : N < 2 ^ 64) :
    (N / 2 ^ 60 % 16 * 4096 + N / 2 ^ 56 % 16 * 256 + N / 2 ^ 52 % 16 * 16 + N / 2 ^ 48 % 16) * 2 ^ 48 + (N / 2 ^ 44 % 16 * 4096 + N / 2 ^ 40 % 16 * 256 + N / 2 ^ 36 % 16 * 16 + N / 2 ^ 32 % 16) * 2 ^ 32
    + (N / 2 ^ 28 % 16 * 4096 + N / 2 ^ 24 % 16 * 256 + N / 2 ^ 20 % 16 * 16 + N / 2 ^ 16 % 16) * 2 ^ 16 + (N / 2 ^ 12 % 16 * 4096 + N / 2 ^ 8 % 16 * 256 + N / 2 ^ 4 % 16 * 16 + N / 2 ^ 0 % 16) = N := by
  have k : ∀ i j M : Nat, N / 2 ^ i = M → N / 2 ^ (i + j) = M / 2 ^ j := fun i j M e => by rw [own_dd, e]
  obtain ⟨A, ea⟩ : ∃ A, N / 2 ^ 48 = A := ⟨_, rfl⟩
  obtain ⟨B, eb⟩ : ∃ A, N / 2 ^ 32 = A := ⟨_, rfl⟩
  obtain ⟨C, ec⟩ : ∃ A, N / 2 ^ 16 = A := ⟨_, rfl⟩
  rw [show N / 2 ^ 60 = A / 2 ^ 12 from k 48 12 A ea, show N / 2 ^ 56 = A / 2 ^ 8 from k 48 8 A ea, show N / 2 ^ 52 = A / 2 ^ 4 from k 48 4 A ea, ea,
    show N / 2 ^ 44 = B / 2 ^ 12 from k 32 12 B eb, show N / 2 ^ 40 = B / 2 ^ 8 from k 32 8 B eb, show N / 2 ^ 36 = B / 2 ^ 4 from k 32 4 B eb, eb,
    show N / 2 ^ 28 = C / 2 ^ 12 from k 16 12 C ec, show N / 2 ^ 24 = C / 2 ^ 8 from k 16 8 C ec, show N / 2 ^ 20 = C / 2 ^ 4 from k 16 4 C ec, ec, show N / 2 ^ 0 = N from by simp]
  have a := own_g4 A; have b := own_g4 B; have c := own_g4 C; have d := own_g4 N
  rw [a, b, c, d]
  have e1 : B / 2 ^ 16 = A := by rw [← eb, ← ea]; exact (own_dd N 32 16).symm
  have e2 : C / 2 ^ 16 = B := by rw [← ec, ← eb]; exact (own_dd N 16 16).symm
  clear a b c d k
  omega
def own_D (q : Int64) (i : Nat) : Nat := q.toBitVec.toNat / 2 ^ i % 16
theorem own_D16 (q : Int64) (i : Nat) : own_D q i < 16 := Nat.mod_lt _ (by decide)
theorem own_hxD (q : Int64) (cb k : Int32) (i : Nat) (h : i < 64) : own_hx q (Int32.ofNat i) cb k ∈ own_H ∧ own_val (own_hx q (Int32.ofNat i) cb k) = Int32.ofNat (own_D q i) := by
  unfold own_hx
  rw [own_n_nat q i h]
  exact own_hx_d ⟨_, own_D16 q i⟩ _
theorem own_all (q : Int64) : own_m (own_p4 (Int32.ofNat (own_D q 60)) (Int32.ofNat (own_D q 56)) (Int32.ofNat (own_D q 52)) (Int32.ofNat (own_D q 48))) (own_p4 (Int32.ofNat (own_D q 44)) (Int32.ofNat (own_D q 40)) (Int32.ofNat (own_D q 36)) (Int32.ofNat (own_D q 32)))
    (own_p4 (Int32.ofNat (own_D q 28)) (Int32.ofNat (own_D q 24)) (Int32.ofNat (own_D q 20)) (Int32.ofNat (own_D q 16))) (own_p4 (Int32.ofNat (own_D q 12)) (Int32.ofNat (own_D q 8)) (Int32.ofNat (own_D q 4)) (Int32.ofNat (own_D q 0))) = q := by
  have L := own_D16 q
  rw [own_p4_nat (L _) (L _) (L _) (L _), own_p4_nat (L _) (L _) (L _) (L _), own_p4_nat (L _) (L _) (L _) (L _), own_p4_nat (L _) (L _) (L _) (L _)]
  have g : ∀ a b c d : Nat, a < 16 → b < 16 → c < 16 → d < 16 → a * 4096 + b * 256 + c * 16 + d < 65536 := fun a b c d _ _ _ _ => by omega
  rw [own_m_nat (g _ _ _ _ (L _) (L _) (L _) (L _)) (g _ _ _ _ (L _) (L _) (L _) (L _)) (g _ _ _ _ (L _) (L _) (L _) (L _))]
  have e := own_dig q.toBitVec.toNat q.toBitVec.isLt
  exact (congrArg Int64.ofNat e).trans (own_back q)
theorem own_p4_pos {a b c d : Int32} (ha : a ∈ own_H) (hb : b ∈ own_H) (hc : c ∈ own_H) (hd : d ∈ own_H) : ∃ n : Nat, n < 65536 ∧ own_p4 (own_val a) (own_val b) (own_val c) (own_val d) = Int64.ofNat n := by
  obtain ⟨e1, l1⟩ := own_valn a ha; obtain ⟨e2, l2⟩ := own_valn b hb; obtain ⟨e3, l3⟩ := own_valn c hc; obtain ⟨e4, l4⟩ := own_valn d hd
  refine ⟨_, ?_, by rw [e1, e2, e3, e4]; exact own_p4_nat l1 l2 l3 l4⟩
  omega

theorem own_H4 : ∀ c ∈ own_H, (¬ c < 48 ∧ ¬ (57 : Int32) < c) ∨ (¬ c < 48 ∧ (57 : Int32) < c ∧ ¬ c < 97 ∧ ¬ (102 : Int32) < c) ∨ (¬ c < 48 ∧ (57 : Int32) < c ∧ c < 97 ∧ ¬ c < 65 ∧ ¬ (70 : Int32) < c) := by decide +kernel
theorem own_Hlt : ∀ c ∈ own_H, c.toNatClampNeg < 256 := by decide +kernel
theorem own_inN {c : Int32} {cN : Cell} (hc : c ∈ own_H) (hs : cN.slots.size = 256) : ¬ (c < 0 ∨ cN.slots.size ≤ c.toNatClampNeg) := fun q => q.elim (own_Hb c hc).1 fun z => by have := own_Hlt c hc; omega
theorem own_sj (i j : Nat) : Int32.ofNat i + Int32.ofNat j = Int32.ofNat (i + j) := by
  apply Int32.toBitVec_inj.mp
  show BitVec.ofNat 32 i + BitVec.ofNat 32 j = BitVec.ofNat 32 (i + j)
  rw [BitVec.ofNat_add]
theorem own_s1 {q : Int32} {i : Nat} (h : q = Int32.ofNat i) : q + (1 : Int32) = Int32.ofNat (i + 1) := by rw [h]; exact own_sj i 1
theorem own_s2 {q : Int32} {i : Nat} (h : q = Int32.ofNat i) : q + (2 : Int32) = Int32.ofNat (i + 2) := by rw [h]; exact own_sj i 2
theorem own_s3 {q : Int32} {i : Nat} (h : q = Int32.ofNat i) : q + (3 : Int32) = Int32.ofNat (i + 3) := by rw [h]; exact own_sj i 3
theorem own_up (cs : List Int32) (h : ∀ c ∈ cs, ¬ c < 0 ∧ ¬ (255 : Int32) < c) : ∀ c ∈ cs, ¬ c < 0 ∧ ¬ (65535 : Int32) < c := fun c hc => ⟨(h c hc).1, fun q => (h c hc).2 (by rw [Int32.lt_iff_toInt_lt] at q ⊢; have e1 : (65535 : Int32).toInt = 65535 := rfl; have e2 : (255 : Int32).toInt = 255 := rfl; omega)⟩
def own_q4 (cs : List Int32) (i : Nat) : Int64 := own_p4 (own_val (cs.getD i 0)) (own_val (cs.getD (i + 1) 0)) (own_val (cs.getD (i + 2) 0)) (own_val (cs.getD (i + 3) 0))
def own_msb (cs : List Int32) : Int64 := own_m (own_q4 cs 0) (own_q4 cs 4) (own_q4 cs 9) (own_q4 cs 14)
def own_lsb (cs : List Int32) : Int64 := own_m (own_q4 cs 19) (own_q4 cs 24) (own_q4 cs 28) (own_q4 cs 32)
def own_hexAt (cs : List Int32) : Prop := ∀ i : Nat, i < 36 → i ≠ 8 → i ≠ 13 → i ≠ 18 → i ≠ 23 → cs.getD i 0 ∈ own_H
def own_S (Z : State) (h : Heap) (n0 : Nat) (a1 ay : Addr) (kb : ClassId) (cs : List Int32) (G1 : Int32) (fm : Value) (aN : Addr) (cN : Cell) : Prop :=
  Exa Z h a1 "java/lang/String" ∧ Fld Z h a1 "java/lang/String" "value" "[B" (.ref ay) ∧ Fld Z h a1 "java/lang/String" "coder" "B" (.int (0 : Int32)) ∧ Arv Z h ay kb .byte (36 : Int32) ((cs.map (fun c => c.toInt8.toInt32)).map Value.int) (.int (0 : Int32)) ∧ (∀ c ∈ cs, ¬ c < 0 ∧ ¬ (255 : Int32) < c) ∧ cs.length = 36 ∧ Old Z n0 h ∧
  Sta Z Z.heap "java/lang/String" "COMPACT_STRINGS" "Z" (.int G1) ∧ ¬ (G1 = (0 : Int32)) ∧ Sta Z Z.heap "jdk/internal/util/Preconditions" "SIOOBE_FORMATTER" "Ljava/util/function/BiFunction;" fm ∧ fm.isRef = true ∧ Sta Z Z.heap "java/util/UUID" "NIBBLES" "[B" (.ref aN) ∧ Arr Z Z.heap aN cN .byte ∧ cN.slots.size = 256 ∧ (∀ c ∈ own_H, cN.slots[c.toNatClampNeg]? = some (.int (own_val c))) ∧
  cs.getD 8 0 = 45 ∧ cs.getD 13 0 = 45 ∧ cs.getD 18 0 = 45 ∧ cs.getD 23 0 = 45 ∧ own_hexAt cs
theorem own_S.ext {Z : State} {h h' : Heap} {n0 : Nat} {a1 ay : Addr} {kb : ClassId} {cs : List Int32} {G1 : Int32} {fm : Value} {aN : Addr} {cN : Cell} (S : own_S Z h n0 a1 ay kb cs G1 fm aN cN) (E : Ext h h') : own_S Z h' n0 a1 ay kb cs G1 fm aN cN := by
  obtain ⟨b1, b2, b3, b4, b5, b6, b7, b8⟩ := S
  exact ⟨b1.ext E, b2.ext E, b3.ext E, b4.ext E, b5, b6, b7.ext E, b8⟩
theorem own_lenB {p : Program} {l : Launch} {e : Env} {R : Room} {s : State} {args : Array Value} {below : List Frame} {len W : Nat} {Z : State} {a0 : Array Value} {h : Heap} {n0 : Nat} {a1 ay : Addr} {kb : ClassId} {cs : List Int32} {G1 : Int32} {fm : Value} {aN : Addr} {cN : Cell} (hZ : Z.Warmed39 s.vm) (hw : ∀ d ∈ tables_1, d.before a0 Z = true) (S : own_S Z h n0 a1 ay kb cs G1 fm aN cN) (hfr : 2 ≤ R.frames) (hlo : W + 25 ≤ R.locals) :
    Back l R p e below s args (⟨"java/lang/String", "length", "()I"⟩ : MethodName) len W (fun P a => a = #[.ref a1] ∧ P.U.heap = h ∧ P.cells + 0 ≤ R.cells ∧ P.slots + 0 ≤ R.slots)
      (fun P _ v B => ∃ L, (v = some (.int (36 : Int32)) ∧ L = [] ∧ B.U.heap = h) ∧ B.locs = P.locs ++ L ∧ B.cells = P.cells + 0 ∧ B.slots = P.slots + 0) := by
  obtain ⟨b1, b2, b3, b4, b5, b6, b7, b8, b9, -⟩ := S
  have hln : ∀ d ∈ StrChars.Road.wordsLen, d.before a0 Z = true := fun d hd => hw d ((by decide +kernel : ∀ d ∈ StrChars.Road.wordsLen, d ∈ tables_1) d hd)
  have z := StrChars.Road.lenW (p := p) (l := l) (e := e) (R := R) (args := args) (below := below) (len := len) (W := W) hZ hln (kI := 4) (hw _ (List.mem_of_getElem? (i := 7) rfl)) b1 b2 b3 b4 (StrChars.Road.codOf (n := 36) b6 (fun x hx => (b5 x hx).2)) (own_up _ b5) (b8.ext b7.2) b9 (by rw [b6]; decide) hfr hlo
  rw [b6] at z
  exact z
theorem own_chB {p : Program} {l : Launch} {e : Env} {R : Room} {s : State} {args : Array Value} {below : List Frame} {len W : Nat} {Z : State} {a0 : Array Value} {h : Heap} {n0 : Nat} {a1 ay : Addr} {kb : ClassId} {cs : List Int32} {G1 : Int32} {fm : Value} {aN : Addr} {cN : Cell} {i : Nat} {j : Int32} (hZ : Z.Warmed39 s.vm) (hw : ∀ d ∈ tables_1, d.before a0 Z = true) (S : own_S Z h n0 a1 ay kb cs G1 fm aN cN) (hi : i < 36) (hj : j = Int32.ofNat i) (hfr : 4 ≤ R.frames) (hlo : W + 53 ≤ R.locals) :
    Back l R p e below s args (⟨"java/lang/String", "charAt", "(I)C"⟩ : MethodName) len W (fun P a => a = #[.ref a1, .int j] ∧ P.U.heap = h ∧ P.cells + 0 ≤ R.cells ∧ P.slots + 0 ≤ R.slots)
      (fun P _ v B => ∃ L, (v = some (.int (cs.getD i 0)) ∧ L = [] ∧ B.U.heap = h) ∧ B.locs = P.locs ++ L ∧ B.cells = P.cells + 0 ∧ B.slots = P.slots + 0) := by
  obtain ⟨b1, b2, b3, b4, b5, b6, b7, b8, b9, b10, b11, -⟩ := S
  have hch : ∀ d ∈ StrChars.Road.wordsChN, d.before a0 Z = true := fun d hd => hw d ((by decide +kernel : ∀ d ∈ StrChars.Road.wordsChN, d ∈ tables_1) d hd)
  exact StrChars.Road.chN hZ hch (kI := 4) (hw _ (List.mem_of_getElem? (i := 7) rfl)) b1 b2 b3 b4 (StrChars.Road.codOf (n := 36) b6 (fun x hx => (b5 x hx).2)) (own_up _ b5) (b8.ext b7.2) b9 (b10.ext b7.2) b11 (by rw [b6]; decide) (by rw [b6]; exact hi) hj hfr hlo
theorem ef_rmX (m : MethodId) (x0 : Int64) (x1 : Int32) (x2 : Int32) (x3 : Int32) : entryFrame m #[(.long x0), (.int x1), (.int x2), (.int x3)] 7 = mkF m 0 #[.val (.long x0), .second, .val (.int x1), .val (.int x2), .val (.int x3), .unset, .unset] [] := by first | (simp [entryFrame, mkF, argsToLocals, Value.category]; done) | rfl
theorem pn_1 : plainName "com/example/nonce/nonce/id/UuidTextParsePinLaw" = true := by first | (simp [plainName, overriddenIn]; done) | decide +kernel
theorem d1_0 : decode method_2_code 0 = .ok (.lload_n 0, 1) := by decide +kernel
theorem d1_1 : decode method_2_code 1 = .ok (.iload_n 2, 1) := by decide +kernel
theorem d1_2 : decode method_2_code 2 = .ok (.lushr, 1) := by decide +kernel
theorem d1_3 : decode method_2_code 3 = .ok (.ldc2_w 7, 3) := by decide +kernel
theorem d1_6 : decode method_2_code 6 = .ok (.land, 1) := by decide +kernel
theorem d1_7 : decode method_2_code 7 = .ok (.l2i, 1) := by decide +kernel
theorem d1_8 : decode method_2_code 8 = .ok (.istore 5, 2) := by decide +kernel
theorem d1_10 : decode method_2_code 10 = .ok (.iload 5, 2) := by decide +kernel
theorem d1_12 : decode method_2_code 12 = .ok (.bipush 10, 2) := by decide +kernel
theorem d1_14 : decode method_2_code 14 = .ok (.if_icmp .ge 10, 3) := by decide +kernel
theorem d1_17 : decode method_2_code 17 = .ok (.bipush 48, 2) := by decide +kernel
theorem d1_19 : decode method_2_code 19 = .ok (.iload 5, 2) := by decide +kernel
theorem d1_21 : decode method_2_code 21 = .ok (.iadd, 1) := by decide +kernel
theorem d1_22 : decode method_2_code 22 = .ok (.i2c, 1) := by decide +kernel
theorem d1_23 : decode method_2_code 23 = .ok (.ireturn, 1) := by decide +kernel
theorem d1_24 : decode method_2_code 24 = .ok (.iload_n 3, 1) := by decide +kernel
theorem d1_25 : decode method_2_code 25 = .ok (.iload 4, 2) := by decide +kernel
theorem d1_27 : decode method_2_code 27 = .ok (.iushr, 1) := by decide +kernel
theorem d1_28 : decode method_2_code 28 = .ok (.iconst 1, 1) := by decide +kernel
theorem d1_29 : decode method_2_code 29 = .ok (.iand, 1) := by decide +kernel
theorem d1_30 : decode method_2_code 30 = .ok (.ifCond .eq 7, 3) := by decide +kernel
theorem d1_37 : decode method_2_code 37 = .ok (.iconst 0, 1) := by decide +kernel
theorem d1_38 : decode method_2_code 38 = .ok (.istore 6, 2) := by decide +kernel
theorem d1_40 : decode method_2_code 40 = .ok (.iload 6, 2) := by decide +kernel
theorem d1_42 : decode method_2_code 42 = .ok (.ifCond .eq 8, 3) := by decide +kernel
theorem d1_50 : decode method_2_code 50 = .ok (.bipush 97, 2) := by decide +kernel
theorem d1_52 : decode method_2_code 52 = .ok (.iload 5, 2) := by decide +kernel
theorem d1_54 : decode method_2_code 54 = .ok (.bipush 10, 2) := by decide +kernel
theorem d1_56 : decode method_2_code 56 = .ok (.isub, 1) := by decide +kernel
theorem d1_57 : decode method_2_code 57 = .ok (.iadd, 1) := by decide +kernel
theorem d1_58 : decode method_2_code 58 = .ok (.i2c, 1) := by decide +kernel
theorem d1_59 : decode method_2_code 59 = .ok (.ireturn, 1) := by decide +kernel
theorem d1_33 : decode method_2_code 33 = .ok (.iconst 1, 1) := by decide +kernel
theorem d1_34 : decode method_2_code 34 = .ok (.goto 4, 3) := by decide +kernel
theorem d1_45 : decode method_2_code 45 = .ok (.bipush 65, 2) := by decide +kernel
theorem d1_47 : decode method_2_code 47 = .ok (.goto 5, 3) := by decide +kernel
def Q_rmX (Z : State) (q1 : Int64) (p1 : Int32) (p2 : Int32) (p3 : Int32) (h0 : Heap) (n0 : Nat) (v : Option Value) (h : Heap) (L : List Loc) : Prop := v = some (.int (own_hx q1 p1 p2 p3)) ∧ Fr n0 L ∧ h = h0
set_option maxRecDepth 65536 in
set_option maxHeartbeats 40000000 in
theorem rmX (l : Launch) (Z : State) (a0 : Array Value) (hw : ∀ d ∈ tables_1, d.before a0 Z = true) (ws : List Jvm.Cond) (q1 : Int64) (p1 : Int32) (p2 : Int32) (p3 : Int32) (h0 : Heap) (n0 : Nat) (Z0 : n0 ≤ h0.size) :
    MetFree l (⟨"com/example/nonce/nonce/id/UuidTextParsePinLaw", "hex", "(JIII)C"⟩ : MethodName) (head1 (Jvm.Cond.code (⟨"com/example/nonce/nonce/id/UuidTextParsePinLaw", "hex", "(JIII)C"⟩ : MethodName) method_2_code 7 (some .char) :: ws) ({ frames := 0, cells := 0, slots := 0, locals := 0 } : Room)) (fun a U => a = #[(.long q1), (.int p1), (.int p2), (.int p3)] ∧ Z.Warmed39 U.vm ∧ U.heap = h0) (fun _ _ _ _ _ => True) (fun _ U o U' => ∃ v L, o = .returned v ∧ Q_rmX Z q1 p1 p2 p3 h0 n0 v U'.heap L ∧ FrameEnd U o U' L ({ frames := 0, cells := 0, slots := 0, locals := 0 } : Room).cells ({ frames := 0, cells := 0, slots := 0, locals := 0 } : Room).slots) := by
  refine MetFree.of_bodySF (plainFor_of_name pn_1) hisR ?_
  intro p e s m args below meth c s₁ Bd hml0 hP hK
  obtain ⟨rfl, hZ, hh⟩ := hP
  have hx := Bd.exec
  have hby := Bd.bytes
  have hml : c.maxLocals = 7 := hml0
  have hown : s.vm.findClass "com/example/nonce/nonce/id/UuidTextParsePinLaw" = some m.cls := (findClass_of_methodNamed Bd.named :)
  have hnm := (name_of_methodNamed Bd.named Bd.method).1
  have X0 : Stand p l e ({ frames := 0, cells := 0, slots := 0, locals := 0 } : Room) s m #[(.long q1), (.int p1), (.int p2), (.int p3)] below meth c s₁ [] 0 0 := Stand.of_body Bd
  have e0 : s₁.heap = h0 := by rw [← hh, Bd.state]; rfl
  have N0 := Fr.nil n0
  have pre0 : ∀ t, Steps p.tables e below (s₁.setTop (mkF m 0 #[.val (.long q1), .second, .val (.int p1), .val (.int p2), .val (.int p3), .unset, .unset] [])) t → Steps p.tables e below (s₁.setTop (entryFrame m #[(.long q1), (.int p1), (.int p2), (.int p3)] 7)) t := fun t k => castTop (ef_rmX m q1 p1 p2 p3) k
  have pre1 : ∀ t, Steps p.tables e below (s₁.setTop (mkF m 10 #[.val (.long q1), .second, .val (.int p1), .val (.int p2), .val (.int p3), .val (.int ((((q1.toUInt64 >>> (p1 &&& 0x3f).toInt64.toUInt64).toInt64) &&& (15 : Int64)).toInt32)), .unset] [])) t → Steps p.tables e below (s₁.setTop (entryFrame m #[(.long q1), (.int p1), (.int p2), (.int p3)] 7)) t := by
    intro t k
    refine pre0 t ?_
    refine XS.lloadN X0.here hx rfl (hb hby d1_0) rfl ?_
    refine XS.iloadN X0.here hx rfl (hb hby d1_1) rfl ?_
    refine XS.lushr X0.here hx rfl (hb hby d1_2) rfl ?_
    refine X0.ldc2Long hx hown (mvT hZ (hw _ (List.mem_of_getElem? (i := 5) rfl))) (g := (mkF m 3 #[.val (.long q1), .second, .val (.int p1), .val (.int p2), .val (.int p3), .unset, .unset] [(.long ((q1.toUInt64 >>> (p1 &&& 0x3f).toInt64.toUInt64).toInt64))])) rfl (hb hby d1_3) _ ?_
    refine XS.land X0.here hx rfl (hb hby d1_6) rfl ?_
    show Steps p.tables e below (s₁.setTop (mkF m 7 #[.val (.long q1), .second, .val (.int p1), .val (.int p2), .val (.int p3), .unset, .unset] [(.long (((q1.toUInt64 >>> (p1 &&& 0x3f).toInt64.toUInt64).toInt64) &&& (15 : Int64)))])) _
    refine XS.l2i X0.here hx rfl (hb hby d1_7) rfl ?_
    refine XS.istore X0.here hx rfl (hb hby d1_8) rfl (l' := #[.val (.long q1), .second, .val (.int p1), .val (.int p2), .val (.int p3), .val (.int ((((q1.toUInt64 >>> (p1 &&& 0x3f).toInt64.toUInt64).toInt64) &&& (15 : Int64)).toInt32)), .unset]) rfl ?_
    exact k
  obtain ⟨nn, hnn⟩ : ∃ z : Int32, z = ((((q1.toUInt64 >>> (p1 &&& 0x3f).toInt64.toUInt64).toInt64) &&& (15 : Int64)).toInt32) := ⟨_, rfl⟩
  rw [← hnn] at pre1
  have hn' : own_n q1 p1 = nn := hnn.symm
  have pre2 : ∀ t, Steps p.tables e below (s₁.setTop (mkF m 14 #[.val (.long q1), .second, .val (.int p1), .val (.int p2), .val (.int p3), .val (.int nn), .unset] [(.int (10 : Int32)), (.int nn)])) t → Steps p.tables e below (s₁.setTop (entryFrame m #[(.long q1), (.int p1), (.int p2), (.int p3)] 7)) t := by
    intro t k
    refine pre1 t ?_
    refine XS.iload X0.here hx rfl (hb hby d1_10) rfl ?_
    refine XS.bipush X0.here hx rfl (hb hby d1_12) ?_
    exact k
  by_cases h14 : nn < (10 : Int32)
  · skip
    have pre3 : ∀ t, Steps p.tables e below (s₁.setTop (mkF m 23 #[.val (.long q1), .second, .val (.int p1), .val (.int p2), .val (.int p3), .val (.int nn), .unset] [(.int (((48 : Int32) + nn).toUInt32.toUInt16.toUInt32.toInt32))])) t → Steps p.tables e below (s₁.setTop (entryFrame m #[(.long q1), (.int p1), (.int p2), (.int p3)] 7)) t := by
      intro t k
      refine pre2 t ?_
      refine XS.icmpNo X0.here hx rfl (hb hby d1_14) rfl (tlt h14).2.1 ?_
      show Steps p.tables e below (s₁.setTop (mkF m 17 #[.val (.long q1), .second, .val (.int p1), .val (.int p2), .val (.int p3), .val (.int nn), .unset] [])) _
      refine XS.bipush X0.here hx rfl (hb hby d1_17) ?_
      refine XS.iload X0.here hx rfl (hb hby d1_19) rfl ?_
      refine XS.iadd X0.here hx rfl (hb hby d1_21) rfl ?_
      refine XS.i2c X0.here hx rfl (hb hby d1_22) rfl ?_
      exact k
    obtain ⟨fs, hr, hrun, hended, hW, hsame⟩ := X0.leave (v := some (.int (nar .char (((48 : Int32) + nn).toUInt32.toUInt16.toUInt32.toInt32)))) (fun h => by rw [Bd.returns] at h; cases h)
    refine ⟨_, _, pre3 _ ?_, hrun, hended, _, _, rfl, ?_, ⟨_, rfl⟩, hW, hsame.mono (by decide) (by decide)⟩
    · exact retN X0 hx (t := .char) Bd.returns (by simp) (hb hby d1_23) hr
    · show Q_rmX Z q1 p1 p2 p3 h0 n0 _ s₁.heap _
      rw [e0]
      exact ⟨by unfold own_hx own_hc; rw [hn', if_pos h14], N0, rfl⟩
  · skip
    have pre4 : ∀ t, Steps p.tables e below (s₁.setTop (mkF m 30 #[.val (.long q1), .second, .val (.int p1), .val (.int p2), .val (.int p3), .val (.int nn), .unset] [(.int (((p2.toUInt32 >>> (p3 &&& 31).toUInt32).toInt32) &&& (1 : Int32)))])) t → Steps p.tables e below (s₁.setTop (entryFrame m #[(.long q1), (.int p1), (.int p2), (.int p3)] 7)) t := by
      intro t k
      refine pre2 t ?_
      refine XS.icmpYes X0.here hx rfl (pc0 := 14) (pc' := 24) rfl (hb hby d1_14) rfl (flt h14).2.1 (by decide) (by decide) ?_
      refine XS.iloadN X0.here hx rfl (hb hby d1_24) rfl ?_
      show Steps p.tables e below (s₁.setTop (mkF m 25 #[.val (.long q1), .second, .val (.int p1), .val (.int p2), .val (.int p3), .val (.int nn), .unset] [(.int p2)])) _
      refine XS.iload X0.here hx rfl (hb hby d1_25) rfl ?_
      refine XS.iushr X0.here hx rfl (hb hby d1_27) rfl ?_
      refine XS.iconst X0.here hx rfl (hb hby d1_28) ?_
      refine XS.iand X0.here hx rfl (hb hby d1_29) rfl ?_
      exact k
    by_cases h30 : (((p2.toUInt32 >>> (p3 &&& 31).toUInt32).toInt32) &&& (1 : Int32)) = (0 : Int32)
    · skip
      have pre5 : ∀ t, Steps p.tables e below (s₁.setTop (mkF m 59 #[.val (.long q1), .second, .val (.int p1), .val (.int p2), .val (.int p3), .val (.int nn), .val (.int (0 : Int32))] [(.int (((97 : Int32) + (nn - (10 : Int32))).toUInt32.toUInt16.toUInt32.toInt32))])) t → Steps p.tables e below (s₁.setTop (entryFrame m #[(.long q1), (.int p1), (.int p2), (.int p3)] 7)) t := by
        intro t k
        refine pre4 t ?_
        refine XS.ifYes X0.here hx rfl (pc0 := 30) (pc' := 37) rfl (hb hby d1_30) rfl ((if0 _ _).trans (teq h30).1) (by decide) (by decide) ?_
        refine XS.iconst X0.here hx rfl (hb hby d1_37) ?_
        show Steps p.tables e below (s₁.setTop (mkF m 38 #[.val (.long q1), .second, .val (.int p1), .val (.int p2), .val (.int p3), .val (.int nn), .unset] [(.int (0 : Int32))])) _
        refine XS.istore X0.here hx rfl (hb hby d1_38) rfl (l' := #[.val (.long q1), .second, .val (.int p1), .val (.int p2), .val (.int p3), .val (.int nn), .val (.int (0 : Int32))]) rfl ?_
        refine XS.iload X0.here hx rfl (hb hby d1_40) rfl ?_
        refine XS.ifYes X0.here hx rfl (pc0 := 42) (pc' := 50) rfl (hb hby d1_42) rfl ((if0 _ _).trans (teq (by decide : (0 : Int32) = (0 : Int32))).1) (by decide) (by decide) ?_
        refine XS.bipush X0.here hx rfl (hb hby d1_50) ?_
        refine XS.iload X0.here hx rfl (hb hby d1_52) rfl ?_
        refine XS.bipush X0.here hx rfl (hb hby d1_54) ?_
        show Steps p.tables e below (s₁.setTop (mkF m 56 #[.val (.long q1), .second, .val (.int p1), .val (.int p2), .val (.int p3), .val (.int nn), .val (.int (0 : Int32))] [(.int (10 : Int32)), (.int nn), (.int (97 : Int32))])) _
        refine XS.isub X0.here hx rfl (hb hby d1_56) rfl ?_
        refine XS.iadd X0.here hx rfl (hb hby d1_57) rfl ?_
        refine XS.i2c X0.here hx rfl (hb hby d1_58) rfl ?_
        exact k
      obtain ⟨fs, hr, hrun, hended, hW, hsame⟩ := X0.leave (v := some (.int (nar .char (((97 : Int32) + (nn - (10 : Int32))).toUInt32.toUInt16.toUInt32.toInt32)))) (fun h => by rw [Bd.returns] at h; cases h)
      refine ⟨_, _, pre5 _ ?_, hrun, hended, _, _, rfl, ?_, ⟨_, rfl⟩, hW, hsame.mono (by decide) (by decide)⟩
      · exact retN X0 hx (t := .char) Bd.returns (by simp) (hb hby d1_59) hr
      · show Q_rmX Z q1 p1 p2 p3 h0 n0 _ s₁.heap _
        rw [e0]
        exact ⟨by unfold own_hx own_hc; rw [hn', if_neg h14]; exact congrArg (fun z => some (Value.int (nar .char z))) (if_neg (by rw [decide_eq_true_eq]; exact fun q => q h30)).symm, N0, rfl⟩
    · skip
      have pre6 : ∀ t, Steps p.tables e below (s₁.setTop (mkF m 59 #[.val (.long q1), .second, .val (.int p1), .val (.int p2), .val (.int p3), .val (.int nn), .val (.int (1 : Int32))] [(.int (((65 : Int32) + (nn - (10 : Int32))).toUInt32.toUInt16.toUInt32.toInt32))])) t → Steps p.tables e below (s₁.setTop (entryFrame m #[(.long q1), (.int p1), (.int p2), (.int p3)] 7)) t := by
        intro t k
        refine pre4 t ?_
        refine XS.ifNo X0.here hx rfl (hb hby d1_30) rfl ((if0 _ _).trans (feq h30).1) ?_
        refine XS.iconst X0.here hx rfl (hb hby d1_33) ?_
        refine XS.goto X0.here hx rfl (pc0 := 34) (pc' := 38) rfl (hb hby d1_34) (by decide) (by decide) ?_
        show Steps p.tables e below (s₁.setTop (mkF m 38 #[.val (.long q1), .second, .val (.int p1), .val (.int p2), .val (.int p3), .val (.int nn), .unset] [(.int (1 : Int32))])) _
        refine XS.istore X0.here hx rfl (hb hby d1_38) rfl (l' := #[.val (.long q1), .second, .val (.int p1), .val (.int p2), .val (.int p3), .val (.int nn), .val (.int (1 : Int32))]) rfl ?_
        refine XS.iload X0.here hx rfl (hb hby d1_40) rfl ?_
        refine XS.ifNo X0.here hx rfl (hb hby d1_42) rfl ((if0 _ _).trans (feq (by decide : ¬ ((1 : Int32) = (0 : Int32)))).1) ?_
        refine XS.bipush X0.here hx rfl (hb hby d1_45) ?_
        refine XS.goto X0.here hx rfl (pc0 := 47) (pc' := 52) rfl (hb hby d1_47) (by decide) (by decide) ?_
        refine XS.iload X0.here hx rfl (hb hby d1_52) rfl ?_
        show Steps p.tables e below (s₁.setTop (mkF m 54 #[.val (.long q1), .second, .val (.int p1), .val (.int p2), .val (.int p3), .val (.int nn), .val (.int (1 : Int32))] [(.int nn), (.int (65 : Int32))])) _
        refine XS.bipush X0.here hx rfl (hb hby d1_54) ?_
        refine XS.isub X0.here hx rfl (hb hby d1_56) rfl ?_
        refine XS.iadd X0.here hx rfl (hb hby d1_57) rfl ?_
        refine XS.i2c X0.here hx rfl (hb hby d1_58) rfl ?_
        exact k
      obtain ⟨fs, hr, hrun, hended, hW, hsame⟩ := X0.leave (v := some (.int (nar .char (((65 : Int32) + (nn - (10 : Int32))).toUInt32.toUInt16.toUInt32.toInt32)))) (fun h => by rw [Bd.returns] at h; cases h)
      refine ⟨_, _, pre6 _ ?_, hrun, hended, _, _, rfl, ?_, ⟨_, rfl⟩, hW, hsame.mono (by decide) (by decide)⟩
      · exact retN X0 hx (t := .char) Bd.returns (by simp) (hb hby d1_59) hr
      · show Q_rmX Z q1 p1 p2 p3 h0 n0 _ s₁.heap _
        rw [e0]
        exact ⟨by unfold own_hx own_hc; rw [hn', if_neg h14]; exact congrArg (fun z => some (Value.int (nar .char z))) (if_pos (decide_eq_true h30)).symm, N0, rfl⟩
theorem ef_rmH (m : MethodId) (x0 : Int32) : entryFrame m #[(.int x0)] 1 = mkF m 0 #[.val (.int x0)] [] := by first | (simp [entryFrame, mkF, argsToLocals, Value.category]; done) | rfl
theorem pn_0 : plainName "com/example/nonce/nonce/id/UuidText" = true := by first | (simp [plainName, overriddenIn]; done) | decide +kernel
theorem d17_0 : decode prog_12_method_5_code 0 = .ok (.iload_n 0, 1) := by decide +kernel
theorem d17_1 : decode prog_12_method_5_code 1 = .ok (.bipush 48, 2) := by decide +kernel
theorem d17_3 : decode prog_12_method_5_code 3 = .ok (.if_icmp .lt 9, 3) := by decide +kernel
theorem d17_6 : decode prog_12_method_5_code 6 = .ok (.iload_n 0, 1) := by decide +kernel
theorem d17_7 : decode prog_12_method_5_code 7 = .ok (.bipush 57, 2) := by decide +kernel
theorem d17_9 : decode prog_12_method_5_code 9 = .ok (.if_icmp .le 27, 3) := by decide +kernel
theorem d17_36 : decode prog_12_method_5_code 36 = .ok (.iconst 1, 1) := by decide +kernel
theorem d17_37 : decode prog_12_method_5_code 37 = .ok (.goto 4, 3) := by decide +kernel
theorem d17_41 : decode prog_12_method_5_code 41 = .ok (.ireturn, 1) := by decide +kernel
theorem d17_12 : decode prog_12_method_5_code 12 = .ok (.iload_n 0, 1) := by decide +kernel
theorem d17_13 : decode prog_12_method_5_code 13 = .ok (.bipush 97, 2) := by decide +kernel
theorem d17_15 : decode prog_12_method_5_code 15 = .ok (.if_icmp .lt 9, 3) := by decide +kernel
theorem d17_18 : decode prog_12_method_5_code 18 = .ok (.iload_n 0, 1) := by decide +kernel
theorem d17_19 : decode prog_12_method_5_code 19 = .ok (.bipush 102, 2) := by decide +kernel
theorem d17_21 : decode prog_12_method_5_code 21 = .ok (.if_icmp .le 15, 3) := by decide +kernel
theorem d17_24 : decode prog_12_method_5_code 24 = .ok (.iload_n 0, 1) := by decide +kernel
theorem d17_25 : decode prog_12_method_5_code 25 = .ok (.bipush 65, 2) := by decide +kernel
theorem d17_27 : decode prog_12_method_5_code 27 = .ok (.if_icmp .lt 13, 3) := by decide +kernel
theorem d17_30 : decode prog_12_method_5_code 30 = .ok (.iload_n 0, 1) := by decide +kernel
theorem d17_31 : decode prog_12_method_5_code 31 = .ok (.bipush 70, 2) := by decide +kernel
theorem d17_33 : decode prog_12_method_5_code 33 = .ok (.if_icmp .gt 7, 3) := by decide +kernel
def Q_rmH (Z : State) (p1 : Int32) (h0 : Heap) (n0 : Nat) (v : Option Value) (h : Heap) (L : List Loc) : Prop := v = some (.int (1 : Int32)) ∧ Fr n0 L ∧ h = h0
set_option maxRecDepth 65536 in
set_option maxHeartbeats 40000000 in
theorem rmH (l : Launch) (Z : State) (a0 : Array Value) (hw : ∀ d ∈ tables_1, d.before a0 Z = true) (ws : List Jvm.Cond) (p1 : Int32) (h0 : Heap) (n0 : Nat) (Z0 : n0 ≤ h0.size) (hH : p1 ∈ own_H) :
    MetFree l (⟨"com/example/nonce/nonce/id/UuidText", "isHexDigit", "(C)Z"⟩ : MethodName) (head1 (Jvm.Cond.code (⟨"com/example/nonce/nonce/id/UuidText", "isHexDigit", "(C)Z"⟩ : MethodName) prog_12_method_5_code 1 (some .boolean) :: ws) ({ frames := 0, cells := 0, slots := 0, locals := 0 } : Room)) (fun a U => a = #[(.int p1)] ∧ Z.Warmed39 U.vm ∧ U.heap = h0) (fun _ _ _ _ _ => True) (fun _ U o U' => ∃ v L, o = .returned v ∧ Q_rmH Z p1 h0 n0 v U'.heap L ∧ FrameEnd U o U' L ({ frames := 0, cells := 0, slots := 0, locals := 0 } : Room).cells ({ frames := 0, cells := 0, slots := 0, locals := 0 } : Room).slots) := by
  refine MetFree.of_bodySF (plainFor_of_name pn_0) hisR ?_
  intro p e s m args below meth c s₁ Bd hml0 hP hK
  obtain ⟨rfl, hZ, hh⟩ := hP
  have hx := Bd.exec
  have hby := Bd.bytes
  have hml : c.maxLocals = 1 := hml0
  have hown : s.vm.findClass "com/example/nonce/nonce/id/UuidText" = some m.cls := (findClass_of_methodNamed Bd.named :)
  have hnm := (name_of_methodNamed Bd.named Bd.method).1
  have X0 : Stand p l e ({ frames := 0, cells := 0, slots := 0, locals := 0 } : Room) s m #[(.int p1)] below meth c s₁ [] 0 0 := Stand.of_body Bd
  have e0 : s₁.heap = h0 := by rw [← hh, Bd.state]; rfl
  have N0 := Fr.nil n0
  have pre0 : ∀ t, Steps p.tables e below (s₁.setTop (mkF m 0 #[.val (.int p1)] [])) t → Steps p.tables e below (s₁.setTop (entryFrame m #[(.int p1)] 1)) t := fun t k => castTop (ef_rmH m p1) k
  rcases own_H4 p1 hH with ⟨d1, d2⟩ | ⟨d1, d2, d3, d4⟩ | ⟨d1, d2, d3, d4, d5⟩
  · skip
    have pre1 : ∀ t, Steps p.tables e below (s₁.setTop (mkF m 41 #[.val (.int p1)] [(.int (1 : Int32))])) t → Steps p.tables e below (s₁.setTop (entryFrame m #[(.int p1)] 1)) t := by
      intro t k
      refine pre0 t ?_
      refine XS.iloadN X0.here hx rfl (hb hby d17_0) rfl ?_
      refine XS.bipush X0.here hx rfl (hb hby d17_1) ?_
      refine XS.icmpNo X0.here hx rfl (hb hby d17_3) rfl (flt d1).1 ?_
      refine XS.iloadN X0.here hx rfl (hb hby d17_6) rfl ?_
      refine XS.bipush X0.here hx rfl (hb hby d17_7) ?_
      show Steps p.tables e below (s₁.setTop (mkF m 9 #[.val (.int p1)] [(.int (57 : Int32)), (.int p1)])) _
      refine XS.icmpYes X0.here hx rfl (pc0 := 9) (pc' := 36) rfl (hb hby d17_9) rfl (flt d2).2.2.2 (by decide) (by decide) ?_
      refine XS.iconst X0.here hx rfl (hb hby d17_36) ?_
      refine XS.goto X0.here hx rfl (pc0 := 37) (pc' := 41) rfl (hb hby d17_37) (by decide) (by decide) ?_
      exact k
    obtain ⟨fs, hr, hrun, hended, hW, hsame⟩ := X0.leave (v := some (.int (1 : Int32))) (fun h => by rw [Bd.returns] at h; cases h)
    refine ⟨_, _, pre1 _ ?_, hrun, hended, _, _, rfl, ?_, ⟨_, rfl⟩, hW, hsame.mono (by decide) (by decide)⟩
    · exact retN X0 hx (t := .boolean) Bd.returns (by simp) (hb hby d17_41) hr
    · show Q_rmH Z p1 h0 n0 _ s₁.heap _
      rw [e0]
      exact ⟨rfl, N0, rfl⟩
  · skip
    have pre2 : ∀ t, Steps p.tables e below (s₁.setTop (mkF m 41 #[.val (.int p1)] [(.int (1 : Int32))])) t → Steps p.tables e below (s₁.setTop (entryFrame m #[(.int p1)] 1)) t := by
      intro t k
      refine pre0 t ?_
      refine XS.iloadN X0.here hx rfl (hb hby d17_0) rfl ?_
      refine XS.bipush X0.here hx rfl (hb hby d17_1) ?_
      show Steps p.tables e below (s₁.setTop (mkF m 3 #[.val (.int p1)] [(.int (48 : Int32)), (.int p1)])) _
      refine XS.icmpNo X0.here hx rfl (hb hby d17_3) rfl (flt d1).1 ?_
      refine XS.iloadN X0.here hx rfl (hb hby d17_6) rfl ?_
      refine XS.bipush X0.here hx rfl (hb hby d17_7) ?_
      refine XS.icmpNo X0.here hx rfl (hb hby d17_9) rfl (tlt d2).2.2.2 ?_
      refine XS.iloadN X0.here hx rfl (hb hby d17_12) rfl ?_
      refine XS.bipush X0.here hx rfl (hb hby d17_13) ?_
      show Steps p.tables e below (s₁.setTop (mkF m 15 #[.val (.int p1)] [(.int (97 : Int32)), (.int p1)])) _
      refine XS.icmpNo X0.here hx rfl (hb hby d17_15) rfl (flt d3).1 ?_
      refine XS.iloadN X0.here hx rfl (hb hby d17_18) rfl ?_
      refine XS.bipush X0.here hx rfl (hb hby d17_19) ?_
      refine XS.icmpYes X0.here hx rfl (pc0 := 21) (pc' := 36) rfl (hb hby d17_21) rfl (flt d4).2.2.2 (by decide) (by decide) ?_
      refine XS.iconst X0.here hx rfl (hb hby d17_36) ?_
      refine XS.goto X0.here hx rfl (pc0 := 37) (pc' := 41) rfl (hb hby d17_37) (by decide) (by decide) ?_
      show Steps p.tables e below (s₁.setTop (mkF m 41 #[.val (.int p1)] [(.int (1 : Int32))])) _
      exact k
    obtain ⟨fs, hr, hrun, hended, hW, hsame⟩ := X0.leave (v := some (.int (1 : Int32))) (fun h => by rw [Bd.returns] at h; cases h)
    refine ⟨_, _, pre2 _ ?_, hrun, hended, _, _, rfl, ?_, ⟨_, rfl⟩, hW, hsame.mono (by decide) (by decide)⟩
    · exact retN X0 hx (t := .boolean) Bd.returns (by simp) (hb hby d17_41) hr
    · show Q_rmH Z p1 h0 n0 _ s₁.heap _
      rw [e0]
      exact ⟨rfl, N0, rfl⟩
  · skip
    have pre3 : ∀ t, Steps p.tables e below (s₁.setTop (mkF m 41 #[.val (.int p1)] [(.int (1 : Int32))])) t → Steps p.tables e below (s₁.setTop (entryFrame m #[(.int p1)] 1)) t := by
      intro t k
      refine pre0 t ?_
      refine XS.iloadN X0.here hx rfl (hb hby d17_0) rfl ?_
      refine XS.bipush X0.here hx rfl (hb hby d17_1) ?_
      refine XS.icmpNo X0.here hx rfl (hb hby d17_3) rfl (flt d1).1 ?_
      refine XS.iloadN X0.here hx rfl (hb hby d17_6) rfl ?_
      refine XS.bipush X0.here hx rfl (hb hby d17_7) ?_
      show Steps p.tables e below (s₁.setTop (mkF m 9 #[.val (.int p1)] [(.int (57 : Int32)), (.int p1)])) _
      refine XS.icmpNo X0.here hx rfl (hb hby d17_9) rfl (tlt d2).2.2.2 ?_
      refine XS.iloadN X0.here hx rfl (hb hby d17_12) rfl ?_
      refine XS.bipush X0.here hx rfl (hb hby d17_13) ?_
      refine XS.icmpYes X0.here hx rfl (pc0 := 15) (pc' := 24) rfl (hb hby d17_15) rfl (tlt d3).1 (by decide) (by decide) ?_
      refine XS.iloadN X0.here hx rfl (hb hby d17_24) rfl ?_
      refine XS.bipush X0.here hx rfl (hb hby d17_25) ?_
      show Steps p.tables e below (s₁.setTop (mkF m 27 #[.val (.int p1)] [(.int (65 : Int32)), (.int p1)])) _
      refine XS.icmpNo X0.here hx rfl (hb hby d17_27) rfl (flt d4).1 ?_
      refine XS.iloadN X0.here hx rfl (hb hby d17_30) rfl ?_
      refine XS.bipush X0.here hx rfl (hb hby d17_31) ?_
      refine XS.icmpNo X0.here hx rfl (hb hby d17_33) rfl (flt d5).2.2.1 ?_
      refine XS.iconst X0.here hx rfl (hb hby d17_36) ?_
      refine XS.goto X0.here hx rfl (pc0 := 37) (pc' := 41) rfl (hb hby d17_37) (by decide) (by decide) ?_
      show Steps p.tables e below (s₁.setTop (mkF m 41 #[.val (.int p1)] [(.int (1 : Int32))])) _
      exact k
    obtain ⟨fs, hr, hrun, hended, hW, hsame⟩ := X0.leave (v := some (.int (1 : Int32))) (fun h => by rw [Bd.returns] at h; cases h)
    refine ⟨_, _, pre3 _ ?_, hrun, hended, _, _, rfl, ?_, ⟨_, rfl⟩, hW, hsame.mono (by decide) (by decide)⟩
    · exact retN X0 hx (t := .boolean) Bd.returns (by simp) (hb hby d17_41) hr
    · show Q_rmH Z p1 h0 n0 _ s₁.heap _
      rw [e0]
      exact ⟨rfl, N0, rfl⟩
theorem ef_rmN (m : MethodId) (x0 : Addr) (x1 : Addr) : entryFrame m #[(.ref x0), (.ref x1)] 2 = mkF m 0 #[.val (.ref x0), .val (.ref x1)] [] := by first | (simp [entryFrame, mkF, argsToLocals, Value.category]; done) | rfl
theorem pn_6 : plainName "java/util/Objects" = true := by first | (simp [plainName, overriddenIn]; done) | decide +kernel
theorem d9_0 : decode jdk_31_method_11_code 0 = .ok (.aload_n 0, 1) := by decide +kernel
theorem d9_1 : decode jdk_31_method_11_code 1 = .ok (.ifnonnull 12, 3) := by decide +kernel
theorem d9_13 : decode jdk_31_method_11_code 13 = .ok (.aload_n 0, 1) := by decide +kernel
theorem d9_14 : decode jdk_31_method_11_code 14 = .ok (.areturn, 1) := by decide +kernel
def Q_rmN (Z : State) (a1 : Addr) (a2 : Addr) (h0 : Heap) (n0 : Nat) (v : Option Value) (h : Heap) (L : List Loc) : Prop := v = some (.ref a1) ∧ Fr n0 L ∧ h = h0
set_option maxRecDepth 65536 in
set_option maxHeartbeats 40000000 in
theorem rmN (l : Launch) (Z : State) (a0 : Array Value) (hw : ∀ d ∈ tables_1, d.before a0 Z = true) (ws : List Jvm.Cond) (a1 : Addr) (a2 : Addr) (h0 : Heap) (n0 : Nat) (Z0 : n0 ≤ h0.size) :
    MetFree l (⟨"java/util/Objects", "requireNonNull", "(Ljava/lang/Object;Ljava/lang/String;)Ljava/lang/Object;"⟩ : MethodName) (head1 (Jvm.Cond.code (⟨"java/util/Objects", "requireNonNull", "(Ljava/lang/Object;Ljava/lang/String;)Ljava/lang/Object;"⟩ : MethodName) jdk_31_method_11_code 2 (some (.object "java/lang/Object")) :: ws) ({ frames := 0, cells := 0, slots := 0, locals := 0 } : Room)) (fun a U => a = #[(.ref a1), (.ref a2)] ∧ Z.Warmed39 U.vm ∧ U.heap = h0) (fun _ _ _ _ _ => True) (fun _ U o U' => ∃ v L, o = .returned v ∧ Q_rmN Z a1 a2 h0 n0 v U'.heap L ∧ FrameEnd U o U' L ({ frames := 0, cells := 0, slots := 0, locals := 0 } : Room).cells ({ frames := 0, cells := 0, slots := 0, locals := 0 } : Room).slots) := by
  refine MetFree.of_bodySF (plainFor_of_name pn_6) hisR ?_
  intro p e s m args below meth c s₁ Bd hml0 hP hK
  obtain ⟨rfl, hZ, hh⟩ := hP
  have hx := Bd.exec
  have hby := Bd.bytes
  have hml : c.maxLocals = 2 := hml0
  have hown : s.vm.findClass "java/util/Objects" = some m.cls := (findClass_of_methodNamed Bd.named :)
  have hnm := (name_of_methodNamed Bd.named Bd.method).1
  have X0 : Stand p l e ({ frames := 0, cells := 0, slots := 0, locals := 0 } : Room) s m #[(.ref a1), (.ref a2)] below meth c s₁ [] 0 0 := Stand.of_body Bd
  have e0 : s₁.heap = h0 := by rw [← hh, Bd.state]; rfl
  have N0 := Fr.nil n0
  have pre0 : ∀ t, Steps p.tables e below (s₁.setTop (mkF m 0 #[.val (.ref a1), .val (.ref a2)] [])) t → Steps p.tables e below (s₁.setTop (entryFrame m #[(.ref a1), (.ref a2)] 2)) t := fun t k => castTop (ef_rmN m a1 a2) k
  have pre1 : ∀ t, Steps p.tables e below (s₁.setTop (mkF m 14 #[.val (.ref a1), .val (.ref a2)] [(.ref a1)])) t → Steps p.tables e below (s₁.setTop (entryFrame m #[(.ref a1), (.ref a2)] 2)) t := by
    intro t k
    refine pre0 t ?_
    refine XS.aloadN X0.here hx rfl (hb hby d9_0) rfl (rfl) ?_
    refine XS.ifnonnullYes X0.here hx rfl (pc0 := 1) (pc' := 13) rfl (hb hby d9_1) rfl (by decide) (by decide) ?_
    refine XS.aloadN X0.here hx rfl (hb hby d9_13) rfl (rfl) ?_
    exact k
  obtain ⟨fs, hr, hrun, hended, hW, hsame⟩ := X0.leave (v := some (.ref a1)) (fun h => by rw [Bd.returns] at h; cases h)
  refine ⟨_, _, pre1 _ ?_, hrun, hended, _, _, rfl, ?_, ⟨_, rfl⟩, hW, hsame.mono (by decide) (by decide)⟩
  · exact retOut X0 hx Bd.returns (by first | rfl | simp [narrow]) (Or.inr (Or.inr (Or.inr (Or.inr ⟨rfl, rfl, rfl⟩)))) (hb hby d9_14) hr
  · show Q_rmN Z a1 a2 h0 n0 _ s₁.heap _
    rw [e0]
    exact ⟨rfl, N0, rfl⟩
theorem ef_rmP4 (m : MethodId) (x0 : Addr) (x1 : Int32) : entryFrame m #[(.ref x0), (.int x1)] 7 = mkF m 0 #[.val (.ref x0), .val (.int x1), .unset, .unset, .unset, .unset, .unset] [] := by first | (simp [entryFrame, mkF, argsToLocals, Value.category]; done) | rfl
theorem pn_7 : plainName "java/util/UUID" = true := by first | (simp [plainName, overriddenIn]; done) | decide +kernel
theorem d19_0 : decode jdk_2758_method_5_code 0 = .ok (.getstatic 62, 3) := by decide +kernel
theorem d19_3 : decode jdk_2758_method_5_code 3 = .ok (.astore_n 2, 1) := by decide +kernel
theorem d19_4 : decode jdk_2758_method_5_code 4 = .ok (.aload_n 0, 1) := by decide +kernel
theorem d19_5 : decode jdk_2758_method_5_code 5 = .ok (.iload_n 1, 1) := by decide +kernel
theorem d19_6 : decode jdk_2758_method_5_code 6 = .ok (.invokevirtual 66, 3) := by decide +kernel
theorem pd_0 : parseMethodDescriptor "(I)C" = some ⟨[.int], some .char⟩ := by decide +kernel
theorem d19_9 : decode jdk_2758_method_5_code 9 = .ok (.istore_n 3, 1) := by decide +kernel
theorem d19_10 : decode jdk_2758_method_5_code 10 = .ok (.aload_n 0, 1) := by decide +kernel
theorem d19_11 : decode jdk_2758_method_5_code 11 = .ok (.iload_n 1, 1) := by decide +kernel
theorem d19_12 : decode jdk_2758_method_5_code 12 = .ok (.iconst 1, 1) := by decide +kernel
theorem d19_13 : decode jdk_2758_method_5_code 13 = .ok (.iadd, 1) := by decide +kernel
theorem d19_14 : decode jdk_2758_method_5_code 14 = .ok (.invokevirtual 66, 3) := by decide +kernel
theorem d19_17 : decode jdk_2758_method_5_code 17 = .ok (.istore 4, 2) := by decide +kernel
theorem d19_19 : decode jdk_2758_method_5_code 19 = .ok (.aload_n 0, 1) := by decide +kernel
theorem d19_20 : decode jdk_2758_method_5_code 20 = .ok (.iload_n 1, 1) := by decide +kernel
theorem d19_21 : decode jdk_2758_method_5_code 21 = .ok (.iconst 2, 1) := by decide +kernel
theorem d19_22 : decode jdk_2758_method_5_code 22 = .ok (.iadd, 1) := by decide +kernel
theorem d19_23 : decode jdk_2758_method_5_code 23 = .ok (.invokevirtual 66, 3) := by decide +kernel
theorem d19_26 : decode jdk_2758_method_5_code 26 = .ok (.istore 5, 2) := by decide +kernel
theorem d19_28 : decode jdk_2758_method_5_code 28 = .ok (.aload_n 0, 1) := by decide +kernel
theorem d19_29 : decode jdk_2758_method_5_code 29 = .ok (.iload_n 1, 1) := by decide +kernel
theorem d19_30 : decode jdk_2758_method_5_code 30 = .ok (.iconst 3, 1) := by decide +kernel
theorem d19_31 : decode jdk_2758_method_5_code 31 = .ok (.iadd, 1) := by decide +kernel
theorem d19_32 : decode jdk_2758_method_5_code 32 = .ok (.invokevirtual 66, 3) := by decide +kernel
theorem d19_35 : decode jdk_2758_method_5_code 35 = .ok (.istore 6, 2) := by decide +kernel
theorem d19_37 : decode jdk_2758_method_5_code 37 = .ok (.iload_n 3, 1) := by decide +kernel
theorem d19_38 : decode jdk_2758_method_5_code 38 = .ok (.iload 4, 2) := by decide +kernel
theorem d19_40 : decode jdk_2758_method_5_code 40 = .ok (.ior, 1) := by decide +kernel
theorem d19_41 : decode jdk_2758_method_5_code 41 = .ok (.iload 5, 2) := by decide +kernel
theorem d19_43 : decode jdk_2758_method_5_code 43 = .ok (.ior, 1) := by decide +kernel
theorem d19_44 : decode jdk_2758_method_5_code 44 = .ok (.iload 6, 2) := by decide +kernel
theorem d19_46 : decode jdk_2758_method_5_code 46 = .ok (.ior, 1) := by decide +kernel
theorem d19_47 : decode jdk_2758_method_5_code 47 = .ok (.sipush 255, 3) := by decide +kernel
theorem d19_50 : decode jdk_2758_method_5_code 50 = .ok (.if_icmp .le 9, 3) := by decide +kernel
theorem d19_59 : decode jdk_2758_method_5_code 59 = .ok (.aload_n 2, 1) := by decide +kernel
theorem d19_60 : decode jdk_2758_method_5_code 60 = .ok (.iload_n 3, 1) := by decide +kernel
theorem d19_61 : decode jdk_2758_method_5_code 61 = .ok (.baload, 1) := by decide +kernel
theorem d19_62 : decode jdk_2758_method_5_code 62 = .ok (.bipush 12, 2) := by decide +kernel
theorem d19_64 : decode jdk_2758_method_5_code 64 = .ok (.ishl, 1) := by decide +kernel
theorem d19_65 : decode jdk_2758_method_5_code 65 = .ok (.aload_n 2, 1) := by decide +kernel
theorem d19_66 : decode jdk_2758_method_5_code 66 = .ok (.iload 4, 2) := by decide +kernel
theorem d19_68 : decode jdk_2758_method_5_code 68 = .ok (.baload, 1) := by decide +kernel
theorem d19_69 : decode jdk_2758_method_5_code 69 = .ok (.bipush 8, 2) := by decide +kernel
theorem d19_71 : decode jdk_2758_method_5_code 71 = .ok (.ishl, 1) := by decide +kernel
theorem d19_72 : decode jdk_2758_method_5_code 72 = .ok (.ior, 1) := by decide +kernel
theorem d19_73 : decode jdk_2758_method_5_code 73 = .ok (.aload_n 2, 1) := by decide +kernel
theorem d19_74 : decode jdk_2758_method_5_code 74 = .ok (.iload 5, 2) := by decide +kernel
theorem d19_76 : decode jdk_2758_method_5_code 76 = .ok (.baload, 1) := by decide +kernel
theorem d19_77 : decode jdk_2758_method_5_code 77 = .ok (.iconst 4, 1) := by decide +kernel
theorem d19_78 : decode jdk_2758_method_5_code 78 = .ok (.ishl, 1) := by decide +kernel
theorem d19_79 : decode jdk_2758_method_5_code 79 = .ok (.ior, 1) := by decide +kernel
theorem d19_80 : decode jdk_2758_method_5_code 80 = .ok (.aload_n 2, 1) := by decide +kernel
theorem d19_81 : decode jdk_2758_method_5_code 81 = .ok (.iload 6, 2) := by decide +kernel
theorem d19_83 : decode jdk_2758_method_5_code 83 = .ok (.baload, 1) := by decide +kernel
theorem d19_84 : decode jdk_2758_method_5_code 84 = .ok (.ior, 1) := by decide +kernel
theorem d19_85 : decode jdk_2758_method_5_code 85 = .ok (.i2l, 1) := by decide +kernel
theorem d19_86 : decode jdk_2758_method_5_code 86 = .ok (.lreturn, 1) := by decide +kernel
def Q_rmP4 (Z : State) (a1 : Addr) (p1 : Int32) (ay : Addr) (kb : ClassId) (cs : List Int32) (G1 : Int32) (fm : Value) (aN : Addr) (cN : Cell) (ix : Nat) (h0 : Heap) (n0 : Nat) (v : Option Value) (h : Heap) (L : List Loc) : Prop := v = some (.long (own_q4 cs ix)) ∧ Fr n0 L ∧ h = h0
set_option maxRecDepth 65536 in
set_option maxHeartbeats 40000000 in
theorem rmP4 (l : Launch) (Z : State) (a0 : Array Value) (hw : ∀ d ∈ tables_1, d.before a0 Z = true) (ws : List Jvm.Cond) (a1 : Addr) (p1 : Int32) (ay : Addr) (kb : ClassId) (cs : List Int32) (G1 : Int32) (fm : Value) (aN : Addr) (cN : Cell) (ix : Nat) (h0 : Heap) (n0 : Nat) (Z0 : n0 ≤ h0.size) (SS : own_S Z h0 n0 a1 ay kb cs G1 fm aN cN) (hj : p1 = Int32.ofNat ix) (hi : ix + 3 < 36) (Ha : cs.getD ix 0 ∈ own_H) (Hb : cs.getD (ix + 1) 0 ∈ own_H) (Hc : cs.getD (ix + 2) 0 ∈ own_H) (Hd : cs.getD (ix + 3) 0 ∈ own_H) :
    MetFree l (⟨"java/util/UUID", "parse4Nibbles", "(Ljava/lang/String;I)J"⟩ : MethodName) (head1 (Jvm.Cond.code (⟨"java/util/UUID", "parse4Nibbles", "(Ljava/lang/String;I)J"⟩ : MethodName) jdk_2758_method_5_code 7 (some .long) :: ws) ({ frames := 4, cells := 0, slots := 0, locals := 53 } : Room)) (fun a U => a = #[(.ref a1), (.int p1)] ∧ Z.Warmed39 U.vm ∧ U.heap = h0) (fun _ _ _ _ _ => True) (fun _ U o U' => ∃ v L, o = .returned v ∧ Q_rmP4 Z a1 p1 ay kb cs G1 fm aN cN ix h0 n0 v U'.heap L ∧ FrameEnd U o U' L ({ frames := 4, cells := 0, slots := 0, locals := 53 } : Room).cells ({ frames := 4, cells := 0, slots := 0, locals := 53 } : Room).slots) := by
  refine MetFree.of_bodySF (plainFor_of_name pn_7) hisR ?_
  intro p e s m args below meth c s₁ Bd hml0 hP hK
  obtain ⟨rfl, hZ, hh⟩ := hP
  have hx := Bd.exec
  have hby := Bd.bytes
  have hml : c.maxLocals = 7 := hml0
  have hown : s.vm.findClass "java/util/UUID" = some m.cls := (findClass_of_methodNamed Bd.named :)
  have hnm := (name_of_methodNamed Bd.named Bd.method).1
  have X0 : Stand p l e ({ frames := 4, cells := 0, slots := 0, locals := 53 } : Room) s m #[(.ref a1), (.int p1)] below meth c s₁ [] 0 0 := Stand.of_body Bd
  have e0 : s₁.heap = h0 := by rw [← hh, Bd.state]; rfl
  have N0 := Fr.nil n0
  have pre0 : ∀ t, Steps p.tables e below (s₁.setTop (mkF m 0 #[.val (.ref a1), .val (.int p1), .unset, .unset, .unset, .unset, .unset] [])) t → Steps p.tables e below (s₁.setTop (entryFrame m #[(.ref a1), (.int p1)] 7)) t := fun t k => castTop (ef_rmP4 m a1 p1) k
  obtain ⟨hE, hV, hC, hA, hb255, hlen, O0, SC, P5, SF, rF, SNib, AN, SzN, nib, dx8, dx13, dx18, dx23, hh⟩ := id SS
  have AN' := AN.ext O0.2
  obtain ⟨T1, X1, e1, st1⟩ := getS2 X0 hx hZ hown (host := "") (Or.inl (hw _ (List.mem_of_getElem? (i := 90) rfl))) Via.refl e0 (SNib.ext (O0).2) (g := (mkF m 0 #[.val (.ref a1), .val (.int p1), .unset, .unset, .unset, .unset, .unset] [])) rfl (hb hby d19_0)
  obtain ⟨cq2, kq2, q2a, q2b, q2c⟩ := isOf hZ e1 hE
  obtain ⟨_, _, ⟨T2, L2, k2, n2⟩, -, X2, ⟨Lc2, hQ2, l2, y2, z2⟩, st2⟩ := X1.virtualBack hx (y := (⟨"java/lang/String", "charAt", "(I)C"⟩ : MethodName)) (z := (⟨"java/lang/String", "charAt", "(I)C"⟩ : MethodName)) hown (mvT hZ (hw _ (List.mem_of_getElem? (i := 86) rfl))) (mvT hZ (hw _ (List.mem_of_getElem? (i := 57) rfl))) (notFace_of_selects (args := #[]) (mvT hZ (hw _ (List.mem_of_getElem? (i := 59) rfl)))) (mvT hZ (hw _ (List.mem_of_getElem? (i := 59) rfl))) (mvT hZ (hw _ (List.mem_of_getElem? (i := 58) rfl))) (by decide) (own_chB (W := 0) (i := ix) hZ hw SS (by omega) hj (by decide) (by decide)) q2a q2c (g := (mkF m 6 #[.val (.ref a1), .val (.int p1), .val (.ref aN), .unset, .unset, .unset, .unset] [(.int p1), (.ref a1)])) rfl (by rw [hml]; rfl) (Steps.refl _) (argsL := [(.int p1)]) (rest := []) (lenOf pd_0 rfl) rfl (by show 2 * 0 + _ ≤ _; exact Nat.le_of_eq rfl) (hb hby d19_6) (fun _ _ => ⟨rfl, e1, (by decide : 0 + 0 ≤ _), (by decide : 0 + 0 ≤ _)⟩)
  dsimp only [Pt.U, Pt.locs, Pt.cells, Pt.slots] at X2 l2 y2 z2 st2 hQ2
  subst l2 y2 z2
  obtain ⟨rfl, rfl, hq2⟩ := hQ2
  have N2q : Fr n0 ([] : List Loc) := Fr.nil n0
  have N2 := Fr.app N0 N2q
  obtain ⟨cq3, kq3, q3a, q3b, q3c⟩ := isOf hZ hq2 hE
  obtain ⟨_, _, ⟨T3, L3, k3, n3⟩, -, X3, ⟨Lc3, hQ3, l3, y3, z3⟩, st3⟩ := X2.virtualBack hx (y := (⟨"java/lang/String", "charAt", "(I)C"⟩ : MethodName)) (z := (⟨"java/lang/String", "charAt", "(I)C"⟩ : MethodName)) hown (mvT hZ (hw _ (List.mem_of_getElem? (i := 86) rfl))) (mvT hZ (hw _ (List.mem_of_getElem? (i := 57) rfl))) (notFace_of_selects (args := #[]) (mvT hZ (hw _ (List.mem_of_getElem? (i := 59) rfl)))) (mvT hZ (hw _ (List.mem_of_getElem? (i := 59) rfl))) (mvT hZ (hw _ (List.mem_of_getElem? (i := 58) rfl))) (by decide) (own_chB (W := 0) (i := (ix + 1)) hZ hw SS (by omega) (own_s1 hj) (by decide) (by decide)) q3a q3c (g := (mkF m 14 #[.val (.ref a1), .val (.int p1), .val (.ref aN), .val (.int (cs.getD ix 0)), .unset, .unset, .unset] [(.int (p1 + (1 : Int32))), (.ref a1)])) rfl (by rw [hml]; rfl) (Steps.refl _) (argsL := [(.int (p1 + (1 : Int32)))]) (rest := []) (lenOf pd_0 rfl) rfl (by show 2 * 0 + _ ≤ _; exact Nat.le_of_eq rfl) (hb hby d19_14) (fun _ _ => ⟨rfl, hq2, (by decide : 0 + 0 ≤ _), (by decide : 0 + 0 ≤ _)⟩)
  dsimp only [Pt.U, Pt.locs, Pt.cells, Pt.slots] at X3 l3 y3 z3 st3 hQ3
  subst l3 y3 z3
  obtain ⟨rfl, rfl, hq3⟩ := hQ3
  have N3q : Fr n0 ([] : List Loc) := Fr.nil n0
  have N3 := Fr.app N2 N3q
  obtain ⟨cq4, kq4, q4a, q4b, q4c⟩ := isOf hZ hq3 hE
  obtain ⟨_, _, ⟨T4, L4, k4, n4⟩, -, X4, ⟨Lc4, hQ4, l4, y4, z4⟩, st4⟩ := X3.virtualBack hx (y := (⟨"java/lang/String", "charAt", "(I)C"⟩ : MethodName)) (z := (⟨"java/lang/String", "charAt", "(I)C"⟩ : MethodName)) hown (mvT hZ (hw _ (List.mem_of_getElem? (i := 86) rfl))) (mvT hZ (hw _ (List.mem_of_getElem? (i := 57) rfl))) (notFace_of_selects (args := #[]) (mvT hZ (hw _ (List.mem_of_getElem? (i := 59) rfl)))) (mvT hZ (hw _ (List.mem_of_getElem? (i := 59) rfl))) (mvT hZ (hw _ (List.mem_of_getElem? (i := 58) rfl))) (by decide) (own_chB (W := 0) (i := (ix + 2)) hZ hw SS (by omega) (own_s2 hj) (by decide) (by decide)) q4a q4c (g := (mkF m 23 #[.val (.ref a1), .val (.int p1), .val (.ref aN), .val (.int (cs.getD ix 0)), .val (.int (cs.getD (ix + 1) 0)), .unset, .unset] [(.int (p1 + (2 : Int32))), (.ref a1)])) rfl (by rw [hml]; rfl) (Steps.refl _) (argsL := [(.int (p1 + (2 : Int32)))]) (rest := []) (lenOf pd_0 rfl) rfl (by show 2 * 0 + _ ≤ _; exact Nat.le_of_eq rfl) (hb hby d19_23) (fun _ _ => ⟨rfl, hq3, (by decide : 0 + 0 ≤ _), (by decide : 0 + 0 ≤ _)⟩)
  dsimp only [Pt.U, Pt.locs, Pt.cells, Pt.slots] at X4 l4 y4 z4 st4 hQ4
  subst l4 y4 z4
  obtain ⟨rfl, rfl, hq4⟩ := hQ4
  have N4q : Fr n0 ([] : List Loc) := Fr.nil n0
  have N4 := Fr.app N3 N4q
  obtain ⟨cq5, kq5, q5a, q5b, q5c⟩ := isOf hZ hq4 hE
  obtain ⟨_, _, ⟨T5, L5, k5, n5⟩, -, X5, ⟨Lc5, hQ5, l5, y5, z5⟩, st5⟩ := X4.virtualBack hx (y := (⟨"java/lang/String", "charAt", "(I)C"⟩ : MethodName)) (z := (⟨"java/lang/String", "charAt", "(I)C"⟩ : MethodName)) hown (mvT hZ (hw _ (List.mem_of_getElem? (i := 86) rfl))) (mvT hZ (hw _ (List.mem_of_getElem? (i := 57) rfl))) (notFace_of_selects (args := #[]) (mvT hZ (hw _ (List.mem_of_getElem? (i := 59) rfl)))) (mvT hZ (hw _ (List.mem_of_getElem? (i := 59) rfl))) (mvT hZ (hw _ (List.mem_of_getElem? (i := 58) rfl))) (by decide) (own_chB (W := 0) (i := (ix + 3)) hZ hw SS (by omega) (own_s3 hj) (by decide) (by decide)) q5a q5c (g := (mkF m 32 #[.val (.ref a1), .val (.int p1), .val (.ref aN), .val (.int (cs.getD ix 0)), .val (.int (cs.getD (ix + 1) 0)), .val (.int (cs.getD (ix + 2) 0)), .unset] [(.int (p1 + (3 : Int32))), (.ref a1)])) rfl (by rw [hml]; rfl) (Steps.refl _) (argsL := [(.int (p1 + (3 : Int32)))]) (rest := []) (lenOf pd_0 rfl) rfl (by show 2 * 0 + _ ≤ _; exact Nat.le_of_eq rfl) (hb hby d19_32) (fun _ _ => ⟨rfl, hq4, (by decide : 0 + 0 ≤ _), (by decide : 0 + 0 ≤ _)⟩)
  dsimp only [Pt.U, Pt.locs, Pt.cells, Pt.slots] at X5 l5 y5 z5 st5 hQ5
  subst l5 y5 z5
  obtain ⟨rfl, rfl, hq5⟩ := hQ5
  have N5q : Fr n0 ([] : List Loc) := Fr.nil n0
  have N5 := Fr.app N4 N5q
  have pre6 : ∀ t, Steps p.tables e below (T5.setTop (mkF m 86 #[.val (.ref a1), .val (.int p1), .val (.ref aN), .val (.int (cs.getD ix 0)), .val (.int (cs.getD (ix + 1) 0)), .val (.int (cs.getD (ix + 2) 0)), .val (.int (cs.getD (ix + 3) 0))] [(.long ((((((own_val (cs.getD ix 0)) <<< ((12 : Int32) &&& 31)) ||| ((own_val (cs.getD (ix + 1) 0)) <<< ((8 : Int32) &&& 31))) ||| ((own_val (cs.getD (ix + 2) 0)) <<< ((4 : Int32) &&& 31))) ||| (own_val (cs.getD (ix + 3) 0))).toInt64))])) t → Steps p.tables e below (s₁.setTop (entryFrame m #[(.ref a1), (.int p1)] 7)) t := by
    intro t k
    refine pre0 t ?_
    refine st1 _ ?_
    refine XS.astoreN X1.here hx rfl (hb hby d19_3) rfl (rfl) (l' := #[.val (.ref a1), .val (.int p1), .val (.ref aN), .unset, .unset, .unset, .unset]) rfl ?_
    refine XS.aloadN X1.here hx rfl (hb hby d19_4) rfl (rfl) ?_
    refine XS.iloadN X1.here hx rfl (hb hby d19_5) rfl ?_
    refine st2.trans ?_
    show Steps p.tables e below (T2.setTop (mkF m 9 #[.val (.ref a1), .val (.int p1), .val (.ref aN), .unset, .unset, .unset, .unset] [(.int (cs.getD ix 0))])) _
    refine XS.istoreN X2.here hx rfl (hb hby d19_9) rfl (l' := #[.val (.ref a1), .val (.int p1), .val (.ref aN), .val (.int (cs.getD ix 0)), .unset, .unset, .unset]) rfl ?_
    refine XS.aloadN X2.here hx rfl (hb hby d19_10) rfl (rfl) ?_
    refine XS.iloadN X2.here hx rfl (hb hby d19_11) rfl ?_
    refine XS.iconst X2.here hx rfl (hb hby d19_12) ?_
    refine XS.iadd X2.here hx rfl (hb hby d19_13) rfl ?_
    refine st3.trans ?_
    show Steps p.tables e below (T3.setTop (mkF m 17 #[.val (.ref a1), .val (.int p1), .val (.ref aN), .val (.int (cs.getD ix 0)), .unset, .unset, .unset] [(.int (cs.getD (ix + 1) 0))])) _
    refine XS.istore X3.here hx rfl (hb hby d19_17) rfl (l' := #[.val (.ref a1), .val (.int p1), .val (.ref aN), .val (.int (cs.getD ix 0)), .val (.int (cs.getD (ix + 1) 0)), .unset, .unset]) rfl ?_
    refine XS.aloadN X3.here hx rfl (hb hby d19_19) rfl (rfl) ?_
    refine XS.iloadN X3.here hx rfl (hb hby d19_20) rfl ?_
    refine XS.iconst X3.here hx rfl (hb hby d19_21) ?_
    refine XS.iadd X3.here hx rfl (hb hby d19_22) rfl ?_
    refine st4.trans ?_
    show Steps p.tables e below (T4.setTop (mkF m 26 #[.val (.ref a1), .val (.int p1), .val (.ref aN), .val (.int (cs.getD ix 0)), .val (.int (cs.getD (ix + 1) 0)), .unset, .unset] [(.int (cs.getD (ix + 2) 0))])) _
    refine XS.istore X4.here hx rfl (hb hby d19_26) rfl (l' := #[.val (.ref a1), .val (.int p1), .val (.ref aN), .val (.int (cs.getD ix 0)), .val (.int (cs.getD (ix + 1) 0)), .val (.int (cs.getD (ix + 2) 0)), .unset]) rfl ?_
    refine XS.aloadN X4.here hx rfl (hb hby d19_28) rfl (rfl) ?_
    refine XS.iloadN X4.here hx rfl (hb hby d19_29) rfl ?_
    refine XS.iconst X4.here hx rfl (hb hby d19_30) ?_
    refine XS.iadd X4.here hx rfl (hb hby d19_31) rfl ?_
    refine st5.trans ?_
    show Steps p.tables e below (T5.setTop (mkF m 35 #[.val (.ref a1), .val (.int p1), .val (.ref aN), .val (.int (cs.getD ix 0)), .val (.int (cs.getD (ix + 1) 0)), .val (.int (cs.getD (ix + 2) 0)), .unset] [(.int (cs.getD (ix + 3) 0))])) _
    refine XS.istore X5.here hx rfl (hb hby d19_35) rfl (l' := #[.val (.ref a1), .val (.int p1), .val (.ref aN), .val (.int (cs.getD ix 0)), .val (.int (cs.getD (ix + 1) 0)), .val (.int (cs.getD (ix + 2) 0)), .val (.int (cs.getD (ix + 3) 0))]) rfl ?_
    refine XS.iloadN X5.here hx rfl (hb hby d19_37) rfl ?_
    refine XS.iload X5.here hx rfl (hb hby d19_38) rfl ?_
    refine XS.ior X5.here hx rfl (hb hby d19_40) rfl ?_
    refine XS.iload X5.here hx rfl (hb hby d19_41) rfl ?_
    refine XS.ior X5.here hx rfl (hb hby d19_43) rfl ?_
    show Steps p.tables e below (T5.setTop (mkF m 44 #[.val (.ref a1), .val (.int p1), .val (.ref aN), .val (.int (cs.getD ix 0)), .val (.int (cs.getD (ix + 1) 0)), .val (.int (cs.getD (ix + 2) 0)), .val (.int (cs.getD (ix + 3) 0))] [(.int (((cs.getD ix 0) ||| (cs.getD (ix + 1) 0)) ||| (cs.getD (ix + 2) 0)))])) _
    refine XS.iload X5.here hx rfl (hb hby d19_44) rfl ?_
    refine XS.ior X5.here hx rfl (hb hby d19_46) rfl ?_
    refine XS.sipush X5.here hx rfl (hb hby d19_47) ?_
    refine XS.icmpYes X5.here hx rfl (pc0 := 50) (pc' := 59) rfl (hb hby d19_50) rfl (flt (own_chk Ha Hb Hc Hd)).2.2.2 (by decide) (by decide) ?_
    refine XS.aloadN X5.here hx rfl (hb hby d19_59) rfl (rfl) ?_
    refine XS.iloadN X5.here hx rfl (hb hby d19_60) rfl ?_
    show Steps p.tables e below (T5.setTop (mkF m 61 #[.val (.ref a1), .val (.int p1), .val (.ref aN), .val (.int (cs.getD ix 0)), .val (.int (cs.getD (ix + 1) 0)), .val (.int (cs.getD (ix + 2) 0)), .val (.int (cs.getD (ix + 3) 0))] [(.int (cs.getD ix 0)), (.ref aN)])) _
    refine X5.baloadBytes hx (j := (cs.getD ix 0)) (v := (.int (own_val (cs.getD ix 0)))) (by rw [hq5]; exact AN'.1) (State.isArrayOf_alike hZ.alike AN'.2.1) AN'.2.2 (own_inN Ha SzN) (nib _ Ha) (g := (mkF m 61 #[.val (.ref a1), .val (.int p1), .val (.ref aN), .val (.int (cs.getD ix 0)), .val (.int (cs.getD (ix + 1) 0)), .val (.int (cs.getD (ix + 2) 0)), .val (.int (cs.getD (ix + 3) 0))] [(.int (cs.getD ix 0)), (.ref aN)])) rfl rfl (hb hby d19_61) _ ?_
    refine XS.bipush X5.here hx rfl (hb hby d19_62) ?_
    refine XS.ishl X5.here hx rfl (hb hby d19_64) rfl ?_
    refine XS.aloadN X5.here hx rfl (hb hby d19_65) rfl (rfl) ?_
    refine XS.iload X5.here hx rfl (hb hby d19_66) rfl ?_
    refine X5.baloadBytes hx (j := (cs.getD (ix + 1) 0)) (v := (.int (own_val (cs.getD (ix + 1) 0)))) (by rw [hq5]; exact AN'.1) (State.isArrayOf_alike hZ.alike AN'.2.1) AN'.2.2 (own_inN Hb SzN) (nib _ Hb) (g := (mkF m 68 #[.val (.ref a1), .val (.int p1), .val (.ref aN), .val (.int (cs.getD ix 0)), .val (.int (cs.getD (ix + 1) 0)), .val (.int (cs.getD (ix + 2) 0)), .val (.int (cs.getD (ix + 3) 0))] [(.int (cs.getD (ix + 1) 0)), (.ref aN), (.int ((own_val (cs.getD ix 0)) <<< ((12 : Int32) &&& 31)))])) rfl rfl (hb hby d19_68) _ ?_
    show Steps p.tables e below (T5.setTop (mkF m 69 #[.val (.ref a1), .val (.int p1), .val (.ref aN), .val (.int (cs.getD ix 0)), .val (.int (cs.getD (ix + 1) 0)), .val (.int (cs.getD (ix + 2) 0)), .val (.int (cs.getD (ix + 3) 0))] [(.int (own_val (cs.getD (ix + 1) 0))), (.int ((own_val (cs.getD ix 0)) <<< ((12 : Int32) &&& 31)))])) _
    refine XS.bipush X5.here hx rfl (hb hby d19_69) ?_
    refine XS.ishl X5.here hx rfl (hb hby d19_71) rfl ?_
    refine XS.ior X5.here hx rfl (hb hby d19_72) rfl ?_
    refine XS.aloadN X5.here hx rfl (hb hby d19_73) rfl (rfl) ?_
    refine XS.iload X5.here hx rfl (hb hby d19_74) rfl ?_
    refine X5.baloadBytes hx (j := (cs.getD (ix + 2) 0)) (v := (.int (own_val (cs.getD (ix + 2) 0)))) (by rw [hq5]; exact AN'.1) (State.isArrayOf_alike hZ.alike AN'.2.1) AN'.2.2 (own_inN Hc SzN) (nib _ Hc) (g := (mkF m 76 #[.val (.ref a1), .val (.int p1), .val (.ref aN), .val (.int (cs.getD ix 0)), .val (.int (cs.getD (ix + 1) 0)), .val (.int (cs.getD (ix + 2) 0)), .val (.int (cs.getD (ix + 3) 0))] [(.int (cs.getD (ix + 2) 0)), (.ref aN), (.int (((own_val (cs.getD ix 0)) <<< ((12 : Int32) &&& 31)) ||| ((own_val (cs.getD (ix + 1) 0)) <<< ((8 : Int32) &&& 31))))])) rfl rfl (hb hby d19_76) _ ?_
    show Steps p.tables e below (T5.setTop (mkF m 77 #[.val (.ref a1), .val (.int p1), .val (.ref aN), .val (.int (cs.getD ix 0)), .val (.int (cs.getD (ix + 1) 0)), .val (.int (cs.getD (ix + 2) 0)), .val (.int (cs.getD (ix + 3) 0))] [(.int (own_val (cs.getD (ix + 2) 0))), (.int (((own_val (cs.getD ix 0)) <<< ((12 : Int32) &&& 31)) ||| ((own_val (cs.getD (ix + 1) 0)) <<< ((8 : Int32) &&& 31))))])) _
    refine XS.iconst X5.here hx rfl (hb hby d19_77) ?_
    refine XS.ishl X5.here hx rfl (hb hby d19_78) rfl ?_
    refine XS.ior X5.here hx rfl (hb hby d19_79) rfl ?_
    refine XS.aloadN X5.here hx rfl (hb hby d19_80) rfl (rfl) ?_
    refine XS.iload X5.here hx rfl (hb hby d19_81) rfl ?_
    refine X5.baloadBytes hx (j := (cs.getD (ix + 3) 0)) (v := (.int (own_val (cs.getD (ix + 3) 0)))) (by rw [hq5]; exact AN'.1) (State.isArrayOf_alike hZ.alike AN'.2.1) AN'.2.2 (own_inN Hd SzN) (nib _ Hd) (g := (mkF m 83 #[.val (.ref a1), .val (.int p1), .val (.ref aN), .val (.int (cs.getD ix 0)), .val (.int (cs.getD (ix + 1) 0)), .val (.int (cs.getD (ix + 2) 0)), .val (.int (cs.getD (ix + 3) 0))] [(.int (cs.getD (ix + 3) 0)), (.ref aN), (.int ((((own_val (cs.getD ix 0)) <<< ((12 : Int32) &&& 31)) ||| ((own_val (cs.getD (ix + 1) 0)) <<< ((8 : Int32) &&& 31))) ||| ((own_val (cs.getD (ix + 2) 0)) <<< ((4 : Int32) &&& 31))))])) rfl rfl (hb hby d19_83) _ ?_
    show Steps p.tables e below (T5.setTop (mkF m 84 #[.val (.ref a1), .val (.int p1), .val (.ref aN), .val (.int (cs.getD ix 0)), .val (.int (cs.getD (ix + 1) 0)), .val (.int (cs.getD (ix + 2) 0)), .val (.int (cs.getD (ix + 3) 0))] [(.int (own_val (cs.getD (ix + 3) 0))), (.int ((((own_val (cs.getD ix 0)) <<< ((12 : Int32) &&& 31)) ||| ((own_val (cs.getD (ix + 1) 0)) <<< ((8 : Int32) &&& 31))) ||| ((own_val (cs.getD (ix + 2) 0)) <<< ((4 : Int32) &&& 31))))])) _
    refine XS.ior X5.here hx rfl (hb hby d19_84) rfl ?_
    refine XS.i2l X5.here hx rfl (hb hby d19_85) rfl ?_
    exact k
  obtain ⟨fs, hr, hrun, hended, hW, hsame⟩ := X5.leave (v := some (.long ((((((own_val (cs.getD ix 0)) <<< ((12 : Int32) &&& 31)) ||| ((own_val (cs.getD (ix + 1) 0)) <<< ((8 : Int32) &&& 31))) ||| ((own_val (cs.getD (ix + 2) 0)) <<< ((4 : Int32) &&& 31))) ||| (own_val (cs.getD (ix + 3) 0))).toInt64))) (fun h => by rw [Bd.returns] at h; cases h)
  refine ⟨_, _, pre6 _ ?_, hrun, hended, _, _, rfl, ?_, ⟨_, rfl⟩, hW, hsame.mono (by decide) (by decide)⟩
  · exact retOut X5 hx Bd.returns rfl (Or.inr (Or.inl ⟨rfl, rfl, _, rfl⟩)) (hb hby d19_86) hr
  · show Q_rmP4 Z a1 p1 ay kb cs G1 fm aN cN ix h0 n0 _ T5.heap _
    rw [hq5]
    exact ⟨rfl, N5, rfl⟩
theorem ef_rmU (m : MethodId) (x0 : Addr) (x1 : Int64) (x2 : Int64) : entryFrame m #[(.ref x0), (.long x1), (.long x2)] 5 = mkF m 0 #[.val (.ref x0), .val (.long x1), .second, .val (.long x2), .second] [] := by first | (simp [entryFrame, mkF, argsToLocals, Value.category]; done) | rfl
theorem d20_0 : decode jdk_2758_method_2_code 0 = .ok (.aload_n 0, 1) := by decide +kernel
theorem d20_1 : decode jdk_2758_method_2_code 1 = .ok (.invokespecial 1, 3) := by decide +kernel
theorem d20_4 : decode jdk_2758_method_2_code 4 = .ok (.aload_n 0, 1) := by decide +kernel
theorem d20_5 : decode jdk_2758_method_2_code 5 = .ok (.lload_n 1, 1) := by decide +kernel
theorem d20_6 : decode jdk_2758_method_2_code 6 = .ok (.putfield 20, 3) := by decide +kernel
theorem d20_9 : decode jdk_2758_method_2_code 9 = .ok (.aload_n 0, 1) := by decide +kernel
theorem d20_10 : decode jdk_2758_method_2_code 10 = .ok (.lload_n 3, 1) := by decide +kernel
theorem d20_11 : decode jdk_2758_method_2_code 11 = .ok (.putfield 24, 3) := by decide +kernel
theorem d20_14 : decode jdk_2758_method_2_code 14 = .ok (.return_, 1) := by decide +kernel
def Q_rmU (Z : State) (a1 : Addr) (q1 : Int64) (q2 : Int64) (h0 : Heap) (n0 : Nat) (v : Option Value) (h : Heap) (L : List Loc) : Prop := v = none ∧ Fr n0 L ∧ Keep h0 h [a1] ∧ Exa Z h a1 "java/util/UUID" ∧ Fld Z h a1 "java/util/UUID" "mostSigBits" "J" (.long q1) ∧ Fld Z h a1 "java/util/UUID" "leastSigBits" "J" (.long q2)
set_option maxRecDepth 65536 in
set_option maxHeartbeats 40000000 in
theorem rmU (l : Launch) (Z : State) (a0 : Array Value) (hw : ∀ d ∈ tables_1, d.before a0 Z = true) (ws : List Jvm.Cond) (a1 : Addr) (q1 : Int64) (q2 : Int64) (h0 : Heap) (n0 : Nat) (Z0 : n0 ≤ h0.size) (F1 : Fld Z h0 a1 "java/util/UUID" "mostSigBits" "J" (.long (0 : Int64))) (F2 : Fld Z h0 a1 "java/util/UUID" "leastSigBits" "J" (.long (0 : Int64))) (E1 : Exa Z h0 a1 "java/util/UUID") (g_a1 : n0 ≤ a1) :
    MetFree l (⟨"java/util/UUID", "<init>", "(JJ)V"⟩ : MethodName) (head1 (Jvm.Cond.code (⟨"java/util/UUID", "<init>", "(JJ)V"⟩ : MethodName) jdk_2758_method_2_code 5 none :: ws) ({ frames := 1, cells := 0, slots := 0, locals := 12 } : Room)) (fun a U => a = #[(.ref a1), (.long q1), (.long q2)] ∧ Z.Warmed39 U.vm ∧ U.heap = h0) (fun _ _ _ _ _ => True) (fun _ U o U' => ∃ v L, o = .returned v ∧ Q_rmU Z a1 q1 q2 h0 n0 v U'.heap L ∧ FrameEnd U o U' L ({ frames := 1, cells := 0, slots := 0, locals := 12 } : Room).cells ({ frames := 1, cells := 0, slots := 0, locals := 12 } : Room).slots) := by
  refine MetFree.of_bodySF (plainFor_of_name pn_7) hisR ?_
  intro p e s m args below meth c s₁ Bd hml0 hP hK
  obtain ⟨rfl, hZ, hh⟩ := hP
  have hx := Bd.exec
  have hby := Bd.bytes
  have hml : c.maxLocals = 5 := hml0
  have hown : s.vm.findClass "java/util/UUID" = some m.cls := (findClass_of_methodNamed Bd.named :)
  have hnm := (name_of_methodNamed Bd.named Bd.method).1
  have X0 : Stand p l e ({ frames := 1, cells := 0, slots := 0, locals := 12 } : Room) s m #[(.ref a1), (.long q1), (.long q2)] below meth c s₁ [] 0 0 := Stand.of_body Bd
  have e0 : s₁.heap = h0 := by rw [← hh, Bd.state]; rfl
  have N0 := Fr.nil n0
  have pre0 : ∀ t, Steps p.tables e below (s₁.setTop (mkF m 0 #[.val (.ref a1), .val (.long q1), .second, .val (.long q2), .second] [])) t → Steps p.tables e below (s₁.setTop (entryFrame m #[(.ref a1), (.long q1), (.long q2)] 5)) t := fun t k => castTop (ef_rmU m a1 q1 q2) k
  obtain ⟨T1, X1, e1, st1⟩ := initO X0 hx hZ hown (hw _ (List.mem_of_getElem? (i := 97) rfl)) (hw _ (List.mem_of_getElem? (i := 17) rfl)) (hw _ (List.mem_of_getElem? (i := 18) rfl)) e0 (g := (mkF m 1 #[.val (.ref a1), .val (.long q1), .second, .val (.long q2), .second] [(.ref a1)])) rfl (by rw [hml]; rfl) rfl (hb hby d20_1) (by decide) (W := 0) (by show 2 * 0 + _ ≤ _; exact Nat.le_of_eq rfl) (by decide)
  obtain ⟨T2, h2, X2, e2, W2, st2⟩ := putF X1 hx hZ hown (host := "") (Or.inl (hw _ (List.mem_of_getElem? (i := 98) rfl))) Via.refl e1 F1 E1 (Or.inr ⟨(hw _ (List.mem_of_getElem? (i := 99) rfl)), rfl, hnm⟩) (hw _ (List.mem_of_getElem? (i := 92) rfl)) (ty := .long) (by decide) rfl rfl (g := (mkF m 6 #[.val (.ref a1), .val (.long q1), .second, .val (.long q2), .second] [(.long q1), (.ref a1)])) rfl rfl (hb hby d20_6)
  have Fw2 := F1.same W2
  have K2 : Keep h0 h2 [a1] := (Keep.refl h0 [a1]).wr W2 (Or.inl (List.mem_of_getElem? (i := 0) rfl))
  have N2 := Fr.snoc X2 N0 g_a1
  obtain ⟨T3, h3, X3, e3, W3, st3⟩ := putF X2 hx hZ hown (host := "") (Or.inl (hw _ (List.mem_of_getElem? (i := 100) rfl))) Via.refl e2 (F2.other W2 (Or.inr (slot_ne (Or.inr (hw _ (List.mem_of_getElem? (i := 101) rfl))) (Or.inr (hw _ (List.mem_of_getElem? (i := 99) rfl))) (by decide) (t := .long) (t' := .long) (by decide) (by decide)))) (E1.wr W2) (Or.inr ⟨(hw _ (List.mem_of_getElem? (i := 101) rfl)), rfl, hnm⟩) (hw _ (List.mem_of_getElem? (i := 92) rfl)) (ty := .long) (by decide) rfl rfl (g := (mkF m 11 #[.val (.ref a1), .val (.long q1), .second, .val (.long q2), .second] [(.long q2), (.ref a1)])) rfl rfl (hb hby d20_11)
  have Fw3 := (F2.other W2 (Or.inr (slot_ne (Or.inr (hw _ (List.mem_of_getElem? (i := 101) rfl))) (Or.inr (hw _ (List.mem_of_getElem? (i := 99) rfl))) (by decide) (t := .long) (t' := .long) (by decide) (by decide)))).same W3
  have K3 : Keep h0 h3 [a1] := K2.wr W3 (Or.inl (List.mem_of_getElem? (i := 0) rfl))
  have N3 := Fr.snoc X3 N2 g_a1
  have pre4 : ∀ t, Steps p.tables e below (T3.setTop (mkF m 14 #[.val (.ref a1), .val (.long q1), .second, .val (.long q2), .second] [])) t → Steps p.tables e below (s₁.setTop (entryFrame m #[(.ref a1), (.long q1), (.long q2)] 5)) t := by
    intro t k
    refine pre0 t ?_
    refine XS.aloadN X0.here hx rfl (hb hby d20_0) rfl (rfl) ?_
    refine st1 _ ?_
    refine XS.aloadN X1.here hx rfl (hb hby d20_4) rfl (rfl) ?_
    refine XS.lloadN X1.here hx rfl (hb hby d20_5) rfl ?_
    refine st2 _ ?_
    show Steps p.tables e below (T2.setTop (mkF m 9 #[.val (.ref a1), .val (.long q1), .second, .val (.long q2), .second] [])) _
    refine XS.aloadN X2.here hx rfl (hb hby d20_9) rfl (rfl) ?_
    refine XS.lloadN X2.here hx rfl (hb hby d20_10) rfl ?_
    refine st3 _ ?_
    exact k
  obtain ⟨fs, hr, hrun, hended, hW, hsame⟩ := X3.leave (v := none) (fun _ => rfl)
  refine ⟨_, _, pre4 _ ?_, hrun, hended, _, _, rfl, ?_, ⟨_, rfl⟩, hW, hsame.mono (by decide) (by decide)⟩
  · exact X3.returnOut hx Bd.returns (hb hby d20_14) hr
  · show Q_rmU Z a1 q1 q2 h0 n0 _ T3.heap _
    rw [e3]
    exact ⟨rfl, N3, K3, ((E1.wr W2).wr W3), (Fw2.other W3 (Or.inr (slot_ne (Or.inr (hw _ (List.mem_of_getElem? (i := 99) rfl))) (Or.inr (hw _ (List.mem_of_getElem? (i := 101) rfl))) (by decide) (t := .long) (t' := .long) (by decide) (by decide)))), Fw3⟩
theorem ef_rmM (m : MethodId) (x0 : Addr) : entryFrame m #[(.ref x0)] 1 = mkF m 0 #[.val (.ref x0)] [] := by first | (simp [entryFrame, mkF, argsToLocals, Value.category]; done) | rfl
theorem d21_0 : decode jdk_2758_method_9_code 0 = .ok (.aload_n 0, 1) := by decide +kernel
theorem d21_1 : decode jdk_2758_method_9_code 1 = .ok (.getfield 20, 3) := by decide +kernel
theorem d21_4 : decode jdk_2758_method_9_code 4 = .ok (.lreturn, 1) := by decide +kernel
def Q_rmM (Z : State) (a1 : Addr) (q1 : Int64) (h0 : Heap) (n0 : Nat) (v : Option Value) (h : Heap) (L : List Loc) : Prop := v = some (.long q1) ∧ Fr n0 L ∧ h = h0
set_option maxRecDepth 65536 in
set_option maxHeartbeats 40000000 in
theorem rmM (l : Launch) (Z : State) (a0 : Array Value) (hw : ∀ d ∈ tables_1, d.before a0 Z = true) (ws : List Jvm.Cond) (a1 : Addr) (q1 : Int64) (h0 : Heap) (n0 : Nat) (Z0 : n0 ≤ h0.size) (F1 : Fld Z h0 a1 "java/util/UUID" "mostSigBits" "J" (.long q1)) :
    MetFree l (⟨"java/util/UUID", "getMostSignificantBits", "()J"⟩ : MethodName) (head1 (Jvm.Cond.code (⟨"java/util/UUID", "getMostSignificantBits", "()J"⟩ : MethodName) jdk_2758_method_9_code 1 (some .long) :: ws) ({ frames := 0, cells := 0, slots := 0, locals := 0 } : Room)) (fun a U => a = #[(.ref a1)] ∧ Z.Warmed39 U.vm ∧ U.heap = h0) (fun _ _ _ _ _ => True) (fun _ U o U' => ∃ v L, o = .returned v ∧ Q_rmM Z a1 q1 h0 n0 v U'.heap L ∧ FrameEnd U o U' L ({ frames := 0, cells := 0, slots := 0, locals := 0 } : Room).cells ({ frames := 0, cells := 0, slots := 0, locals := 0 } : Room).slots) := by
  refine MetFree.of_bodySF (plainFor_of_name pn_7) hisR ?_
  intro p e s m args below meth c s₁ Bd hml0 hP hK
  obtain ⟨rfl, hZ, hh⟩ := hP
  have hx := Bd.exec
  have hby := Bd.bytes
  have hml : c.maxLocals = 1 := hml0
  have hown : s.vm.findClass "java/util/UUID" = some m.cls := (findClass_of_methodNamed Bd.named :)
  have hnm := (name_of_methodNamed Bd.named Bd.method).1
  have X0 : Stand p l e ({ frames := 0, cells := 0, slots := 0, locals := 0 } : Room) s m #[(.ref a1)] below meth c s₁ [] 0 0 := Stand.of_body Bd
  have e0 : s₁.heap = h0 := by rw [← hh, Bd.state]; rfl
  have N0 := Fr.nil n0
  have pre0 : ∀ t, Steps p.tables e below (s₁.setTop (mkF m 0 #[.val (.ref a1)] [])) t → Steps p.tables e below (s₁.setTop (entryFrame m #[(.ref a1)] 1)) t := fun t k => castTop (ef_rmM m a1) k
  obtain ⟨T1, X1, e1, st1⟩ := getF X0 hx hZ hown (host := "") (Or.inl (hw _ (List.mem_of_getElem? (i := 98) rfl))) Via.refl e0 F1 (g := (mkF m 1 #[.val (.ref a1)] [(.ref a1)])) rfl rfl (hb hby d21_1)
  have pre2 : ∀ t, Steps p.tables e below (T1.setTop (mkF m 4 #[.val (.ref a1)] [(.long q1)])) t → Steps p.tables e below (s₁.setTop (entryFrame m #[(.ref a1)] 1)) t := by
    intro t k
    refine pre0 t ?_
    refine XS.aloadN X0.here hx rfl (hb hby d21_0) rfl (rfl) ?_
    refine st1 _ ?_
    exact k
  obtain ⟨fs, hr, hrun, hended, hW, hsame⟩ := X1.leave (v := some (.long q1)) (fun h => by rw [Bd.returns] at h; cases h)
  refine ⟨_, _, pre2 _ ?_, hrun, hended, _, _, rfl, ?_, ⟨_, rfl⟩, hW, hsame.mono (by decide) (by decide)⟩
  · exact retOut X1 hx Bd.returns rfl (Or.inr (Or.inl ⟨rfl, rfl, _, rfl⟩)) (hb hby d21_4) hr
  · show Q_rmM Z a1 q1 h0 n0 _ T1.heap _
    rw [e1]
    exact ⟨rfl, N0, rfl⟩
theorem ef_rmL (m : MethodId) (x0 : Addr) : entryFrame m #[(.ref x0)] 1 = mkF m 0 #[.val (.ref x0)] [] := by first | (simp [entryFrame, mkF, argsToLocals, Value.category]; done) | rfl
theorem d22_0 : decode jdk_2758_method_8_code 0 = .ok (.aload_n 0, 1) := by decide +kernel
theorem d22_1 : decode jdk_2758_method_8_code 1 = .ok (.getfield 24, 3) := by decide +kernel
theorem d22_4 : decode jdk_2758_method_8_code 4 = .ok (.lreturn, 1) := by decide +kernel
def Q_rmL (Z : State) (a1 : Addr) (q1 : Int64) (h0 : Heap) (n0 : Nat) (v : Option Value) (h : Heap) (L : List Loc) : Prop := v = some (.long q1) ∧ Fr n0 L ∧ h = h0
set_option maxRecDepth 65536 in
set_option maxHeartbeats 40000000 in
theorem rmL (l : Launch) (Z : State) (a0 : Array Value) (hw : ∀ d ∈ tables_1, d.before a0 Z = true) (ws : List Jvm.Cond) (a1 : Addr) (q1 : Int64) (h0 : Heap) (n0 : Nat) (Z0 : n0 ≤ h0.size) (F1 : Fld Z h0 a1 "java/util/UUID" "leastSigBits" "J" (.long q1)) :
    MetFree l (⟨"java/util/UUID", "getLeastSignificantBits", "()J"⟩ : MethodName) (head1 (Jvm.Cond.code (⟨"java/util/UUID", "getLeastSignificantBits", "()J"⟩ : MethodName) jdk_2758_method_8_code 1 (some .long) :: ws) ({ frames := 0, cells := 0, slots := 0, locals := 0 } : Room)) (fun a U => a = #[(.ref a1)] ∧ Z.Warmed39 U.vm ∧ U.heap = h0) (fun _ _ _ _ _ => True) (fun _ U o U' => ∃ v L, o = .returned v ∧ Q_rmL Z a1 q1 h0 n0 v U'.heap L ∧ FrameEnd U o U' L ({ frames := 0, cells := 0, slots := 0, locals := 0 } : Room).cells ({ frames := 0, cells := 0, slots := 0, locals := 0 } : Room).slots) := by
  refine MetFree.of_bodySF (plainFor_of_name pn_7) hisR ?_
  intro p e s m args below meth c s₁ Bd hml0 hP hK
  obtain ⟨rfl, hZ, hh⟩ := hP
  have hx := Bd.exec
  have hby := Bd.bytes
  have hml : c.maxLocals = 1 := hml0
  have hown : s.vm.findClass "java/util/UUID" = some m.cls := (findClass_of_methodNamed Bd.named :)
  have hnm := (name_of_methodNamed Bd.named Bd.method).1
  have X0 : Stand p l e ({ frames := 0, cells := 0, slots := 0, locals := 0 } : Room) s m #[(.ref a1)] below meth c s₁ [] 0 0 := Stand.of_body Bd
  have e0 : s₁.heap = h0 := by rw [← hh, Bd.state]; rfl
  have N0 := Fr.nil n0
  have pre0 : ∀ t, Steps p.tables e below (s₁.setTop (mkF m 0 #[.val (.ref a1)] [])) t → Steps p.tables e below (s₁.setTop (entryFrame m #[(.ref a1)] 1)) t := fun t k => castTop (ef_rmL m a1) k
  obtain ⟨T1, X1, e1, st1⟩ := getF X0 hx hZ hown (host := "") (Or.inl (hw _ (List.mem_of_getElem? (i := 100) rfl))) Via.refl e0 F1 (g := (mkF m 1 #[.val (.ref a1)] [(.ref a1)])) rfl rfl (hb hby d22_1)
  have pre2 : ∀ t, Steps p.tables e below (T1.setTop (mkF m 4 #[.val (.ref a1)] [(.long q1)])) t → Steps p.tables e below (s₁.setTop (entryFrame m #[(.ref a1)] 1)) t := by
    intro t k
    refine pre0 t ?_
    refine XS.aloadN X0.here hx rfl (hb hby d22_0) rfl (rfl) ?_
    refine st1 _ ?_
    exact k
  obtain ⟨fs, hr, hrun, hended, hW, hsame⟩ := X1.leave (v := some (.long q1)) (fun h => by rw [Bd.returns] at h; cases h)
  refine ⟨_, _, pre2 _ ?_, hrun, hended, _, _, rfl, ?_, ⟨_, rfl⟩, hW, hsame.mono (by decide) (by decide)⟩
  · exact retOut X1 hx Bd.returns rfl (Or.inr (Or.inl ⟨rfl, rfl, _, rfl⟩)) (hb hby d22_4) hr
  · show Q_rmL Z a1 q1 h0 n0 _ T1.heap _
    rw [e1]
    exact ⟨rfl, N0, rfl⟩
theorem ef_rmFS (m : MethodId) (x0 : Addr) : entryFrame m #[(.ref x0)] 21 = mkF m 0 #[.val (.ref x0), .unset, .unset, .unset, .unset, .unset, .unset, .unset, .unset, .unset, .unset, .unset, .unset, .unset, .unset, .unset, .unset, .unset, .unset, .unset, .unset] [] := by first | (simp [entryFrame, mkF, argsToLocals, Value.category]; done) | rfl
theorem d18_0 : decode jdk_2758_method_6_code 0 = .ok (.aload_n 0, 1) := by decide +kernel
theorem d18_1 : decode jdk_2758_method_6_code 1 = .ok (.invokevirtual 74, 3) := by decide +kernel
theorem pd_1 : parseMethodDescriptor "()I" = some ⟨[], some .int⟩ := by decide +kernel
theorem d18_4 : decode jdk_2758_method_6_code 4 = .ok (.bipush 36, 2) := by decide +kernel
theorem d18_6 : decode jdk_2758_method_6_code 6 = .ok (.if_icmp .ne 195, 3) := by decide +kernel
theorem d18_9 : decode jdk_2758_method_6_code 9 = .ok (.aload_n 0, 1) := by decide +kernel
theorem d18_10 : decode jdk_2758_method_6_code 10 = .ok (.bipush 8, 2) := by decide +kernel
theorem d18_12 : decode jdk_2758_method_6_code 12 = .ok (.invokevirtual 66, 3) := by decide +kernel
theorem d18_15 : decode jdk_2758_method_6_code 15 = .ok (.istore_n 1, 1) := by decide +kernel
theorem d18_16 : decode jdk_2758_method_6_code 16 = .ok (.aload_n 0, 1) := by decide +kernel
theorem d18_17 : decode jdk_2758_method_6_code 17 = .ok (.bipush 13, 2) := by decide +kernel
theorem d18_19 : decode jdk_2758_method_6_code 19 = .ok (.invokevirtual 66, 3) := by decide +kernel
theorem d18_22 : decode jdk_2758_method_6_code 22 = .ok (.istore_n 2, 1) := by decide +kernel
theorem d18_23 : decode jdk_2758_method_6_code 23 = .ok (.aload_n 0, 1) := by decide +kernel
theorem d18_24 : decode jdk_2758_method_6_code 24 = .ok (.bipush 18, 2) := by decide +kernel
theorem d18_26 : decode jdk_2758_method_6_code 26 = .ok (.invokevirtual 66, 3) := by decide +kernel
theorem d18_29 : decode jdk_2758_method_6_code 29 = .ok (.istore_n 3, 1) := by decide +kernel
theorem d18_30 : decode jdk_2758_method_6_code 30 = .ok (.aload_n 0, 1) := by decide +kernel
theorem d18_31 : decode jdk_2758_method_6_code 31 = .ok (.bipush 23, 2) := by decide +kernel
theorem d18_33 : decode jdk_2758_method_6_code 33 = .ok (.invokevirtual 66, 3) := by decide +kernel
theorem d18_36 : decode jdk_2758_method_6_code 36 = .ok (.istore 4, 2) := by decide +kernel
theorem d18_38 : decode jdk_2758_method_6_code 38 = .ok (.iload_n 1, 1) := by decide +kernel
theorem d18_39 : decode jdk_2758_method_6_code 39 = .ok (.bipush 45, 2) := by decide +kernel
theorem d18_41 : decode jdk_2758_method_6_code 41 = .ok (.if_icmp .ne 160, 3) := by decide +kernel
theorem d18_44 : decode jdk_2758_method_6_code 44 = .ok (.iload_n 2, 1) := by decide +kernel
theorem d18_45 : decode jdk_2758_method_6_code 45 = .ok (.bipush 45, 2) := by decide +kernel
theorem d18_47 : decode jdk_2758_method_6_code 47 = .ok (.if_icmp .ne 154, 3) := by decide +kernel
theorem d18_50 : decode jdk_2758_method_6_code 50 = .ok (.iload_n 3, 1) := by decide +kernel
theorem d18_51 : decode jdk_2758_method_6_code 51 = .ok (.bipush 45, 2) := by decide +kernel
theorem d18_53 : decode jdk_2758_method_6_code 53 = .ok (.if_icmp .ne 148, 3) := by decide +kernel
theorem d18_56 : decode jdk_2758_method_6_code 56 = .ok (.iload 4, 2) := by decide +kernel
theorem d18_58 : decode jdk_2758_method_6_code 58 = .ok (.bipush 45, 2) := by decide +kernel
theorem d18_60 : decode jdk_2758_method_6_code 60 = .ok (.if_icmp .ne 141, 3) := by decide +kernel
theorem d18_63 : decode jdk_2758_method_6_code 63 = .ok (.aload_n 0, 1) := by decide +kernel
theorem d18_64 : decode jdk_2758_method_6_code 64 = .ok (.iconst 0, 1) := by decide +kernel
theorem d18_65 : decode jdk_2758_method_6_code 65 = .ok (.invokestatic 78, 3) := by decide +kernel
theorem pd_2 : parseMethodDescriptor "(Ljava/lang/String;I)J" = some ⟨[(.object "java/lang/String"), .int], some .long⟩ := by decide +kernel
theorem d18_68 : decode jdk_2758_method_6_code 68 = .ok (.lstore 5, 2) := by decide +kernel
theorem d18_70 : decode jdk_2758_method_6_code 70 = .ok (.aload_n 0, 1) := by decide +kernel
theorem d18_71 : decode jdk_2758_method_6_code 71 = .ok (.iconst 4, 1) := by decide +kernel
theorem d18_72 : decode jdk_2758_method_6_code 72 = .ok (.invokestatic 78, 3) := by decide +kernel
theorem d18_75 : decode jdk_2758_method_6_code 75 = .ok (.lstore 7, 2) := by decide +kernel
theorem d18_77 : decode jdk_2758_method_6_code 77 = .ok (.aload_n 0, 1) := by decide +kernel
theorem d18_78 : decode jdk_2758_method_6_code 78 = .ok (.bipush 9, 2) := by decide +kernel
theorem d18_80 : decode jdk_2758_method_6_code 80 = .ok (.invokestatic 78, 3) := by decide +kernel
theorem d18_83 : decode jdk_2758_method_6_code 83 = .ok (.lstore 9, 2) := by decide +kernel
theorem d18_85 : decode jdk_2758_method_6_code 85 = .ok (.aload_n 0, 1) := by decide +kernel
theorem d18_86 : decode jdk_2758_method_6_code 86 = .ok (.bipush 14, 2) := by decide +kernel
theorem d18_88 : decode jdk_2758_method_6_code 88 = .ok (.invokestatic 78, 3) := by decide +kernel
theorem d18_91 : decode jdk_2758_method_6_code 91 = .ok (.lstore 11, 2) := by decide +kernel
theorem d18_93 : decode jdk_2758_method_6_code 93 = .ok (.aload_n 0, 1) := by decide +kernel
theorem d18_94 : decode jdk_2758_method_6_code 94 = .ok (.bipush 19, 2) := by decide +kernel
theorem d18_96 : decode jdk_2758_method_6_code 96 = .ok (.invokestatic 78, 3) := by decide +kernel
theorem d18_99 : decode jdk_2758_method_6_code 99 = .ok (.lstore 13, 2) := by decide +kernel
theorem d18_101 : decode jdk_2758_method_6_code 101 = .ok (.aload_n 0, 1) := by decide +kernel
theorem d18_102 : decode jdk_2758_method_6_code 102 = .ok (.bipush 24, 2) := by decide +kernel
theorem d18_104 : decode jdk_2758_method_6_code 104 = .ok (.invokestatic 78, 3) := by decide +kernel
theorem d18_107 : decode jdk_2758_method_6_code 107 = .ok (.lstore 15, 2) := by decide +kernel
theorem d18_109 : decode jdk_2758_method_6_code 109 = .ok (.aload_n 0, 1) := by decide +kernel
theorem d18_110 : decode jdk_2758_method_6_code 110 = .ok (.bipush 28, 2) := by decide +kernel
theorem d18_112 : decode jdk_2758_method_6_code 112 = .ok (.invokestatic 78, 3) := by decide +kernel
theorem d18_115 : decode jdk_2758_method_6_code 115 = .ok (.lstore 17, 2) := by decide +kernel
theorem d18_117 : decode jdk_2758_method_6_code 117 = .ok (.aload_n 0, 1) := by decide +kernel
theorem d18_118 : decode jdk_2758_method_6_code 118 = .ok (.bipush 32, 2) := by decide +kernel
theorem d18_120 : decode jdk_2758_method_6_code 120 = .ok (.invokestatic 78, 3) := by decide +kernel
theorem d18_123 : decode jdk_2758_method_6_code 123 = .ok (.lstore 19, 2) := by decide +kernel
theorem d18_125 : decode jdk_2758_method_6_code 125 = .ok (.lload 5, 2) := by decide +kernel
theorem d18_127 : decode jdk_2758_method_6_code 127 = .ok (.lload 7, 2) := by decide +kernel
theorem d18_129 : decode jdk_2758_method_6_code 129 = .ok (.lor, 1) := by decide +kernel
theorem d18_130 : decode jdk_2758_method_6_code 130 = .ok (.lload 9, 2) := by decide +kernel
theorem d18_132 : decode jdk_2758_method_6_code 132 = .ok (.lor, 1) := by decide +kernel
theorem d18_133 : decode jdk_2758_method_6_code 133 = .ok (.lload 11, 2) := by decide +kernel
theorem d18_135 : decode jdk_2758_method_6_code 135 = .ok (.lor, 1) := by decide +kernel
theorem d18_136 : decode jdk_2758_method_6_code 136 = .ok (.lload 13, 2) := by decide +kernel
theorem d18_138 : decode jdk_2758_method_6_code 138 = .ok (.lor, 1) := by decide +kernel
theorem d18_139 : decode jdk_2758_method_6_code 139 = .ok (.lload 15, 2) := by decide +kernel
theorem d18_141 : decode jdk_2758_method_6_code 141 = .ok (.lor, 1) := by decide +kernel
theorem d18_142 : decode jdk_2758_method_6_code 142 = .ok (.lload 17, 2) := by decide +kernel
theorem d18_144 : decode jdk_2758_method_6_code 144 = .ok (.lor, 1) := by decide +kernel
theorem d18_145 : decode jdk_2758_method_6_code 145 = .ok (.lload 19, 2) := by decide +kernel
theorem d18_147 : decode jdk_2758_method_6_code 147 = .ok (.lor, 1) := by decide +kernel
theorem d18_148 : decode jdk_2758_method_6_code 148 = .ok (.lconst 0, 1) := by decide +kernel
theorem d18_149 : decode jdk_2758_method_6_code 149 = .ok (.lcmp, 1) := by decide +kernel
theorem d18_150 : decode jdk_2758_method_6_code 150 = .ok (.ifCond .lt 51, 3) := by decide +kernel
theorem d18_153 : decode jdk_2758_method_6_code 153 = .ok (.new 8, 3) := by decide +kernel
theorem d18_156 : decode jdk_2758_method_6_code 156 = .ok (.dup, 1) := by decide +kernel
theorem d18_157 : decode jdk_2758_method_6_code 157 = .ok (.lload 5, 2) := by decide +kernel
theorem d18_159 : decode jdk_2758_method_6_code 159 = .ok (.bipush 48, 2) := by decide +kernel
theorem d18_161 : decode jdk_2758_method_6_code 161 = .ok (.lshl, 1) := by decide +kernel
theorem d18_162 : decode jdk_2758_method_6_code 162 = .ok (.lload 7, 2) := by decide +kernel
theorem d18_164 : decode jdk_2758_method_6_code 164 = .ok (.bipush 32, 2) := by decide +kernel
theorem d18_166 : decode jdk_2758_method_6_code 166 = .ok (.lshl, 1) := by decide +kernel
theorem d18_167 : decode jdk_2758_method_6_code 167 = .ok (.lor, 1) := by decide +kernel
theorem d18_168 : decode jdk_2758_method_6_code 168 = .ok (.lload 9, 2) := by decide +kernel
theorem d18_170 : decode jdk_2758_method_6_code 170 = .ok (.bipush 16, 2) := by decide +kernel
theorem d18_172 : decode jdk_2758_method_6_code 172 = .ok (.lshl, 1) := by decide +kernel
theorem d18_173 : decode jdk_2758_method_6_code 173 = .ok (.lor, 1) := by decide +kernel
theorem d18_174 : decode jdk_2758_method_6_code 174 = .ok (.lload 11, 2) := by decide +kernel
theorem d18_176 : decode jdk_2758_method_6_code 176 = .ok (.lor, 1) := by decide +kernel
theorem d18_177 : decode jdk_2758_method_6_code 177 = .ok (.lload 13, 2) := by decide +kernel
theorem d18_179 : decode jdk_2758_method_6_code 179 = .ok (.bipush 48, 2) := by decide +kernel
theorem d18_181 : decode jdk_2758_method_6_code 181 = .ok (.lshl, 1) := by decide +kernel
theorem d18_182 : decode jdk_2758_method_6_code 182 = .ok (.lload 15, 2) := by decide +kernel
theorem d18_184 : decode jdk_2758_method_6_code 184 = .ok (.bipush 32, 2) := by decide +kernel
theorem d18_186 : decode jdk_2758_method_6_code 186 = .ok (.lshl, 1) := by decide +kernel
theorem d18_187 : decode jdk_2758_method_6_code 187 = .ok (.lor, 1) := by decide +kernel
theorem d18_188 : decode jdk_2758_method_6_code 188 = .ok (.lload 17, 2) := by decide +kernel
theorem d18_190 : decode jdk_2758_method_6_code 190 = .ok (.bipush 16, 2) := by decide +kernel
theorem d18_192 : decode jdk_2758_method_6_code 192 = .ok (.lshl, 1) := by decide +kernel
theorem d18_193 : decode jdk_2758_method_6_code 193 = .ok (.lor, 1) := by decide +kernel
theorem d18_194 : decode jdk_2758_method_6_code 194 = .ok (.lload 19, 2) := by decide +kernel
theorem d18_196 : decode jdk_2758_method_6_code 196 = .ok (.lor, 1) := by decide +kernel
theorem d18_197 : decode jdk_2758_method_6_code 197 = .ok (.invokespecial 82, 3) := by decide +kernel
theorem pd_3 : parseMethodDescriptor "(JJ)V" = some ⟨[.long, .long], none⟩ := by decide +kernel
theorem d18_200 : decode jdk_2758_method_6_code 200 = .ok (.areturn, 1) := by decide +kernel
def Q_rmFS (Z : State) (a1 : Addr) (ay : Addr) (kb : ClassId) (cs : List Int32) (G1 : Int32) (fm : Value) (aN : Addr) (cN : Cell) (h0 : Heap) (n0 : Nat) (v : Option Value) (h : Heap) (L : List Loc) : Prop := ∃ a : Addr, v = some (.ref a) ∧ Fr n0 L ∧ Keep h0 h [] ∧ Exa Z h a "java/util/UUID" ∧ Fld Z h a "java/util/UUID" "mostSigBits" "J" (.long (own_msb cs)) ∧ Fld Z h a "java/util/UUID" "leastSigBits" "J" (.long (own_lsb cs))
set_option maxRecDepth 65536 in
set_option maxHeartbeats 40000000 in
theorem rmFS (l : Launch) (Z : State) (a0 : Array Value) (hw : ∀ d ∈ tables_1, d.before a0 Z = true) (ws : List Jvm.Cond) (a1 : Addr) (ay : Addr) (kb : ClassId) (cs : List Int32) (G1 : Int32) (fm : Value) (aN : Addr) (cN : Cell) (h0 : Heap) (n0 : Nat) (Z0 : n0 ≤ h0.size) (SS : own_S Z h0 n0 a1 ay kb cs G1 fm aN cN) :
    MetFree l (⟨"java/util/UUID", "fromString", "(Ljava/lang/String;)Ljava/util/UUID;"⟩ : MethodName) (head1 (Jvm.Cond.code (⟨"java/util/UUID", "fromString", "(Ljava/lang/String;)Ljava/util/UUID;"⟩ : MethodName) jdk_2758_method_6_code 21 (some (.object "java/util/UUID")) :: ws) ({ frames := 5, cells := 1, slots := 2, locals := 71 } : Room)) (fun a U => a = #[(.ref a1)] ∧ Z.Warmed39 U.vm ∧ U.heap = h0) (fun _ _ _ _ _ => True) (fun _ U o U' => ∃ v L, o = .returned v ∧ Q_rmFS Z a1 ay kb cs G1 fm aN cN h0 n0 v U'.heap L ∧ FrameEnd U o U' L ({ frames := 5, cells := 1, slots := 2, locals := 71 } : Room).cells ({ frames := 5, cells := 1, slots := 2, locals := 71 } : Room).slots) := by
  refine MetFree.of_bodySF (plainFor_of_name pn_7) hisR ?_
  intro p e s m args below meth c s₁ Bd hml0 hP hK
  obtain ⟨rfl, hZ, hh⟩ := hP
  have hx := Bd.exec
  have hby := Bd.bytes
  have hml : c.maxLocals = 21 := hml0
  have hown : s.vm.findClass "java/util/UUID" = some m.cls := (findClass_of_methodNamed Bd.named :)
  have hnm := (name_of_methodNamed Bd.named Bd.method).1
  have X0 : Stand p l e ({ frames := 5, cells := 1, slots := 2, locals := 71 } : Room) s m #[(.ref a1)] below meth c s₁ [] 0 0 := Stand.of_body Bd
  have e0 : s₁.heap = h0 := by rw [← hh, Bd.state]; rfl
  have N0 := Fr.nil n0
  have pre0 : ∀ t, Steps p.tables e below (s₁.setTop (mkF m 0 #[.val (.ref a1), .unset, .unset, .unset, .unset, .unset, .unset, .unset, .unset, .unset, .unset, .unset, .unset, .unset, .unset, .unset, .unset, .unset, .unset, .unset, .unset] [])) t → Steps p.tables e below (s₁.setTop (entryFrame m #[(.ref a1)] 21)) t := fun t k => castTop (ef_rmFS m a1) k
  obtain ⟨hE, hV, hC, hA, hb255, hlen, O0, SC, P5, SF, rF, SNib, AN, SzN, nib, dx8, dx13, dx18, dx23, hh⟩ := id SS
  obtain ⟨nz0, lz0, ez0⟩ : ∃ n : Nat, n < 65536 ∧ own_q4 cs 0 = Int64.ofNat n := own_p4_pos (hh 0 (by decide) (by decide) (by decide) (by decide) (by decide)) (hh 1 (by decide) (by decide) (by decide) (by decide) (by decide)) (hh 2 (by decide) (by decide) (by decide) (by decide) (by decide)) (hh 3 (by decide) (by decide) (by decide) (by decide) (by decide))
  obtain ⟨nz4, lz4, ez4⟩ : ∃ n : Nat, n < 65536 ∧ own_q4 cs 4 = Int64.ofNat n := own_p4_pos (hh 4 (by decide) (by decide) (by decide) (by decide) (by decide)) (hh 5 (by decide) (by decide) (by decide) (by decide) (by decide)) (hh 6 (by decide) (by decide) (by decide) (by decide) (by decide)) (hh 7 (by decide) (by decide) (by decide) (by decide) (by decide))
  obtain ⟨nz9, lz9, ez9⟩ : ∃ n : Nat, n < 65536 ∧ own_q4 cs 9 = Int64.ofNat n := own_p4_pos (hh 9 (by decide) (by decide) (by decide) (by decide) (by decide)) (hh 10 (by decide) (by decide) (by decide) (by decide) (by decide)) (hh 11 (by decide) (by decide) (by decide) (by decide) (by decide)) (hh 12 (by decide) (by decide) (by decide) (by decide) (by decide))
  obtain ⟨nz14, lz14, ez14⟩ : ∃ n : Nat, n < 65536 ∧ own_q4 cs 14 = Int64.ofNat n := own_p4_pos (hh 14 (by decide) (by decide) (by decide) (by decide) (by decide)) (hh 15 (by decide) (by decide) (by decide) (by decide) (by decide)) (hh 16 (by decide) (by decide) (by decide) (by decide) (by decide)) (hh 17 (by decide) (by decide) (by decide) (by decide) (by decide))
  obtain ⟨nz19, lz19, ez19⟩ : ∃ n : Nat, n < 65536 ∧ own_q4 cs 19 = Int64.ofNat n := own_p4_pos (hh 19 (by decide) (by decide) (by decide) (by decide) (by decide)) (hh 20 (by decide) (by decide) (by decide) (by decide) (by decide)) (hh 21 (by decide) (by decide) (by decide) (by decide) (by decide)) (hh 22 (by decide) (by decide) (by decide) (by decide) (by decide))
  obtain ⟨nz24, lz24, ez24⟩ : ∃ n : Nat, n < 65536 ∧ own_q4 cs 24 = Int64.ofNat n := own_p4_pos (hh 24 (by decide) (by decide) (by decide) (by decide) (by decide)) (hh 25 (by decide) (by decide) (by decide) (by decide) (by decide)) (hh 26 (by decide) (by decide) (by decide) (by decide) (by decide)) (hh 27 (by decide) (by decide) (by decide) (by decide) (by decide))
  obtain ⟨nz28, lz28, ez28⟩ : ∃ n : Nat, n < 65536 ∧ own_q4 cs 28 = Int64.ofNat n := own_p4_pos (hh 28 (by decide) (by decide) (by decide) (by decide) (by decide)) (hh 29 (by decide) (by decide) (by decide) (by decide) (by decide)) (hh 30 (by decide) (by decide) (by decide) (by decide) (by decide)) (hh 31 (by decide) (by decide) (by decide) (by decide) (by decide))
  obtain ⟨nz32, lz32, ez32⟩ : ∃ n : Nat, n < 65536 ∧ own_q4 cs 32 = Int64.ofNat n := own_p4_pos (hh 32 (by decide) (by decide) (by decide) (by decide) (by decide)) (hh 33 (by decide) (by decide) (by decide) (by decide) (by decide)) (hh 34 (by decide) (by decide) (by decide) (by decide) (by decide)) (hh 35 (by decide) (by decide) (by decide) (by decide) (by decide))
  have hpos : ¬ ((((((((own_q4 cs 0) ||| (own_q4 cs 4)) ||| (own_q4 cs 9)) ||| (own_q4 cs 14)) ||| (own_q4 cs 19)) ||| (own_q4 cs 24)) ||| (own_q4 cs 28)) ||| (own_q4 cs 32)) < (0 : Int64) := by rw [ez0, ez4, ez9, ez14, ez19, ez24, ez28, ez32]; exact own_pos4 lz0 lz4 lz9 lz14 lz19 lz24 lz28 lz32
  obtain ⟨cq1, kq1, q1a, q1b, q1c⟩ := isOf hZ e0 hE
  obtain ⟨_, _, ⟨T1, L1, k1, n1⟩, -, X1, ⟨Lc1, hQ1, l1, y1, z1⟩, st1⟩ := X0.virtualBack hx (y := (⟨"java/lang/String", "length", "()I"⟩ : MethodName)) (z := (⟨"java/lang/String", "length", "()I"⟩ : MethodName)) hown (mvT hZ (hw _ (List.mem_of_getElem? (i := 85) rfl))) (mvT hZ (hw _ (List.mem_of_getElem? (i := 47) rfl))) (notFace_of_selects (args := #[]) (mvT hZ (hw _ (List.mem_of_getElem? (i := 49) rfl)))) (mvT hZ (hw _ (List.mem_of_getElem? (i := 49) rfl))) (mvT hZ (hw _ (List.mem_of_getElem? (i := 48) rfl))) (by decide) (own_lenB (W := 0) hZ hw SS (by decide) (by decide)) q1a q1c (g := (mkF m 1 #[.val (.ref a1), .unset, .unset, .unset, .unset, .unset, .unset, .unset, .unset, .unset, .unset, .unset, .unset, .unset, .unset, .unset, .unset, .unset, .unset, .unset, .unset] [(.ref a1)])) rfl (by rw [hml]; rfl) (Steps.refl _) (argsL := []) (rest := []) (lenOf pd_1 rfl) rfl (by show 2 * 0 + _ ≤ _; exact Nat.le_of_eq rfl) (hb hby d18_1) (fun _ _ => ⟨rfl, e0, (by decide : 0 + 0 ≤ _), (by decide : 0 + 0 ≤ _)⟩)
  dsimp only [Pt.U, Pt.locs, Pt.cells, Pt.slots] at X1 l1 y1 z1 st1 hQ1
  subst l1 y1 z1
  obtain ⟨rfl, rfl, hq1⟩ := hQ1
  have N1q : Fr n0 ([] : List Loc) := Fr.nil n0
  have N1 := Fr.app N0 N1q
  obtain ⟨cq2, kq2, q2a, q2b, q2c⟩ := isOf hZ hq1 hE
  obtain ⟨_, _, ⟨T2, L2, k2, n2⟩, -, X2, ⟨Lc2, hQ2, l2, y2, z2⟩, st2⟩ := X1.virtualBack hx (y := (⟨"java/lang/String", "charAt", "(I)C"⟩ : MethodName)) (z := (⟨"java/lang/String", "charAt", "(I)C"⟩ : MethodName)) hown (mvT hZ (hw _ (List.mem_of_getElem? (i := 86) rfl))) (mvT hZ (hw _ (List.mem_of_getElem? (i := 57) rfl))) (notFace_of_selects (args := #[]) (mvT hZ (hw _ (List.mem_of_getElem? (i := 59) rfl)))) (mvT hZ (hw _ (List.mem_of_getElem? (i := 59) rfl))) (mvT hZ (hw _ (List.mem_of_getElem? (i := 58) rfl))) (by decide) (own_chB (W := 0) (i := 8) hZ hw SS (by decide) rfl (by decide) (by decide)) q2a q2c (g := (mkF m 12 #[.val (.ref a1), .unset, .unset, .unset, .unset, .unset, .unset, .unset, .unset, .unset, .unset, .unset, .unset, .unset, .unset, .unset, .unset, .unset, .unset, .unset, .unset] [(.int (8 : Int32)), (.ref a1)])) rfl (by rw [hml]; rfl) (Steps.refl _) (argsL := [(.int (8 : Int32))]) (rest := []) (lenOf pd_0 rfl) rfl (by show 2 * 0 + _ ≤ _; exact Nat.le_of_eq rfl) (hb hby d18_12) (fun _ _ => ⟨rfl, hq1, (by decide : 0 + 0 ≤ _), (by decide : 0 + 0 ≤ _)⟩)
  dsimp only [Pt.U, Pt.locs, Pt.cells, Pt.slots] at X2 l2 y2 z2 st2 hQ2
  subst l2 y2 z2
  obtain ⟨rfl, rfl, hq2⟩ := hQ2
  have N2q : Fr n0 ([] : List Loc) := Fr.nil n0
  have N2 := Fr.app N1 N2q
  obtain ⟨cq3, kq3, q3a, q3b, q3c⟩ := isOf hZ hq2 hE
  obtain ⟨_, _, ⟨T3, L3, k3, n3⟩, -, X3, ⟨Lc3, hQ3, l3, y3, z3⟩, st3⟩ := X2.virtualBack hx (y := (⟨"java/lang/String", "charAt", "(I)C"⟩ : MethodName)) (z := (⟨"java/lang/String", "charAt", "(I)C"⟩ : MethodName)) hown (mvT hZ (hw _ (List.mem_of_getElem? (i := 86) rfl))) (mvT hZ (hw _ (List.mem_of_getElem? (i := 57) rfl))) (notFace_of_selects (args := #[]) (mvT hZ (hw _ (List.mem_of_getElem? (i := 59) rfl)))) (mvT hZ (hw _ (List.mem_of_getElem? (i := 59) rfl))) (mvT hZ (hw _ (List.mem_of_getElem? (i := 58) rfl))) (by decide) (own_chB (W := 0) (i := 13) hZ hw SS (by decide) rfl (by decide) (by decide)) q3a q3c (g := (mkF m 19 #[.val (.ref a1), .val (.int (cs.getD 8 0)), .unset, .unset, .unset, .unset, .unset, .unset, .unset, .unset, .unset, .unset, .unset, .unset, .unset, .unset, .unset, .unset, .unset, .unset, .unset] [(.int (13 : Int32)), (.ref a1)])) rfl (by rw [hml]; rfl) (Steps.refl _) (argsL := [(.int (13 : Int32))]) (rest := []) (lenOf pd_0 rfl) rfl (by show 2 * 0 + _ ≤ _; exact Nat.le_of_eq rfl) (hb hby d18_19) (fun _ _ => ⟨rfl, hq2, (by decide : 0 + 0 ≤ _), (by decide : 0 + 0 ≤ _)⟩)
  dsimp only [Pt.U, Pt.locs, Pt.cells, Pt.slots] at X3 l3 y3 z3 st3 hQ3
  subst l3 y3 z3
  obtain ⟨rfl, rfl, hq3⟩ := hQ3
  have N3q : Fr n0 ([] : List Loc) := Fr.nil n0
  have N3 := Fr.app N2 N3q
  obtain ⟨cq4, kq4, q4a, q4b, q4c⟩ := isOf hZ hq3 hE
  obtain ⟨_, _, ⟨T4, L4, k4, n4⟩, -, X4, ⟨Lc4, hQ4, l4, y4, z4⟩, st4⟩ := X3.virtualBack hx (y := (⟨"java/lang/String", "charAt", "(I)C"⟩ : MethodName)) (z := (⟨"java/lang/String", "charAt", "(I)C"⟩ : MethodName)) hown (mvT hZ (hw _ (List.mem_of_getElem? (i := 86) rfl))) (mvT hZ (hw _ (List.mem_of_getElem? (i := 57) rfl))) (notFace_of_selects (args := #[]) (mvT hZ (hw _ (List.mem_of_getElem? (i := 59) rfl)))) (mvT hZ (hw _ (List.mem_of_getElem? (i := 59) rfl))) (mvT hZ (hw _ (List.mem_of_getElem? (i := 58) rfl))) (by decide) (own_chB (W := 0) (i := 18) hZ hw SS (by decide) rfl (by decide) (by decide)) q4a q4c (g := (mkF m 26 #[.val (.ref a1), .val (.int (cs.getD 8 0)), .val (.int (cs.getD 13 0)), .unset, .unset, .unset, .unset, .unset, .unset, .unset, .unset, .unset, .unset, .unset, .unset, .unset, .unset, .unset, .unset, .unset, .unset] [(.int (18 : Int32)), (.ref a1)])) rfl (by rw [hml]; rfl) (Steps.refl _) (argsL := [(.int (18 : Int32))]) (rest := []) (lenOf pd_0 rfl) rfl (by show 2 * 0 + _ ≤ _; exact Nat.le_of_eq rfl) (hb hby d18_26) (fun _ _ => ⟨rfl, hq3, (by decide : 0 + 0 ≤ _), (by decide : 0 + 0 ≤ _)⟩)
  dsimp only [Pt.U, Pt.locs, Pt.cells, Pt.slots] at X4 l4 y4 z4 st4 hQ4
  subst l4 y4 z4
  obtain ⟨rfl, rfl, hq4⟩ := hQ4
  have N4q : Fr n0 ([] : List Loc) := Fr.nil n0
  have N4 := Fr.app N3 N4q
  obtain ⟨cq5, kq5, q5a, q5b, q5c⟩ := isOf hZ hq4 hE
  obtain ⟨_, _, ⟨T5, L5, k5, n5⟩, -, X5, ⟨Lc5, hQ5, l5, y5, z5⟩, st5⟩ := X4.virtualBack hx (y := (⟨"java/lang/String", "charAt", "(I)C"⟩ : MethodName)) (z := (⟨"java/lang/String", "charAt", "(I)C"⟩ : MethodName)) hown (mvT hZ (hw _ (List.mem_of_getElem? (i := 86) rfl))) (mvT hZ (hw _ (List.mem_of_getElem? (i := 57) rfl))) (notFace_of_selects (args := #[]) (mvT hZ (hw _ (List.mem_of_getElem? (i := 59) rfl)))) (mvT hZ (hw _ (List.mem_of_getElem? (i := 59) rfl))) (mvT hZ (hw _ (List.mem_of_getElem? (i := 58) rfl))) (by decide) (own_chB (W := 0) (i := 23) hZ hw SS (by decide) rfl (by decide) (by decide)) q5a q5c (g := (mkF m 33 #[.val (.ref a1), .val (.int (cs.getD 8 0)), .val (.int (cs.getD 13 0)), .val (.int (cs.getD 18 0)), .unset, .unset, .unset, .unset, .unset, .unset, .unset, .unset, .unset, .unset, .unset, .unset, .unset, .unset, .unset, .unset, .unset] [(.int (23 : Int32)), (.ref a1)])) rfl (by rw [hml]; rfl) (Steps.refl _) (argsL := [(.int (23 : Int32))]) (rest := []) (lenOf pd_0 rfl) rfl (by show 2 * 0 + _ ≤ _; exact Nat.le_of_eq rfl) (hb hby d18_33) (fun _ _ => ⟨rfl, hq4, (by decide : 0 + 0 ≤ _), (by decide : 0 + 0 ≤ _)⟩)
  dsimp only [Pt.U, Pt.locs, Pt.cells, Pt.slots] at X5 l5 y5 z5 st5 hQ5
  subst l5 y5 z5
  obtain ⟨rfl, rfl, hq5⟩ := hQ5
  have N5q : Fr n0 ([] : List Loc) := Fr.nil n0
  have N5 := Fr.app N4 N5q
  obtain ⟨_, _, ⟨T6, L6, k6, n6⟩, -, X6, ⟨Lc6, hQ6, l6, y6, z6⟩, st6⟩ := Jvm.LawKit.callS X5 hx (y := (⟨"java/util/UUID", "parse4Nibbles", "(Ljava/lang/String;I)J"⟩ : MethodName)) hown (mvT hZ (hw _ (List.mem_of_getElem? (i := 87) rfl))) (mvT hZ (hw _ (List.mem_of_getElem? (i := 88) rfl))) (mvT hZ (hw _ (List.mem_of_getElem? (i := 83) rfl))) (mvT hZ (hw _ (List.mem_of_getElem? (i := 89) rfl))) (by decide) (backOf (W := 0) (rmP4 l Z a0 hw [] a1 (0 : Int32) ay kb cs G1 fm aN cN 0 h0 n0 Z0 SS rfl (by decide) (hh 0 (by decide) (by decide) (by decide) (by decide) (by decide)) (hh 1 (by decide) (by decide) (by decide) (by decide) (by decide)) (hh 2 (by decide) (by decide) (by decide) (by decide) (by decide)) (hh 3 (by decide) (by decide) (by decide) (by decide) (by decide))) hZ (hw _ (List.mem_of_getElem? (i := 89) rfl)) (hw _ (List.mem_of_getElem? (i := 83) rfl)) (by decide) (by decide)) (g := (mkF m 65 #[.val (.ref a1), .val (.int (cs.getD 8 0)), .val (.int (cs.getD 13 0)), .val (.int (cs.getD 18 0)), .val (.int (cs.getD 23 0)), .unset, .unset, .unset, .unset, .unset, .unset, .unset, .unset, .unset, .unset, .unset, .unset, .unset, .unset, .unset, .unset] [(.int (0 : Int32)), (.ref a1)])) rfl (by rw [hml]; rfl) (argsL := [(.ref a1), (.int (0 : Int32))]) (rest := []) (lenOf pd_2 rfl) rfl (by show 2 * 0 + _ ≤ _; exact Nat.le_of_eq rfl) (hb hby d18_65) (fun _ _ => ⟨rfl, hq5, (by decide : 0 + 0 ≤ _), (by decide : 0 + 0 ≤ _)⟩)
  dsimp only [Pt.U, Pt.locs, Pt.cells, Pt.slots] at X6 l6 y6 z6 st6 hQ6
  subst l6 y6 z6
  obtain ⟨rfl, N6q, hq6⟩ := hQ6
  have N6 := Fr.app N5 N6q
  obtain ⟨_, _, ⟨T7, L7, k7, n7⟩, -, X7, ⟨Lc7, hQ7, l7, y7, z7⟩, st7⟩ := Jvm.LawKit.callS X6 hx (y := (⟨"java/util/UUID", "parse4Nibbles", "(Ljava/lang/String;I)J"⟩ : MethodName)) hown (mvT hZ (hw _ (List.mem_of_getElem? (i := 87) rfl))) (mvT hZ (hw _ (List.mem_of_getElem? (i := 88) rfl))) (mvT hZ (hw _ (List.mem_of_getElem? (i := 83) rfl))) (mvT hZ (hw _ (List.mem_of_getElem? (i := 89) rfl))) (by decide) (backOf (W := 0) (rmP4 l Z a0 hw [] a1 (4 : Int32) ay kb cs G1 fm aN cN 4 h0 n0 Z0 SS rfl (by decide) (hh 4 (by decide) (by decide) (by decide) (by decide) (by decide)) (hh 5 (by decide) (by decide) (by decide) (by decide) (by decide)) (hh 6 (by decide) (by decide) (by decide) (by decide) (by decide)) (hh 7 (by decide) (by decide) (by decide) (by decide) (by decide))) hZ (hw _ (List.mem_of_getElem? (i := 89) rfl)) (hw _ (List.mem_of_getElem? (i := 83) rfl)) (by decide) (by decide)) (g := (mkF m 72 #[.val (.ref a1), .val (.int (cs.getD 8 0)), .val (.int (cs.getD 13 0)), .val (.int (cs.getD 18 0)), .val (.int (cs.getD 23 0)), .val (.long (own_q4 cs 0)), .second, .unset, .unset, .unset, .unset, .unset, .unset, .unset, .unset, .unset, .unset, .unset, .unset, .unset, .unset] [(.int (4 : Int32)), (.ref a1)])) rfl (by rw [hml]; rfl) (argsL := [(.ref a1), (.int (4 : Int32))]) (rest := []) (lenOf pd_2 rfl) rfl (by show 2 * 0 + _ ≤ _; exact Nat.le_of_eq rfl) (hb hby d18_72) (fun _ _ => ⟨rfl, hq6, (by decide : 0 + 0 ≤ _), (by decide : 0 + 0 ≤ _)⟩)
  dsimp only [Pt.U, Pt.locs, Pt.cells, Pt.slots] at X7 l7 y7 z7 st7 hQ7
  subst l7 y7 z7
  obtain ⟨rfl, N7q, hq7⟩ := hQ7
  have N7 := Fr.app N6 N7q
  obtain ⟨_, _, ⟨T8, L8, k8, n8⟩, -, X8, ⟨Lc8, hQ8, l8, y8, z8⟩, st8⟩ := Jvm.LawKit.callS X7 hx (y := (⟨"java/util/UUID", "parse4Nibbles", "(Ljava/lang/String;I)J"⟩ : MethodName)) hown (mvT hZ (hw _ (List.mem_of_getElem? (i := 87) rfl))) (mvT hZ (hw _ (List.mem_of_getElem? (i := 88) rfl))) (mvT hZ (hw _ (List.mem_of_getElem? (i := 83) rfl))) (mvT hZ (hw _ (List.mem_of_getElem? (i := 89) rfl))) (by decide) (backOf (W := 0) (rmP4 l Z a0 hw [] a1 (9 : Int32) ay kb cs G1 fm aN cN 9 h0 n0 Z0 SS rfl (by decide) (hh 9 (by decide) (by decide) (by decide) (by decide) (by decide)) (hh 10 (by decide) (by decide) (by decide) (by decide) (by decide)) (hh 11 (by decide) (by decide) (by decide) (by decide) (by decide)) (hh 12 (by decide) (by decide) (by decide) (by decide) (by decide))) hZ (hw _ (List.mem_of_getElem? (i := 89) rfl)) (hw _ (List.mem_of_getElem? (i := 83) rfl)) (by decide) (by decide)) (g := (mkF m 80 #[.val (.ref a1), .val (.int (cs.getD 8 0)), .val (.int (cs.getD 13 0)), .val (.int (cs.getD 18 0)), .val (.int (cs.getD 23 0)), .val (.long (own_q4 cs 0)), .second, .val (.long (own_q4 cs 4)), .second, .unset, .unset, .unset, .unset, .unset, .unset, .unset, .unset, .unset, .unset, .unset, .unset] [(.int (9 : Int32)), (.ref a1)])) rfl (by rw [hml]; rfl) (argsL := [(.ref a1), (.int (9 : Int32))]) (rest := []) (lenOf pd_2 rfl) rfl (by show 2 * 0 + _ ≤ _; exact Nat.le_of_eq rfl) (hb hby d18_80) (fun _ _ => ⟨rfl, hq7, (by decide : 0 + 0 ≤ _), (by decide : 0 + 0 ≤ _)⟩)
  dsimp only [Pt.U, Pt.locs, Pt.cells, Pt.slots] at X8 l8 y8 z8 st8 hQ8
  subst l8 y8 z8
  obtain ⟨rfl, N8q, hq8⟩ := hQ8
  have N8 := Fr.app N7 N8q
  obtain ⟨_, _, ⟨T9, L9, k9, n9⟩, -, X9, ⟨Lc9, hQ9, l9, y9, z9⟩, st9⟩ := Jvm.LawKit.callS X8 hx (y := (⟨"java/util/UUID", "parse4Nibbles", "(Ljava/lang/String;I)J"⟩ : MethodName)) hown (mvT hZ (hw _ (List.mem_of_getElem? (i := 87) rfl))) (mvT hZ (hw _ (List.mem_of_getElem? (i := 88) rfl))) (mvT hZ (hw _ (List.mem_of_getElem? (i := 83) rfl))) (mvT hZ (hw _ (List.mem_of_getElem? (i := 89) rfl))) (by decide) (backOf (W := 0) (rmP4 l Z a0 hw [] a1 (14 : Int32) ay kb cs G1 fm aN cN 14 h0 n0 Z0 SS rfl (by decide) (hh 14 (by decide) (by decide) (by decide) (by decide) (by decide)) (hh 15 (by decide) (by decide) (by decide) (by decide) (by decide)) (hh 16 (by decide) (by decide) (by decide) (by decide) (by decide)) (hh 17 (by decide) (by decide) (by decide) (by decide) (by decide))) hZ (hw _ (List.mem_of_getElem? (i := 89) rfl)) (hw _ (List.mem_of_getElem? (i := 83) rfl)) (by decide) (by decide)) (g := (mkF m 88 #[.val (.ref a1), .val (.int (cs.getD 8 0)), .val (.int (cs.getD 13 0)), .val (.int (cs.getD 18 0)), .val (.int (cs.getD 23 0)), .val (.long (own_q4 cs 0)), .second, .val (.long (own_q4 cs 4)), .second, .val (.long (own_q4 cs 9)), .second, .unset, .unset, .unset, .unset, .unset, .unset, .unset, .unset, .unset, .unset] [(.int (14 : Int32)), (.ref a1)])) rfl (by rw [hml]; rfl) (argsL := [(.ref a1), (.int (14 : Int32))]) (rest := []) (lenOf pd_2 rfl) rfl (by show 2 * 0 + _ ≤ _; exact Nat.le_of_eq rfl) (hb hby d18_88) (fun _ _ => ⟨rfl, hq8, (by decide : 0 + 0 ≤ _), (by decide : 0 + 0 ≤ _)⟩)
  dsimp only [Pt.U, Pt.locs, Pt.cells, Pt.slots] at X9 l9 y9 z9 st9 hQ9
  subst l9 y9 z9
  obtain ⟨rfl, N9q, hq9⟩ := hQ9
  have N9 := Fr.app N8 N9q
  obtain ⟨_, _, ⟨T10, L10, k10, n10⟩, -, X10, ⟨Lc10, hQ10, l10, y10, z10⟩, st10⟩ := Jvm.LawKit.callS X9 hx (y := (⟨"java/util/UUID", "parse4Nibbles", "(Ljava/lang/String;I)J"⟩ : MethodName)) hown (mvT hZ (hw _ (List.mem_of_getElem? (i := 87) rfl))) (mvT hZ (hw _ (List.mem_of_getElem? (i := 88) rfl))) (mvT hZ (hw _ (List.mem_of_getElem? (i := 83) rfl))) (mvT hZ (hw _ (List.mem_of_getElem? (i := 89) rfl))) (by decide) (backOf (W := 0) (rmP4 l Z a0 hw [] a1 (19 : Int32) ay kb cs G1 fm aN cN 19 h0 n0 Z0 SS rfl (by decide) (hh 19 (by decide) (by decide) (by decide) (by decide) (by decide)) (hh 20 (by decide) (by decide) (by decide) (by decide) (by decide)) (hh 21 (by decide) (by decide) (by decide) (by decide) (by decide)) (hh 22 (by decide) (by decide) (by decide) (by decide) (by decide))) hZ (hw _ (List.mem_of_getElem? (i := 89) rfl)) (hw _ (List.mem_of_getElem? (i := 83) rfl)) (by decide) (by decide)) (g := (mkF m 96 #[.val (.ref a1), .val (.int (cs.getD 8 0)), .val (.int (cs.getD 13 0)), .val (.int (cs.getD 18 0)), .val (.int (cs.getD 23 0)), .val (.long (own_q4 cs 0)), .second, .val (.long (own_q4 cs 4)), .second, .val (.long (own_q4 cs 9)), .second, .val (.long (own_q4 cs 14)), .second, .unset, .unset, .unset, .unset, .unset, .unset, .unset, .unset] [(.int (19 : Int32)), (.ref a1)])) rfl (by rw [hml]; rfl) (argsL := [(.ref a1), (.int (19 : Int32))]) (rest := []) (lenOf pd_2 rfl) rfl (by show 2 * 0 + _ ≤ _; exact Nat.le_of_eq rfl) (hb hby d18_96) (fun _ _ => ⟨rfl, hq9, (by decide : 0 + 0 ≤ _), (by decide : 0 + 0 ≤ _)⟩)
  dsimp only [Pt.U, Pt.locs, Pt.cells, Pt.slots] at X10 l10 y10 z10 st10 hQ10
  subst l10 y10 z10
  obtain ⟨rfl, N10q, hq10⟩ := hQ10
  have N10 := Fr.app N9 N10q
  obtain ⟨_, _, ⟨T11, L11, k11, n11⟩, -, X11, ⟨Lc11, hQ11, l11, y11, z11⟩, st11⟩ := Jvm.LawKit.callS X10 hx (y := (⟨"java/util/UUID", "parse4Nibbles", "(Ljava/lang/String;I)J"⟩ : MethodName)) hown (mvT hZ (hw _ (List.mem_of_getElem? (i := 87) rfl))) (mvT hZ (hw _ (List.mem_of_getElem? (i := 88) rfl))) (mvT hZ (hw _ (List.mem_of_getElem? (i := 83) rfl))) (mvT hZ (hw _ (List.mem_of_getElem? (i := 89) rfl))) (by decide) (backOf (W := 0) (rmP4 l Z a0 hw [] a1 (24 : Int32) ay kb cs G1 fm aN cN 24 h0 n0 Z0 SS rfl (by decide) (hh 24 (by decide) (by decide) (by decide) (by decide) (by decide)) (hh 25 (by decide) (by decide) (by decide) (by decide) (by decide)) (hh 26 (by decide) (by decide) (by decide) (by decide) (by decide)) (hh 27 (by decide) (by decide) (by decide) (by decide) (by decide))) hZ (hw _ (List.mem_of_getElem? (i := 89) rfl)) (hw _ (List.mem_of_getElem? (i := 83) rfl)) (by decide) (by decide)) (g := (mkF m 104 #[.val (.ref a1), .val (.int (cs.getD 8 0)), .val (.int (cs.getD 13 0)), .val (.int (cs.getD 18 0)), .val (.int (cs.getD 23 0)), .val (.long (own_q4 cs 0)), .second, .val (.long (own_q4 cs 4)), .second, .val (.long (own_q4 cs 9)), .second, .val (.long (own_q4 cs 14)), .second, .val (.long (own_q4 cs 19)), .second, .unset, .unset, .unset, .unset, .unset, .unset] [(.int (24 : Int32)), (.ref a1)])) rfl (by rw [hml]; rfl) (argsL := [(.ref a1), (.int (24 : Int32))]) (rest := []) (lenOf pd_2 rfl) rfl (by show 2 * 0 + _ ≤ _; exact Nat.le_of_eq rfl) (hb hby d18_104) (fun _ _ => ⟨rfl, hq10, (by decide : 0 + 0 ≤ _), (by decide : 0 + 0 ≤ _)⟩)
  dsimp only [Pt.U, Pt.locs, Pt.cells, Pt.slots] at X11 l11 y11 z11 st11 hQ11
  subst l11 y11 z11
  obtain ⟨rfl, N11q, hq11⟩ := hQ11
  have N11 := Fr.app N10 N11q
  obtain ⟨_, _, ⟨T12, L12, k12, n12⟩, -, X12, ⟨Lc12, hQ12, l12, y12, z12⟩, st12⟩ := Jvm.LawKit.callS X11 hx (y := (⟨"java/util/UUID", "parse4Nibbles", "(Ljava/lang/String;I)J"⟩ : MethodName)) hown (mvT hZ (hw _ (List.mem_of_getElem? (i := 87) rfl))) (mvT hZ (hw _ (List.mem_of_getElem? (i := 88) rfl))) (mvT hZ (hw _ (List.mem_of_getElem? (i := 83) rfl))) (mvT hZ (hw _ (List.mem_of_getElem? (i := 89) rfl))) (by decide) (backOf (W := 0) (rmP4 l Z a0 hw [] a1 (28 : Int32) ay kb cs G1 fm aN cN 28 h0 n0 Z0 SS rfl (by decide) (hh 28 (by decide) (by decide) (by decide) (by decide) (by decide)) (hh 29 (by decide) (by decide) (by decide) (by decide) (by decide)) (hh 30 (by decide) (by decide) (by decide) (by decide) (by decide)) (hh 31 (by decide) (by decide) (by decide) (by decide) (by decide))) hZ (hw _ (List.mem_of_getElem? (i := 89) rfl)) (hw _ (List.mem_of_getElem? (i := 83) rfl)) (by decide) (by decide)) (g := (mkF m 112 #[.val (.ref a1), .val (.int (cs.getD 8 0)), .val (.int (cs.getD 13 0)), .val (.int (cs.getD 18 0)), .val (.int (cs.getD 23 0)), .val (.long (own_q4 cs 0)), .second, .val (.long (own_q4 cs 4)), .second, .val (.long (own_q4 cs 9)), .second, .val (.long (own_q4 cs 14)), .second, .val (.long (own_q4 cs 19)), .second, .val (.long (own_q4 cs 24)), .second, .unset, .unset, .unset, .unset] [(.int (28 : Int32)), (.ref a1)])) rfl (by rw [hml]; rfl) (argsL := [(.ref a1), (.int (28 : Int32))]) (rest := []) (lenOf pd_2 rfl) rfl (by show 2 * 0 + _ ≤ _; exact Nat.le_of_eq rfl) (hb hby d18_112) (fun _ _ => ⟨rfl, hq11, (by decide : 0 + 0 ≤ _), (by decide : 0 + 0 ≤ _)⟩)
  dsimp only [Pt.U, Pt.locs, Pt.cells, Pt.slots] at X12 l12 y12 z12 st12 hQ12
  subst l12 y12 z12
  obtain ⟨rfl, N12q, hq12⟩ := hQ12
  have N12 := Fr.app N11 N12q
  obtain ⟨_, _, ⟨T13, L13, k13, n13⟩, -, X13, ⟨Lc13, hQ13, l13, y13, z13⟩, st13⟩ := Jvm.LawKit.callS X12 hx (y := (⟨"java/util/UUID", "parse4Nibbles", "(Ljava/lang/String;I)J"⟩ : MethodName)) hown (mvT hZ (hw _ (List.mem_of_getElem? (i := 87) rfl))) (mvT hZ (hw _ (List.mem_of_getElem? (i := 88) rfl))) (mvT hZ (hw _ (List.mem_of_getElem? (i := 83) rfl))) (mvT hZ (hw _ (List.mem_of_getElem? (i := 89) rfl))) (by decide) (backOf (W := 0) (rmP4 l Z a0 hw [] a1 (32 : Int32) ay kb cs G1 fm aN cN 32 h0 n0 Z0 SS rfl (by decide) (hh 32 (by decide) (by decide) (by decide) (by decide) (by decide)) (hh 33 (by decide) (by decide) (by decide) (by decide) (by decide)) (hh 34 (by decide) (by decide) (by decide) (by decide) (by decide)) (hh 35 (by decide) (by decide) (by decide) (by decide) (by decide))) hZ (hw _ (List.mem_of_getElem? (i := 89) rfl)) (hw _ (List.mem_of_getElem? (i := 83) rfl)) (by decide) (by decide)) (g := (mkF m 120 #[.val (.ref a1), .val (.int (cs.getD 8 0)), .val (.int (cs.getD 13 0)), .val (.int (cs.getD 18 0)), .val (.int (cs.getD 23 0)), .val (.long (own_q4 cs 0)), .second, .val (.long (own_q4 cs 4)), .second, .val (.long (own_q4 cs 9)), .second, .val (.long (own_q4 cs 14)), .second, .val (.long (own_q4 cs 19)), .second, .val (.long (own_q4 cs 24)), .second, .val (.long (own_q4 cs 28)), .second, .unset, .unset] [(.int (32 : Int32)), (.ref a1)])) rfl (by rw [hml]; rfl) (argsL := [(.ref a1), (.int (32 : Int32))]) (rest := []) (lenOf pd_2 rfl) rfl (by show 2 * 0 + _ ≤ _; exact Nat.le_of_eq rfl) (hb hby d18_120) (fun _ _ => ⟨rfl, hq12, (by decide : 0 + 0 ≤ _), (by decide : 0 + 0 ≤ _)⟩)
  dsimp only [Pt.U, Pt.locs, Pt.cells, Pt.slots] at X13 l13 y13 z13 st13 hQ13
  subst l13 y13 z13
  obtain ⟨rfl, N13q, hq13⟩ := hQ13
  have N13 := Fr.app N12 N13q
  obtain ⟨T14, h14, X14, e14, E14, A14, D14, -, st14⟩ := newO X13 hx hZ hown (hw _ (List.mem_of_getElem? (i := 91) rfl)) (hw _ (List.mem_of_getElem? (i := 92) rfl)) (hw _ (List.mem_of_getElem? (i := 83) rfl)) hq13 (g := (mkF m 153 #[.val (.ref a1), .val (.int (cs.getD 8 0)), .val (.int (cs.getD 13 0)), .val (.int (cs.getD 18 0)), .val (.int (cs.getD 23 0)), .val (.long (own_q4 cs 0)), .second, .val (.long (own_q4 cs 4)), .second, .val (.long (own_q4 cs 9)), .second, .val (.long (own_q4 cs 14)), .second, .val (.long (own_q4 cs 19)), .second, .val (.long (own_q4 cs 24)), .second, .val (.long (own_q4 cs 28)), .second, .val (.long (own_q4 cs 32)), .second] [])) rfl (hb hby d18_153) (by decide) (by decide)
  obtain ⟨b14, g14⟩ : ∃ z, z = h0.size := ⟨_, rfl⟩
  rw [← g14] at A14 D14 st14
  have ne_a1_b14 : a1 ≠ b14 := Nat.ne_of_lt (Nat.lt_of_lt_of_le hE.lt (Nat.le_of_eq g14.symm))
  have F14_mostSigBits : Fld Z h14 b14 "java/util/UUID" "mostSigBits" "J" (.long (0 : Int64)) := D14 (Or.inr (hw _ (List.mem_of_getElem? (i := 99) rfl))) (ty := .long) (by decide)
  have F14_leastSigBits : Fld Z h14 b14 "java/util/UUID" "leastSigBits" "J" (.long (0 : Int64)) := D14 (Or.inr (hw _ (List.mem_of_getElem? (i := 101) rfl))) (ty := .long) (by decide)
  have g_b14 : n0 ≤ b14 := Nat.le_trans Z0 (Nat.le_of_eq g14.symm)
  have sz_b14 : h0.size ≤ b14 := (Nat.le_trans (Keep.refl h0 []).1 (Nat.le_of_eq g14.symm))
  have K14 : Keep h0 h14 [] := (Keep.refl h0 []).ext E14
  obtain ⟨_, _, ⟨T15, L15, k15, n15⟩, -, X15, ⟨Lc15, hQ15, l15, y15, z15⟩, st15⟩ := X14.specialBack hx (y := (⟨"java/util/UUID", "<init>", "(JJ)V"⟩ : MethodName)) rfl hown (mvT hZ (hw _ (List.mem_of_getElem? (i := 93) rfl))) (mvT hZ (hw _ (List.mem_of_getElem? (i := 94) rfl))) (mvT hZ (hw _ (List.mem_of_getElem? (i := 96) rfl))) (by decide) (backOf (W := 1) (rmU l Z a0 hw [] b14 (((((own_q4 cs 0) <<< ((48 : Int32) &&& 0x3f).toInt64) ||| ((own_q4 cs 4) <<< ((32 : Int32) &&& 0x3f).toInt64)) ||| ((own_q4 cs 9) <<< ((16 : Int32) &&& 0x3f).toInt64)) ||| (own_q4 cs 14)) (((((own_q4 cs 19) <<< ((48 : Int32) &&& 0x3f).toInt64) ||| ((own_q4 cs 24) <<< ((32 : Int32) &&& 0x3f).toInt64)) ||| ((own_q4 cs 28) <<< ((16 : Int32) &&& 0x3f).toInt64)) ||| (own_q4 cs 32))  h14 n0 (Nat.le_trans Z0 E14.1) F14_mostSigBits F14_leastSigBits A14 g_b14) hZ (hw _ (List.mem_of_getElem? (i := 96) rfl)) (hw _ (List.mem_of_getElem? (i := 83) rfl)) (by decide) (by decide)) (g := (mkF m 197 #[.val (.ref a1), .val (.int (cs.getD 8 0)), .val (.int (cs.getD 13 0)), .val (.int (cs.getD 18 0)), .val (.int (cs.getD 23 0)), .val (.long (own_q4 cs 0)), .second, .val (.long (own_q4 cs 4)), .second, .val (.long (own_q4 cs 9)), .second, .val (.long (own_q4 cs 14)), .second, .val (.long (own_q4 cs 19)), .second, .val (.long (own_q4 cs 24)), .second, .val (.long (own_q4 cs 28)), .second, .val (.long (own_q4 cs 32)), .second] [(.long (((((own_q4 cs 19) <<< ((48 : Int32) &&& 0x3f).toInt64) ||| ((own_q4 cs 24) <<< ((32 : Int32) &&& 0x3f).toInt64)) ||| ((own_q4 cs 28) <<< ((16 : Int32) &&& 0x3f).toInt64)) ||| (own_q4 cs 32))), (.long (((((own_q4 cs 0) <<< ((48 : Int32) &&& 0x3f).toInt64) ||| ((own_q4 cs 4) <<< ((32 : Int32) &&& 0x3f).toInt64)) ||| ((own_q4 cs 9) <<< ((16 : Int32) &&& 0x3f).toInt64)) ||| (own_q4 cs 14))), (.ref b14), (.ref b14)])) rfl (by rw [hml]; rfl) (Steps.refl _) (a := b14) (argsL := [(.long (((((own_q4 cs 0) <<< ((48 : Int32) &&& 0x3f).toInt64) ||| ((own_q4 cs 4) <<< ((32 : Int32) &&& 0x3f).toInt64)) ||| ((own_q4 cs 9) <<< ((16 : Int32) &&& 0x3f).toInt64)) ||| (own_q4 cs 14))), (.long (((((own_q4 cs 19) <<< ((48 : Int32) &&& 0x3f).toInt64) ||| ((own_q4 cs 24) <<< ((32 : Int32) &&& 0x3f).toInt64)) ||| ((own_q4 cs 28) <<< ((16 : Int32) &&& 0x3f).toInt64)) ||| (own_q4 cs 32)))]) (rest := [(.ref b14)]) (lenOf pd_3 rfl) rfl (by show 2 * 0 + _ ≤ _; exact Nat.le_of_eq rfl) (hb hby d18_197) (fun _ _ => ⟨rfl, e14, (by decide : 1 + 0 ≤ _), (by decide : 2 + 0 ≤ _)⟩)
  dsimp only [Pt.U, Pt.locs, Pt.cells, Pt.slots] at X15 l15 y15 z15 st15 hQ15
  subst l15 y15 z15
  obtain ⟨rfl, N15q, Kq15, Eq15, F1q15, F2q15⟩ := hQ15
  have N15 := Fr.app N13 N15q
  have K15 : Keep h0 T15.heap [] := K14.trans Kq15 (allS (Or.inr sz_b14) all0)
  have pre16 : ∀ t, Steps p.tables e below (T15.setTop (mkF m 200 #[.val (.ref a1), .val (.int (cs.getD 8 0)), .val (.int (cs.getD 13 0)), .val (.int (cs.getD 18 0)), .val (.int (cs.getD 23 0)), .val (.long (own_q4 cs 0)), .second, .val (.long (own_q4 cs 4)), .second, .val (.long (own_q4 cs 9)), .second, .val (.long (own_q4 cs 14)), .second, .val (.long (own_q4 cs 19)), .second, .val (.long (own_q4 cs 24)), .second, .val (.long (own_q4 cs 28)), .second, .val (.long (own_q4 cs 32)), .second] [(.ref b14)])) t → Steps p.tables e below (s₁.setTop (entryFrame m #[(.ref a1)] 21)) t := by
    intro t k
    refine pre0 t ?_
    refine XS.aloadN X0.here hx rfl (hb hby d18_0) rfl (rfl) ?_
    refine st1.trans ?_
    refine XS.bipush X1.here hx rfl (hb hby d18_4) ?_
    refine XS.icmpNo X1.here hx rfl (hb hby d18_6) rfl (teq (by decide : (36 : Int32) = (36 : Int32))).2 ?_
    refine XS.aloadN X1.here hx rfl (hb hby d18_9) rfl (rfl) ?_
    show Steps p.tables e below (T1.setTop (mkF m 10 #[.val (.ref a1), .unset, .unset, .unset, .unset, .unset, .unset, .unset, .unset, .unset, .unset, .unset, .unset, .unset, .unset, .unset, .unset, .unset, .unset, .unset, .unset] [(.ref a1)])) _
    refine XS.bipush X1.here hx rfl (hb hby d18_10) ?_
    refine st2.trans ?_
    refine XS.istoreN X2.here hx rfl (hb hby d18_15) rfl (l' := #[.val (.ref a1), .val (.int (cs.getD 8 0)), .unset, .unset, .unset, .unset, .unset, .unset, .unset, .unset, .unset, .unset, .unset, .unset, .unset, .unset, .unset, .unset, .unset, .unset, .unset]) rfl ?_
    refine XS.aloadN X2.here hx rfl (hb hby d18_16) rfl (rfl) ?_
    refine XS.bipush X2.here hx rfl (hb hby d18_17) ?_
    refine st3.trans ?_
    show Steps p.tables e below (T3.setTop (mkF m 22 #[.val (.ref a1), .val (.int (cs.getD 8 0)), .unset, .unset, .unset, .unset, .unset, .unset, .unset, .unset, .unset, .unset, .unset, .unset, .unset, .unset, .unset, .unset, .unset, .unset, .unset] [(.int (cs.getD 13 0))])) _
    refine XS.istoreN X3.here hx rfl (hb hby d18_22) rfl (l' := #[.val (.ref a1), .val (.int (cs.getD 8 0)), .val (.int (cs.getD 13 0)), .unset, .unset, .unset, .unset, .unset, .unset, .unset, .unset, .unset, .unset, .unset, .unset, .unset, .unset, .unset, .unset, .unset, .unset]) rfl ?_
    refine XS.aloadN X3.here hx rfl (hb hby d18_23) rfl (rfl) ?_
    refine XS.bipush X3.here hx rfl (hb hby d18_24) ?_
    refine st4.trans ?_
    refine XS.istoreN X4.here hx rfl (hb hby d18_29) rfl (l' := #[.val (.ref a1), .val (.int (cs.getD 8 0)), .val (.int (cs.getD 13 0)), .val (.int (cs.getD 18 0)), .unset, .unset, .unset, .unset, .unset, .unset, .unset, .unset, .unset, .unset, .unset, .unset, .unset, .unset, .unset, .unset, .unset]) rfl ?_
    refine XS.aloadN X4.here hx rfl (hb hby d18_30) rfl (rfl) ?_
    show Steps p.tables e below (T4.setTop (mkF m 31 #[.val (.ref a1), .val (.int (cs.getD 8 0)), .val (.int (cs.getD 13 0)), .val (.int (cs.getD 18 0)), .unset, .unset, .unset, .unset, .unset, .unset, .unset, .unset, .unset, .unset, .unset, .unset, .unset, .unset, .unset, .unset, .unset] [(.ref a1)])) _
    refine XS.bipush X4.here hx rfl (hb hby d18_31) ?_
    refine st5.trans ?_
    refine XS.istore X5.here hx rfl (hb hby d18_36) rfl (l' := #[.val (.ref a1), .val (.int (cs.getD 8 0)), .val (.int (cs.getD 13 0)), .val (.int (cs.getD 18 0)), .val (.int (cs.getD 23 0)), .unset, .unset, .unset, .unset, .unset, .unset, .unset, .unset, .unset, .unset, .unset, .unset, .unset, .unset, .unset, .unset]) rfl ?_
    refine XS.iloadN X5.here hx rfl (hb hby d18_38) rfl ?_
    refine XS.bipush X5.here hx rfl (hb hby d18_39) ?_
    refine XS.icmpNo X5.here hx rfl (hb hby d18_41) rfl (teq dx8).2 ?_
    show Steps p.tables e below (T5.setTop (mkF m 44 #[.val (.ref a1), .val (.int (cs.getD 8 0)), .val (.int (cs.getD 13 0)), .val (.int (cs.getD 18 0)), .val (.int (cs.getD 23 0)), .unset, .unset, .unset, .unset, .unset, .unset, .unset, .unset, .unset, .unset, .unset, .unset, .unset, .unset, .unset, .unset] [])) _
    refine XS.iloadN X5.here hx rfl (hb hby d18_44) rfl ?_
    refine XS.bipush X5.here hx rfl (hb hby d18_45) ?_
    refine XS.icmpNo X5.here hx rfl (hb hby d18_47) rfl (teq dx13).2 ?_
    refine XS.iloadN X5.here hx rfl (hb hby d18_50) rfl ?_
    refine XS.bipush X5.here hx rfl (hb hby d18_51) ?_
    refine XS.icmpNo X5.here hx rfl (hb hby d18_53) rfl (teq dx18).2 ?_
    show Steps p.tables e below (T5.setTop (mkF m 56 #[.val (.ref a1), .val (.int (cs.getD 8 0)), .val (.int (cs.getD 13 0)), .val (.int (cs.getD 18 0)), .val (.int (cs.getD 23 0)), .unset, .unset, .unset, .unset, .unset, .unset, .unset, .unset, .unset, .unset, .unset, .unset, .unset, .unset, .unset, .unset] [])) _
    refine XS.iload X5.here hx rfl (hb hby d18_56) rfl ?_
    refine XS.bipush X5.here hx rfl (hb hby d18_58) ?_
    refine XS.icmpNo X5.here hx rfl (hb hby d18_60) rfl (teq dx23).2 ?_
    refine XS.aloadN X5.here hx rfl (hb hby d18_63) rfl (rfl) ?_
    refine XS.iconst X5.here hx rfl (hb hby d18_64) ?_
    refine st6 _ ?_
    show Steps p.tables e below (T6.setTop (mkF m 68 #[.val (.ref a1), .val (.int (cs.getD 8 0)), .val (.int (cs.getD 13 0)), .val (.int (cs.getD 18 0)), .val (.int (cs.getD 23 0)), .unset, .unset, .unset, .unset, .unset, .unset, .unset, .unset, .unset, .unset, .unset, .unset, .unset, .unset, .unset, .unset] [(.long (own_q4 cs 0))])) _
    refine XS.lstore X6.here hx rfl (hb hby d18_68) rfl (l' := #[.val (.ref a1), .val (.int (cs.getD 8 0)), .val (.int (cs.getD 13 0)), .val (.int (cs.getD 18 0)), .val (.int (cs.getD 23 0)), .val (.long (own_q4 cs 0)), .second, .unset, .unset, .unset, .unset, .unset, .unset, .unset, .unset, .unset, .unset, .unset, .unset, .unset, .unset]) rfl ?_
    refine XS.aloadN X6.here hx rfl (hb hby d18_70) rfl (rfl) ?_
    refine XS.iconst X6.here hx rfl (hb hby d18_71) ?_
    refine st7 _ ?_
    refine XS.lstore X7.here hx rfl (hb hby d18_75) rfl (l' := #[.val (.ref a1), .val (.int (cs.getD 8 0)), .val (.int (cs.getD 13 0)), .val (.int (cs.getD 18 0)), .val (.int (cs.getD 23 0)), .val (.long (own_q4 cs 0)), .second, .val (.long (own_q4 cs 4)), .second, .unset, .unset, .unset, .unset, .unset, .unset, .unset, .unset, .unset, .unset, .unset, .unset]) rfl ?_
    refine XS.aloadN X7.here hx rfl (hb hby d18_77) rfl (rfl) ?_
    show Steps p.tables e below (T7.setTop (mkF m 78 #[.val (.ref a1), .val (.int (cs.getD 8 0)), .val (.int (cs.getD 13 0)), .val (.int (cs.getD 18 0)), .val (.int (cs.getD 23 0)), .val (.long (own_q4 cs 0)), .second, .val (.long (own_q4 cs 4)), .second, .unset, .unset, .unset, .unset, .unset, .unset, .unset, .unset, .unset, .unset, .unset, .unset] [(.ref a1)])) _
    refine XS.bipush X7.here hx rfl (hb hby d18_78) ?_
    refine st8 _ ?_
    refine XS.lstore X8.here hx rfl (hb hby d18_83) rfl (l' := #[.val (.ref a1), .val (.int (cs.getD 8 0)), .val (.int (cs.getD 13 0)), .val (.int (cs.getD 18 0)), .val (.int (cs.getD 23 0)), .val (.long (own_q4 cs 0)), .second, .val (.long (own_q4 cs 4)), .second, .val (.long (own_q4 cs 9)), .second, .unset, .unset, .unset, .unset, .unset, .unset, .unset, .unset, .unset, .unset]) rfl ?_
    refine XS.aloadN X8.here hx rfl (hb hby d18_85) rfl (rfl) ?_
    refine XS.bipush X8.here hx rfl (hb hby d18_86) ?_
    refine st9 _ ?_
    show Steps p.tables e below (T9.setTop (mkF m 91 #[.val (.ref a1), .val (.int (cs.getD 8 0)), .val (.int (cs.getD 13 0)), .val (.int (cs.getD 18 0)), .val (.int (cs.getD 23 0)), .val (.long (own_q4 cs 0)), .second, .val (.long (own_q4 cs 4)), .second, .val (.long (own_q4 cs 9)), .second, .unset, .unset, .unset, .unset, .unset, .unset, .unset, .unset, .unset, .unset] [(.long (own_q4 cs 14))])) _
    refine XS.lstore X9.here hx rfl (hb hby d18_91) rfl (l' := #[.val (.ref a1), .val (.int (cs.getD 8 0)), .val (.int (cs.getD 13 0)), .val (.int (cs.getD 18 0)), .val (.int (cs.getD 23 0)), .val (.long (own_q4 cs 0)), .second, .val (.long (own_q4 cs 4)), .second, .val (.long (own_q4 cs 9)), .second, .val (.long (own_q4 cs 14)), .second, .unset, .unset, .unset, .unset, .unset, .unset, .unset, .unset]) rfl ?_
    refine XS.aloadN X9.here hx rfl (hb hby d18_93) rfl (rfl) ?_
    refine XS.bipush X9.here hx rfl (hb hby d18_94) ?_
    refine st10 _ ?_
    refine XS.lstore X10.here hx rfl (hb hby d18_99) rfl (l' := #[.val (.ref a1), .val (.int (cs.getD 8 0)), .val (.int (cs.getD 13 0)), .val (.int (cs.getD 18 0)), .val (.int (cs.getD 23 0)), .val (.long (own_q4 cs 0)), .second, .val (.long (own_q4 cs 4)), .second, .val (.long (own_q4 cs 9)), .second, .val (.long (own_q4 cs 14)), .second, .val (.long (own_q4 cs 19)), .second, .unset, .unset, .unset, .unset, .unset, .unset]) rfl ?_
    refine XS.aloadN X10.here hx rfl (hb hby d18_101) rfl (rfl) ?_
    show Steps p.tables e below (T10.setTop (mkF m 102 #[.val (.ref a1), .val (.int (cs.getD 8 0)), .val (.int (cs.getD 13 0)), .val (.int (cs.getD 18 0)), .val (.int (cs.getD 23 0)), .val (.long (own_q4 cs 0)), .second, .val (.long (own_q4 cs 4)), .second, .val (.long (own_q4 cs 9)), .second, .val (.long (own_q4 cs 14)), .second, .val (.long (own_q4 cs 19)), .second, .unset, .unset, .unset, .unset, .unset, .unset] [(.ref a1)])) _
    refine XS.bipush X10.here hx rfl (hb hby d18_102) ?_
    refine st11 _ ?_
    refine XS.lstore X11.here hx rfl (hb hby d18_107) rfl (l' := #[.val (.ref a1), .val (.int (cs.getD 8 0)), .val (.int (cs.getD 13 0)), .val (.int (cs.getD 18 0)), .val (.int (cs.getD 23 0)), .val (.long (own_q4 cs 0)), .second, .val (.long (own_q4 cs 4)), .second, .val (.long (own_q4 cs 9)), .second, .val (.long (own_q4 cs 14)), .second, .val (.long (own_q4 cs 19)), .second, .val (.long (own_q4 cs 24)), .second, .unset, .unset, .unset, .unset]) rfl ?_
    refine XS.aloadN X11.here hx rfl (hb hby d18_109) rfl (rfl) ?_
    refine XS.bipush X11.here hx rfl (hb hby d18_110) ?_
    refine st12 _ ?_
    show Steps p.tables e below (T12.setTop (mkF m 115 #[.val (.ref a1), .val (.int (cs.getD 8 0)), .val (.int (cs.getD 13 0)), .val (.int (cs.getD 18 0)), .val (.int (cs.getD 23 0)), .val (.long (own_q4 cs 0)), .second, .val (.long (own_q4 cs 4)), .second, .val (.long (own_q4 cs 9)), .second, .val (.long (own_q4 cs 14)), .second, .val (.long (own_q4 cs 19)), .second, .val (.long (own_q4 cs 24)), .second, .unset, .unset, .unset, .unset] [(.long (own_q4 cs 28))])) _
    refine XS.lstore X12.here hx rfl (hb hby d18_115) rfl (l' := #[.val (.ref a1), .val (.int (cs.getD 8 0)), .val (.int (cs.getD 13 0)), .val (.int (cs.getD 18 0)), .val (.int (cs.getD 23 0)), .val (.long (own_q4 cs 0)), .second, .val (.long (own_q4 cs 4)), .second, .val (.long (own_q4 cs 9)), .second, .val (.long (own_q4 cs 14)), .second, .val (.long (own_q4 cs 19)), .second, .val (.long (own_q4 cs 24)), .second, .val (.long (own_q4 cs 28)), .second, .unset, .unset]) rfl ?_
    refine XS.aloadN X12.here hx rfl (hb hby d18_117) rfl (rfl) ?_
    refine XS.bipush X12.here hx rfl (hb hby d18_118) ?_
    refine st13 _ ?_
    refine XS.lstore X13.here hx rfl (hb hby d18_123) rfl (l' := #[.val (.ref a1), .val (.int (cs.getD 8 0)), .val (.int (cs.getD 13 0)), .val (.int (cs.getD 18 0)), .val (.int (cs.getD 23 0)), .val (.long (own_q4 cs 0)), .second, .val (.long (own_q4 cs 4)), .second, .val (.long (own_q4 cs 9)), .second, .val (.long (own_q4 cs 14)), .second, .val (.long (own_q4 cs 19)), .second, .val (.long (own_q4 cs 24)), .second, .val (.long (own_q4 cs 28)), .second, .val (.long (own_q4 cs 32)), .second]) rfl ?_
    refine XS.lload X13.here hx rfl (hb hby d18_125) rfl ?_
    show Steps p.tables e below (T13.setTop (mkF m 127 #[.val (.ref a1), .val (.int (cs.getD 8 0)), .val (.int (cs.getD 13 0)), .val (.int (cs.getD 18 0)), .val (.int (cs.getD 23 0)), .val (.long (own_q4 cs 0)), .second, .val (.long (own_q4 cs 4)), .second, .val (.long (own_q4 cs 9)), .second, .val (.long (own_q4 cs 14)), .second, .val (.long (own_q4 cs 19)), .second, .val (.long (own_q4 cs 24)), .second, .val (.long (own_q4 cs 28)), .second, .val (.long (own_q4 cs 32)), .second] [(.long (own_q4 cs 0))])) _
    refine XS.lload X13.here hx rfl (hb hby d18_127) rfl ?_
    refine XS.lor X13.here hx rfl (hb hby d18_129) rfl ?_
    refine XS.lload X13.here hx rfl (hb hby d18_130) rfl ?_
    refine XS.lor X13.here hx rfl (hb hby d18_132) rfl ?_
    refine XS.lload X13.here hx rfl (hb hby d18_133) rfl ?_
    refine XS.lor X13.here hx rfl (hb hby d18_135) rfl ?_
    show Steps p.tables e below (T13.setTop (mkF m 136 #[.val (.ref a1), .val (.int (cs.getD 8 0)), .val (.int (cs.getD 13 0)), .val (.int (cs.getD 18 0)), .val (.int (cs.getD 23 0)), .val (.long (own_q4 cs 0)), .second, .val (.long (own_q4 cs 4)), .second, .val (.long (own_q4 cs 9)), .second, .val (.long (own_q4 cs 14)), .second, .val (.long (own_q4 cs 19)), .second, .val (.long (own_q4 cs 24)), .second, .val (.long (own_q4 cs 28)), .second, .val (.long (own_q4 cs 32)), .second] [(.long ((((own_q4 cs 0) ||| (own_q4 cs 4)) ||| (own_q4 cs 9)) ||| (own_q4 cs 14)))])) _
    refine XS.lload X13.here hx rfl (hb hby d18_136) rfl ?_
    refine XS.lor X13.here hx rfl (hb hby d18_138) rfl ?_
    refine XS.lload X13.here hx rfl (hb hby d18_139) rfl ?_
    refine XS.lor X13.here hx rfl (hb hby d18_141) rfl ?_
    refine XS.lload X13.here hx rfl (hb hby d18_142) rfl ?_
    refine XS.lor X13.here hx rfl (hb hby d18_144) rfl ?_
    show Steps p.tables e below (T13.setTop (mkF m 145 #[.val (.ref a1), .val (.int (cs.getD 8 0)), .val (.int (cs.getD 13 0)), .val (.int (cs.getD 18 0)), .val (.int (cs.getD 23 0)), .val (.long (own_q4 cs 0)), .second, .val (.long (own_q4 cs 4)), .second, .val (.long (own_q4 cs 9)), .second, .val (.long (own_q4 cs 14)), .second, .val (.long (own_q4 cs 19)), .second, .val (.long (own_q4 cs 24)), .second, .val (.long (own_q4 cs 28)), .second, .val (.long (own_q4 cs 32)), .second] [(.long (((((((own_q4 cs 0) ||| (own_q4 cs 4)) ||| (own_q4 cs 9)) ||| (own_q4 cs 14)) ||| (own_q4 cs 19)) ||| (own_q4 cs 24)) ||| (own_q4 cs 28)))])) _
    refine XS.lload X13.here hx rfl (hb hby d18_145) rfl ?_
    refine XS.lor X13.here hx rfl (hb hby d18_147) rfl ?_
    refine XS.lconst X13.here hx rfl (hb hby d18_148) ?_
    refine XS.lcmp X13.here hx rfl (hb hby d18_149) rfl ?_
    refine XS.ifNo X13.here hx rfl (hb hby d18_150) rfl ((if0 _ _).trans (flt (mt (lw_lt ((((((((own_q4 cs 0) ||| (own_q4 cs 4)) ||| (own_q4 cs 9)) ||| (own_q4 cs 14)) ||| (own_q4 cs 19)) ||| (own_q4 cs 24)) ||| (own_q4 cs 28)) ||| (own_q4 cs 32)) (0 : Int64)).mp hpos)).1) ?_
    refine st14 _ ?_
    show Steps p.tables e below (T14.setTop (mkF m 156 #[.val (.ref a1), .val (.int (cs.getD 8 0)), .val (.int (cs.getD 13 0)), .val (.int (cs.getD 18 0)), .val (.int (cs.getD 23 0)), .val (.long (own_q4 cs 0)), .second, .val (.long (own_q4 cs 4)), .second, .val (.long (own_q4 cs 9)), .second, .val (.long (own_q4 cs 14)), .second, .val (.long (own_q4 cs 19)), .second, .val (.long (own_q4 cs 24)), .second, .val (.long (own_q4 cs 28)), .second, .val (.long (own_q4 cs 32)), .second] [(.ref b14)])) _
    refine XS.dup X14.here hx rfl (hb hby d18_156) rfl rfl ?_
    refine XS.lload X14.here hx rfl (hb hby d18_157) rfl ?_
    refine XS.bipush X14.here hx rfl (hb hby d18_159) ?_
    refine XS.lshl X14.here hx rfl (hb hby d18_161) rfl ?_
    refine XS.lload X14.here hx rfl (hb hby d18_162) rfl ?_
    refine XS.bipush X14.here hx rfl (hb hby d18_164) ?_
    show Steps p.tables e below (T14.setTop (mkF m 166 #[.val (.ref a1), .val (.int (cs.getD 8 0)), .val (.int (cs.getD 13 0)), .val (.int (cs.getD 18 0)), .val (.int (cs.getD 23 0)), .val (.long (own_q4 cs 0)), .second, .val (.long (own_q4 cs 4)), .second, .val (.long (own_q4 cs 9)), .second, .val (.long (own_q4 cs 14)), .second, .val (.long (own_q4 cs 19)), .second, .val (.long (own_q4 cs 24)), .second, .val (.long (own_q4 cs 28)), .second, .val (.long (own_q4 cs 32)), .second] [(.int (32 : Int32)), (.long (own_q4 cs 4)), (.long ((own_q4 cs 0) <<< ((48 : Int32) &&& 0x3f).toInt64)), (.ref b14), (.ref b14)])) _
    refine XS.lshl X14.here hx rfl (hb hby d18_166) rfl ?_
    refine XS.lor X14.here hx rfl (hb hby d18_167) rfl ?_
    refine XS.lload X14.here hx rfl (hb hby d18_168) rfl ?_
    refine XS.bipush X14.here hx rfl (hb hby d18_170) ?_
    refine XS.lshl X14.here hx rfl (hb hby d18_172) rfl ?_
    refine XS.lor X14.here hx rfl (hb hby d18_173) rfl ?_
    show Steps p.tables e below (T14.setTop (mkF m 174 #[.val (.ref a1), .val (.int (cs.getD 8 0)), .val (.int (cs.getD 13 0)), .val (.int (cs.getD 18 0)), .val (.int (cs.getD 23 0)), .val (.long (own_q4 cs 0)), .second, .val (.long (own_q4 cs 4)), .second, .val (.long (own_q4 cs 9)), .second, .val (.long (own_q4 cs 14)), .second, .val (.long (own_q4 cs 19)), .second, .val (.long (own_q4 cs 24)), .second, .val (.long (own_q4 cs 28)), .second, .val (.long (own_q4 cs 32)), .second] [(.long ((((own_q4 cs 0) <<< ((48 : Int32) &&& 0x3f).toInt64) ||| ((own_q4 cs 4) <<< ((32 : Int32) &&& 0x3f).toInt64)) ||| ((own_q4 cs 9) <<< ((16 : Int32) &&& 0x3f).toInt64))), (.ref b14), (.ref b14)])) _
    refine XS.lload X14.here hx rfl (hb hby d18_174) rfl ?_
    refine XS.lor X14.here hx rfl (hb hby d18_176) rfl ?_
    refine XS.lload X14.here hx rfl (hb hby d18_177) rfl ?_
    refine XS.bipush X14.here hx rfl (hb hby d18_179) ?_
    refine XS.lshl X14.here hx rfl (hb hby d18_181) rfl ?_
    refine XS.lload X14.here hx rfl (hb hby d18_182) rfl ?_
    show Steps p.tables e below (T14.setTop (mkF m 184 #[.val (.ref a1), .val (.int (cs.getD 8 0)), .val (.int (cs.getD 13 0)), .val (.int (cs.getD 18 0)), .val (.int (cs.getD 23 0)), .val (.long (own_q4 cs 0)), .second, .val (.long (own_q4 cs 4)), .second, .val (.long (own_q4 cs 9)), .second, .val (.long (own_q4 cs 14)), .second, .val (.long (own_q4 cs 19)), .second, .val (.long (own_q4 cs 24)), .second, .val (.long (own_q4 cs 28)), .second, .val (.long (own_q4 cs 32)), .second] [(.long (own_q4 cs 24)), (.long ((own_q4 cs 19) <<< ((48 : Int32) &&& 0x3f).toInt64)), (.long (((((own_q4 cs 0) <<< ((48 : Int32) &&& 0x3f).toInt64) ||| ((own_q4 cs 4) <<< ((32 : Int32) &&& 0x3f).toInt64)) ||| ((own_q4 cs 9) <<< ((16 : Int32) &&& 0x3f).toInt64)) ||| (own_q4 cs 14))), (.ref b14), (.ref b14)])) _
    refine XS.bipush X14.here hx rfl (hb hby d18_184) ?_
    refine XS.lshl X14.here hx rfl (hb hby d18_186) rfl ?_
    refine XS.lor X14.here hx rfl (hb hby d18_187) rfl ?_
    refine XS.lload X14.here hx rfl (hb hby d18_188) rfl ?_
    refine XS.bipush X14.here hx rfl (hb hby d18_190) ?_
    refine XS.lshl X14.here hx rfl (hb hby d18_192) rfl ?_
    show Steps p.tables e below (T14.setTop (mkF m 193 #[.val (.ref a1), .val (.int (cs.getD 8 0)), .val (.int (cs.getD 13 0)), .val (.int (cs.getD 18 0)), .val (.int (cs.getD 23 0)), .val (.long (own_q4 cs 0)), .second, .val (.long (own_q4 cs 4)), .second, .val (.long (own_q4 cs 9)), .second, .val (.long (own_q4 cs 14)), .second, .val (.long (own_q4 cs 19)), .second, .val (.long (own_q4 cs 24)), .second, .val (.long (own_q4 cs 28)), .second, .val (.long (own_q4 cs 32)), .second] [(.long ((own_q4 cs 28) <<< ((16 : Int32) &&& 0x3f).toInt64)), (.long (((own_q4 cs 19) <<< ((48 : Int32) &&& 0x3f).toInt64) ||| ((own_q4 cs 24) <<< ((32 : Int32) &&& 0x3f).toInt64))), (.long (((((own_q4 cs 0) <<< ((48 : Int32) &&& 0x3f).toInt64) ||| ((own_q4 cs 4) <<< ((32 : Int32) &&& 0x3f).toInt64)) ||| ((own_q4 cs 9) <<< ((16 : Int32) &&& 0x3f).toInt64)) ||| (own_q4 cs 14))), (.ref b14), (.ref b14)])) _
    refine XS.lor X14.here hx rfl (hb hby d18_193) rfl ?_
    refine XS.lload X14.here hx rfl (hb hby d18_194) rfl ?_
    refine XS.lor X14.here hx rfl (hb hby d18_196) rfl ?_
    refine st15.trans ?_
    exact k
  obtain ⟨fs, hr, hrun, hended, hW, hsame⟩ := X15.leave (v := some (.ref b14)) (fun h => by rw [Bd.returns] at h; cases h)
  refine ⟨_, _, pre16 _ ?_, hrun, hended, _, _, rfl, ?_, ⟨_, rfl⟩, hW, hsame.mono (by decide) (by decide)⟩
  · exact retOut X15 hx Bd.returns (by first | rfl | simp [narrow]) (Or.inr (Or.inr (Or.inr (Or.inr ⟨rfl, rfl, rfl⟩)))) (hb hby d18_200) hr
  · show Q_rmFS Z a1 ay kb cs G1 fm aN cN h0 n0 _ T15.heap _
    exact ⟨b14, rfl, N15, K15, Eq15, F1q15, F2q15⟩
def own_dash (i : Int32) : Int32 := if i = 8 ∨ i = 13 ∨ i = 18 ∨ i = 23 then 1 else 0
theorem own_dT {i : Int32} (h : i = 8 ∨ i = 13 ∨ i = 18 ∨ i = 23) : (1 : Int32) = own_dash i := (if_pos h).symm
theorem own_dF {i : Int32} (h1 : ¬ i = 8) (h2 : ¬ i = 13) (h3 : ¬ i = 18) (h4 : ¬ i = 23) : (0 : Int32) = own_dash i := (if_neg fun q => q.elim h1 fun q => q.elim h2 fun q => q.elim h3 h4).symm
theorem own_lit : ∀ n : Fin 36, (Int32.ofNat n.val = 8 → n.val = 8) ∧ (Int32.ofNat n.val = 13 → n.val = 13) ∧ (Int32.ofNat n.val = 18 → n.val = 18) ∧ (Int32.ofNat n.val = 23 → n.val = 23) ∧ Int32.ofNat n.val < 36 := by decide +kernel
theorem own_dd1 {n : Nat} (h : n < 36) {u : Int32} (hu : u = own_dash (Int32.ofNat n)) {cs : List Int32} (d8 : cs.getD 8 0 = 45) (d13 : cs.getD 13 0 = 45) (d18 : cs.getD 18 0 = 45) (d23 : cs.getD 23 0 = 45) (q : ¬ u = 0) : cs.getD n 0 = 45 := by
  obtain ⟨f1, f2, f3, f4, -⟩ := own_lit ⟨n, h⟩
  simp only at f1 f2 f3 f4
  unfold own_dash at hu
  split at hu
  · rename_i g
    rcases g with g | g | g | g
    · rw [f1 g]; exact d8
    · rw [f2 g]; exact d13
    · rw [f3 g]; exact d18
    · rw [f4 g]; exact d23
  · exact absurd hu q
theorem own_dd0 {n : Nat} (h : n < 36) {u : Int32} (hu : u = own_dash (Int32.ofNat n)) {cs : List Int32} (hh : own_hexAt cs) (q : u = 0) : cs.getD n 0 ∈ own_H := by
  unfold own_dash at hu
  split at hu
  · rw [hu] at q; exact absurd q (by decide)
  · rename_i g
    refine hh n h ?_ ?_ ?_ ?_ <;> (rintro rfl; exact g (by decide))
theorem ef_rmP (m : MethodId) (x0 : Addr) : entryFrame m #[(.ref x0)] 4 = mkF m 0 #[.val (.ref x0), .unset, .unset, .unset] [] := by first | (simp [entryFrame, mkF, argsToLocals, Value.category]; done) | rfl
theorem own_wS {a0 : Array Value} {Z : State} (hw : ∀ d ∈ tables_1, d.before a0 Z = true) : ∀ a ∈ Bundle.stringAtoms, a.before a0 Z = true := by
  intro d hd
  simp only [Bundle.stringAtoms, List.mem_cons, List.not_mem_nil, or_false] at hd
  rcases hd with rfl | rfl | rfl | rfl | rfl | rfl | rfl
  · exact hw _ (List.mem_of_getElem? (i := 8) rfl)
  · exact hw _ (List.mem_of_getElem? (i := 7) rfl)
  · exact hw _ (List.mem_of_getElem? (i := 24) rfl)
  · exact hw _ (List.mem_of_getElem? (i := 34) rfl)
  · exact hw _ (List.mem_of_getElem? (i := 32) rfl)
  · exact hw _ (List.mem_of_getElem? (i := 40) rfl)
  · exact hw _ (List.mem_of_getElem? (i := 41) rfl)
theorem d8_0 : decode prog_12_method_2_code 0 = .ok (.aload_n 0, 1) := by decide +kernel
theorem d8_1 : decode prog_12_method_2_code 1 = .ok (.ldc 7, 2) := by decide +kernel
theorem d8_3 : decode prog_12_method_2_code 3 = .ok (.invokestatic 9, 3) := by decide +kernel
theorem pd_4 : parseMethodDescriptor "(Ljava/lang/Object;Ljava/lang/String;)Ljava/lang/Object;" = some ⟨[(.object "java/lang/Object"), (.object "java/lang/String")], some (.object "java/lang/Object")⟩ := by decide +kernel
theorem d8_6 : decode prog_12_method_2_code 6 = .ok (.pop, 1) := by decide +kernel
theorem d8_7 : decode prog_12_method_2_code 7 = .ok (.aload_n 0, 1) := by decide +kernel
theorem d8_8 : decode prog_12_method_2_code 8 = .ok (.invokevirtual 15, 3) := by decide +kernel
theorem d8_11 : decode prog_12_method_2_code 11 = .ok (.bipush 36, 2) := by decide +kernel
theorem d8_13 : decode prog_12_method_2_code 13 = .ok (.if_icmp .eq 41, 3) := by decide +kernel
theorem d8_54 : decode prog_12_method_2_code 54 = .ok (.iconst 0, 1) := by decide +kernel
theorem d8_55 : decode prog_12_method_2_code 55 = .ok (.istore_n 1, 1) := by decide +kernel
theorem d8_56 : decode prog_12_method_2_code 56 = .ok (.iload_n 1, 1) := by decide +kernel
theorem d8_57 : decode prog_12_method_2_code 57 = .ok (.bipush 36, 2) := by decide +kernel
theorem d8_59 : decode prog_12_method_2_code 59 = .ok (.if_icmp .ge 86, 3) := by decide +kernel
theorem d8_62 : decode prog_12_method_2_code 62 = .ok (.aload_n 0, 1) := by decide +kernel
theorem d8_63 : decode prog_12_method_2_code 63 = .ok (.iload_n 1, 1) := by decide +kernel
theorem d8_64 : decode prog_12_method_2_code 64 = .ok (.invokevirtual 46, 3) := by decide +kernel
theorem d8_67 : decode prog_12_method_2_code 67 = .ok (.istore_n 2, 1) := by decide +kernel
theorem d8_68 : decode prog_12_method_2_code 68 = .ok (.iload_n 1, 1) := by decide +kernel
theorem d8_69 : decode prog_12_method_2_code 69 = .ok (.bipush 8, 2) := by decide +kernel
theorem d8_71 : decode prog_12_method_2_code 71 = .ok (.if_icmp .eq 21, 3) := by decide +kernel
theorem d8_74 : decode prog_12_method_2_code 74 = .ok (.iload_n 1, 1) := by decide +kernel
theorem d8_75 : decode prog_12_method_2_code 75 = .ok (.bipush 13, 2) := by decide +kernel
theorem d8_77 : decode prog_12_method_2_code 77 = .ok (.if_icmp .eq 15, 3) := by decide +kernel
theorem d8_80 : decode prog_12_method_2_code 80 = .ok (.iload_n 1, 1) := by decide +kernel
theorem d8_81 : decode prog_12_method_2_code 81 = .ok (.bipush 18, 2) := by decide +kernel
theorem d8_83 : decode prog_12_method_2_code 83 = .ok (.if_icmp .eq 9, 3) := by decide +kernel
theorem d8_86 : decode prog_12_method_2_code 86 = .ok (.iload_n 1, 1) := by decide +kernel
theorem d8_87 : decode prog_12_method_2_code 87 = .ok (.bipush 23, 2) := by decide +kernel
theorem d8_89 : decode prog_12_method_2_code 89 = .ok (.if_icmp .ne 7, 3) := by decide +kernel
theorem d8_96 : decode prog_12_method_2_code 96 = .ok (.iconst 0, 1) := by decide +kernel
theorem d8_97 : decode prog_12_method_2_code 97 = .ok (.istore_n 3, 1) := by decide +kernel
theorem d8_98 : decode prog_12_method_2_code 98 = .ok (.iload_n 3, 1) := by decide +kernel
theorem d8_99 : decode prog_12_method_2_code 99 = .ok (.ifCond .eq 19, 3) := by decide +kernel
theorem d8_118 : decode prog_12_method_2_code 118 = .ok (.iload_n 3, 1) := by decide +kernel
theorem d8_119 : decode prog_12_method_2_code 119 = .ok (.ifCond .ne 20, 3) := by decide +kernel
theorem d8_122 : decode prog_12_method_2_code 122 = .ok (.iload_n 2, 1) := by decide +kernel
theorem d8_123 : decode prog_12_method_2_code 123 = .ok (.invokestatic 58, 3) := by decide +kernel
theorem pd_5 : parseMethodDescriptor "(C)Z" = some ⟨[.char], some .boolean⟩ := by decide +kernel
theorem d8_126 : decode prog_12_method_2_code 126 = .ok (.ifCond .ne 13, 3) := by decide +kernel
theorem d8_139 : decode prog_12_method_2_code 139 = .ok (.iinc 1 1, 3) := by decide +kernel
theorem d8_142 : decode prog_12_method_2_code 142 = .ok (.goto (-86), 3) := by decide +kernel
theorem d8_92 : decode prog_12_method_2_code 92 = .ok (.iconst 1, 1) := by decide +kernel
theorem d8_93 : decode prog_12_method_2_code 93 = .ok (.goto 4, 3) := by decide +kernel
theorem d8_102 : decode prog_12_method_2_code 102 = .ok (.iload_n 2, 1) := by decide +kernel
theorem d8_103 : decode prog_12_method_2_code 103 = .ok (.bipush 45, 2) := by decide +kernel
theorem d8_105 : decode prog_12_method_2_code 105 = .ok (.if_icmp .eq 13, 3) := by decide +kernel
theorem d8_145 : decode prog_12_method_2_code 145 = .ok (.aload_n 0, 1) := by decide +kernel
theorem d8_146 : decode prog_12_method_2_code 146 = .ok (.invokestatic 64, 3) := by decide +kernel
theorem pd_6 : parseMethodDescriptor "(Ljava/lang/String;)Ljava/util/UUID;" = some ⟨[(.object "java/lang/String")], some (.object "java/util/UUID")⟩ := by decide +kernel
theorem d8_149 : decode prog_12_method_2_code 149 = .ok (.areturn, 1) := by decide +kernel
def Q_rmP (Z : State) (a1 : Addr) (ay : Addr) (kb : ClassId) (cs : List Int32) (G1 : Int32) (fm : Value) (aN : Addr) (cN : Cell) (h0 : Heap) (n0 : Nat) (v : Option Value) (h : Heap) (L : List Loc) : Prop := ∃ a : Addr, v = some (.ref a) ∧ Fr n0 L ∧ Keep h0 h [] ∧ Exa Z h a "java/util/UUID" ∧ Fld Z h a "java/util/UUID" "mostSigBits" "J" (.long (own_msb cs)) ∧ Fld Z h a "java/util/UUID" "leastSigBits" "J" (.long (own_lsb cs))
set_option maxRecDepth 65536 in
set_option maxHeartbeats 40000000 in
theorem rmP (l : Launch) (Z : State) (a0 : Array Value) (hw : ∀ d ∈ tables_1, d.before a0 Z = true) (ws : List Jvm.Cond) (a1 : Addr) (ay : Addr) (kb : ClassId) (cs : List Int32) (G1 : Int32) (fm : Value) (aN : Addr) (cN : Cell) (h0 : Heap) (n0 : Nat) (Z0 : n0 ≤ h0.size) (SS : own_S Z h0 n0 a1 ay kb cs G1 fm aN cN) :
    MetFree l (⟨"com/example/nonce/nonce/id/UuidText", "parse", "(Ljava/lang/String;)Ljava/util/UUID;"⟩ : MethodName) (head1 (Jvm.Cond.code (⟨"com/example/nonce/nonce/id/UuidText", "parse", "(Ljava/lang/String;)Ljava/util/UUID;"⟩ : MethodName) prog_12_method_2_code 4 (some (.object "java/util/UUID")) :: ws) ({ frames := 6, cells := 3, slots := 22, locals := 103 } : Room)) (fun a U => a = #[(.ref a1)] ∧ Z.Warmed39 U.vm ∧ U.heap = h0) (fun _ _ _ _ _ => True) (fun _ U o U' => ∃ v L, o = .returned v ∧ Q_rmP Z a1 ay kb cs G1 fm aN cN h0 n0 v U'.heap L ∧ ReturnedEndW U o U' L ({ frames := 6, cells := 3, slots := 22, locals := 103 } : Room).cells ({ frames := 6, cells := 3, slots := 22, locals := 103 } : Room).slots) := by
  refine MetFree.of_bodySF (plainFor_of_name pn_0) hisR ?_
  intro p e s m args below meth c s₁ Bd hml0 hP hK
  obtain ⟨rfl, hZ, hh⟩ := hP
  have hx := Bd.exec
  have hby := Bd.bytes
  have hml : c.maxLocals = 4 := hml0
  have hown : s.vm.findClass "com/example/nonce/nonce/id/UuidText" = some m.cls := (findClass_of_methodNamed Bd.named :)
  have hnm := (name_of_methodNamed Bd.named Bd.method).1
  have X0 : Stand p l e ({ frames := 6, cells := 3, slots := 22, locals := 103 } : Room) s m #[(.ref a1)] below meth c s₁ [] 0 0 := Stand.of_body Bd
  have e0 : s₁.heap = h0 := by rw [← hh, Bd.state]; rfl
  have N0 := Fr.nil n0
  have pre0 : ∀ t, Steps p.tables e below (s₁.setTop (mkF m 0 #[.val (.ref a1), .unset, .unset, .unset] [])) t → Steps p.tables e below (s₁.setTop (entryFrame m #[(.ref a1)] 4)) t := fun t k => castTop (ef_rmP m a1) k
  have hS0 : s.Since s.vm 0 := (State.WarmedH.refl s).since 0
  have hk0 : 0 ≤ h0.size := Nat.zero_le _
  have wS := own_wS hw
  obtain ⟨hE, hV, hC, hA, hb255, hlen, O0, SC, P5, SF, rF, SNib, AN, SzN, nib, dx8, dx13, dx18, dx23, hh⟩ := id SS
  obtain ⟨b1, T1, h1, kk1, X1, e1, E1, hS1, hk1, hZ1, hown1, st1⟩ := ldcS (s := s) (vm0 := s.vm) X0 hx hZ hown (hw _ (List.mem_of_getElem? (i := 39) rfl)) wS e0 hS0 hk0 (g := (mkF m 1 #[.val (.ref a1), .unset, .unset, .unset] [(.ref a1)])) rfl (hb hby d8_1) (n := 16) (by decide) (by decide) (by decide) (by decide)
  have K1 : Keep h0 h1 [] := (Keep.refl h0 []).ext E1
  have SS1 := SS.ext E1
  obtain ⟨_, _, ⟨T2, L2, k2, n2⟩, -, X2, ⟨Lc2, hQ2, l2, y2, z2⟩, st2⟩ := Jvm.LawKit.callS X1 hx (y := (⟨"java/util/Objects", "requireNonNull", "(Ljava/lang/Object;Ljava/lang/String;)Ljava/lang/Object;"⟩ : MethodName)) hown1 (mvT hZ1 (hw _ (List.mem_of_getElem? (i := 42) rfl))) (mvT hZ1 (hw _ (List.mem_of_getElem? (i := 43) rfl))) (mvT hZ1 (hw _ (List.mem_of_getElem? (i := 44) rfl))) (mvT hZ1 (hw _ (List.mem_of_getElem? (i := 45) rfl))) (by decide) (backOf (W := 0) (rmN l Z a0 hw [] a1 b1  h1 n0 (Nat.le_trans Z0 E1.1) ) hZ1 (hw _ (List.mem_of_getElem? (i := 45) rfl)) (hw _ (List.mem_of_getElem? (i := 44) rfl)) (by decide) (by decide)) (g := (mkF m 3 #[.val (.ref a1), .unset, .unset, .unset] [(.ref b1), (.ref a1)])) rfl (by rw [hml]; rfl) (argsL := [(.ref a1), (.ref b1)]) (rest := []) (lenOf pd_4 rfl) rfl (by show 2 * 0 + _ ≤ _; exact Nat.le_of_eq rfl) (hb hby d8_3) (fun _ _ => ⟨rfl, e1, (by decide : 2 + 0 ≤ _), (by decide : 20 + 0 ≤ _)⟩)
  dsimp only [Pt.U, Pt.locs, Pt.cells, Pt.slots] at X2 l2 y2 z2 st2 hQ2
  subst l2 y2 z2
  obtain ⟨rfl, N2q, hq2⟩ := hQ2
  have N2 := Fr.app N0 N2q
  obtain ⟨cq3, kq3, q3a, q3b, q3c⟩ := isOf hZ1 hq2 (hE.ext E1)
  obtain ⟨_, _, ⟨T3, L3, k3, n3⟩, -, X3, ⟨Lc3, hQ3, l3, y3, z3⟩, st3⟩ := X2.virtualBack hx (y := (⟨"java/lang/String", "length", "()I"⟩ : MethodName)) (z := (⟨"java/lang/String", "length", "()I"⟩ : MethodName)) hown1 (mvT hZ1 (hw _ (List.mem_of_getElem? (i := 46) rfl))) (mvT hZ1 (hw _ (List.mem_of_getElem? (i := 47) rfl))) (notFace_of_selects (args := #[]) (mvT hZ1 (hw _ (List.mem_of_getElem? (i := 49) rfl)))) (mvT hZ1 (hw _ (List.mem_of_getElem? (i := 49) rfl))) (mvT hZ1 (hw _ (List.mem_of_getElem? (i := 48) rfl))) (by decide) (own_lenB (W := 0) hZ1 hw SS1 (by decide) (by decide)) q3a q3c (g := (mkF m 8 #[.val (.ref a1), .unset, .unset, .unset] [(.ref a1)])) rfl (by rw [hml]; rfl) (Steps.refl _) (argsL := []) (rest := []) (lenOf pd_1 rfl) rfl (by show 2 * 0 + _ ≤ _; exact Nat.le_of_eq rfl) (hb hby d8_8) (fun _ _ => ⟨rfl, hq2, (by decide : 2 + 0 ≤ _), (by decide : 20 + 0 ≤ _)⟩)
  dsimp only [Pt.U, Pt.locs, Pt.cells, Pt.slots] at X3 l3 y3 z3 st3 hQ3
  subst l3 y3 z3
  obtain ⟨rfl, rfl, hq3⟩ := hQ3
  have N3q : Fr n0 ([] : List Loc) := Fr.nil n0
  have N3 := Fr.app N2 N3q
  obtain ⟨cq4, kq4, q4a, q4b, q4c⟩ := isOf hZ1 hq3 (hE.ext E1)
  obtain ⟨_, _, ⟨T4, L4, k4, n4⟩, -, X4, ⟨Lc4, hQ4, l4, y4, z4⟩, st4⟩ := X3.virtualBack hx (y := (⟨"java/lang/String", "charAt", "(I)C"⟩ : MethodName)) (z := (⟨"java/lang/String", "charAt", "(I)C"⟩ : MethodName)) hown1 (mvT hZ1 (hw _ (List.mem_of_getElem? (i := 56) rfl))) (mvT hZ1 (hw _ (List.mem_of_getElem? (i := 57) rfl))) (notFace_of_selects (args := #[]) (mvT hZ1 (hw _ (List.mem_of_getElem? (i := 59) rfl)))) (mvT hZ1 (hw _ (List.mem_of_getElem? (i := 59) rfl))) (mvT hZ1 (hw _ (List.mem_of_getElem? (i := 58) rfl))) (by decide) (own_chB (W := 0) (i := 0) hZ1 hw SS1 (by decide) rfl (by decide) (by decide)) q4a q4c (g := (mkF m 64 #[.val (.ref a1), .val (.int (0 : Int32)), .unset, .unset] [(.int (0 : Int32)), (.ref a1)])) rfl (by rw [hml]; rfl) (Steps.refl _) (argsL := [(.int (0 : Int32))]) (rest := []) (lenOf pd_0 rfl) rfl (by show 2 * 0 + _ ≤ _; exact Nat.le_of_eq rfl) (hb hby d8_64) (fun _ _ => ⟨rfl, hq3, (by decide : 2 + 0 ≤ _), (by decide : 20 + 0 ≤ _)⟩)
  dsimp only [Pt.U, Pt.locs, Pt.cells, Pt.slots] at X4 l4 y4 z4 st4 hQ4
  subst l4 y4 z4
  obtain ⟨rfl, rfl, hq4⟩ := hQ4
  have N4q : Fr n0 ([] : List Loc) := Fr.nil n0
  have N4 := Fr.app N3 N4q
  obtain ⟨_, _, ⟨T5, L5, k5, n5⟩, -, X5, ⟨Lc5, hQ5, l5, y5, z5⟩, st5⟩ := Jvm.LawKit.callS X4 hx (y := (⟨"com/example/nonce/nonce/id/UuidText", "isHexDigit", "(C)Z"⟩ : MethodName)) hown1 (mvT hZ1 (hw _ (List.mem_of_getElem? (i := 78) rfl))) (mvT hZ1 (hw _ (List.mem_of_getElem? (i := 79) rfl))) (mvT hZ1 (hw _ (List.mem_of_getElem? (i := 37) rfl))) (mvT hZ1 (hw _ (List.mem_of_getElem? (i := 80) rfl))) (by decide) (backOf (W := 0) (rmH l Z a0 hw [] (cs.getD 0 0)  h1 n0 (Nat.le_trans Z0 E1.1) (hh 0 (by decide) (by decide) (by decide) (by decide) (by decide))) hZ1 (hw _ (List.mem_of_getElem? (i := 80) rfl)) (hw _ (List.mem_of_getElem? (i := 37) rfl)) (by decide) (by decide)) (g := (mkF m 123 #[.val (.ref a1), .val (.int (0 : Int32)), .val (.int (cs.getD 0 0)), .val (.int (0 : Int32))] [(.int (cs.getD 0 0))])) rfl (by rw [hml]; rfl) (argsL := [(.int (cs.getD 0 0))]) (rest := []) (lenOf pd_5 rfl) rfl (by show 2 * 0 + _ ≤ _; exact Nat.le_of_eq rfl) (hb hby d8_123) (fun _ _ => ⟨rfl, hq4, (by decide : 2 + 0 ≤ _), (by decide : 20 + 0 ≤ _)⟩)
  dsimp only [Pt.U, Pt.locs, Pt.cells, Pt.slots] at X5 l5 y5 z5 st5 hQ5
  subst l5 y5 z5
  obtain ⟨rfl, N5q, hq5⟩ := hQ5
  have N5 := Fr.app N4 N5q
  have pre6 : ∀ t, Steps p.tables e below (T5.setTop (mkF m 56 #[.val (.ref a1), .val (.int (1 : Int32)), .val (.int (cs.getD 0 0)), .val (.int (0 : Int32))] [])) t → Steps p.tables e below (s₁.setTop (entryFrame m #[(.ref a1)] 4)) t := by
    intro t k
    refine pre0 t ?_
    refine XS.aloadN X0.here hx rfl (hb hby d8_0) rfl (rfl) ?_
    refine st1 _ ?_
    refine st2 _ ?_
    refine XS.pop X2.here hx rfl (hb hby d8_6) rfl rfl ?_
    refine XS.aloadN X2.here hx rfl (hb hby d8_7) rfl (rfl) ?_
    show Steps p.tables e below (T2.setTop (mkF m 8 #[.val (.ref a1), .unset, .unset, .unset] [(.ref a1)])) _
    refine st3.trans ?_
    refine XS.bipush X3.here hx rfl (hb hby d8_11) ?_
    refine XS.icmpYes X3.here hx rfl (pc0 := 13) (pc' := 54) rfl (hb hby d8_13) rfl (teq (by decide : (36 : Int32) = (36 : Int32))).1 (by decide) (by decide) ?_
    refine XS.iconst X3.here hx rfl (hb hby d8_54) ?_
    refine XS.istoreN X3.here hx rfl (hb hby d8_55) rfl (l' := #[.val (.ref a1), .val (.int (0 : Int32)), .unset, .unset]) rfl ?_
    refine XS.iloadN X3.here hx rfl (hb hby d8_56) rfl ?_
    show Steps p.tables e below (T3.setTop (mkF m 57 #[.val (.ref a1), .val (.int (0 : Int32)), .unset, .unset] [(.int (0 : Int32))])) _
    refine XS.bipush X3.here hx rfl (hb hby d8_57) ?_
    refine XS.icmpNo X3.here hx rfl (hb hby d8_59) rfl (tlt (by decide : (0 : Int32) < (36 : Int32))).2.1 ?_
    refine XS.aloadN X3.here hx rfl (hb hby d8_62) rfl (rfl) ?_
    refine XS.iloadN X3.here hx rfl (hb hby d8_63) rfl ?_
    refine st4.trans ?_
    refine XS.istoreN X4.here hx rfl (hb hby d8_67) rfl (l' := #[.val (.ref a1), .val (.int (0 : Int32)), .val (.int (cs.getD 0 0)), .unset]) rfl ?_
    show Steps p.tables e below (T4.setTop (mkF m 68 #[.val (.ref a1), .val (.int (0 : Int32)), .val (.int (cs.getD 0 0)), .unset] [])) _
    refine XS.iloadN X4.here hx rfl (hb hby d8_68) rfl ?_
    refine XS.bipush X4.here hx rfl (hb hby d8_69) ?_
    refine XS.icmpNo X4.here hx rfl (hb hby d8_71) rfl (feq (by decide : ¬ ((0 : Int32) = (8 : Int32)))).1 ?_
    refine XS.iloadN X4.here hx rfl (hb hby d8_74) rfl ?_
    refine XS.bipush X4.here hx rfl (hb hby d8_75) ?_
    refine XS.icmpNo X4.here hx rfl (hb hby d8_77) rfl (feq (by decide : ¬ ((0 : Int32) = (13 : Int32)))).1 ?_
    show Steps p.tables e below (T4.setTop (mkF m 80 #[.val (.ref a1), .val (.int (0 : Int32)), .val (.int (cs.getD 0 0)), .unset] [])) _
    refine XS.iloadN X4.here hx rfl (hb hby d8_80) rfl ?_
    refine XS.bipush X4.here hx rfl (hb hby d8_81) ?_
    refine XS.icmpNo X4.here hx rfl (hb hby d8_83) rfl (feq (by decide : ¬ ((0 : Int32) = (18 : Int32)))).1 ?_
    refine XS.iloadN X4.here hx rfl (hb hby d8_86) rfl ?_
    refine XS.bipush X4.here hx rfl (hb hby d8_87) ?_
    refine XS.icmpYes X4.here hx rfl (pc0 := 89) (pc' := 96) rfl (hb hby d8_89) rfl (feq (by decide : ¬ ((0 : Int32) = (23 : Int32)))).2 (by decide) (by decide) ?_
    show Steps p.tables e below (T4.setTop (mkF m 96 #[.val (.ref a1), .val (.int (0 : Int32)), .val (.int (cs.getD 0 0)), .unset] [])) _
    refine XS.iconst X4.here hx rfl (hb hby d8_96) ?_
    refine XS.istoreN X4.here hx rfl (hb hby d8_97) rfl (l' := #[.val (.ref a1), .val (.int (0 : Int32)), .val (.int (cs.getD 0 0)), .val (.int (0 : Int32))]) rfl ?_
    refine XS.iloadN X4.here hx rfl (hb hby d8_98) rfl ?_
    refine XS.ifYes X4.here hx rfl (pc0 := 99) (pc' := 118) rfl (hb hby d8_99) rfl ((if0 _ _).trans (teq (by decide : (0 : Int32) = (0 : Int32))).1) (by decide) (by decide) ?_
    refine XS.iloadN X4.here hx rfl (hb hby d8_118) rfl ?_
    refine XS.ifNo X4.here hx rfl (hb hby d8_119) rfl ((if0 _ _).trans (teq (by decide : (0 : Int32) = (0 : Int32))).2) ?_
    show Steps p.tables e below (T4.setTop (mkF m 122 #[.val (.ref a1), .val (.int (0 : Int32)), .val (.int (cs.getD 0 0)), .val (.int (0 : Int32))] [])) _
    refine XS.iloadN X4.here hx rfl (hb hby d8_122) rfl ?_
    refine st5 _ ?_
    refine XS.ifYes X5.here hx rfl (pc0 := 126) (pc' := 139) rfl (hb hby d8_126) rfl ((if0 _ _).trans (feq (by decide : ¬ ((1 : Int32) = (0 : Int32)))).2) (by decide) (by decide) ?_
    refine XS.iinc X5.here hx rfl (hb hby d8_139) rfl (l' := #[.val (.ref a1), .val (.int (1 : Int32)), .val (.int (cs.getD 0 0)), .val (.int (0 : Int32))]) rfl ?_
    refine XS.goto X5.here hx rfl (pc0 := 142) (pc' := 56) rfl (hb hby d8_142) (by decide) (by decide) ?_
    exact k
  have lp : ∀ n : Nat, n ≤ 35 → ∃ (Tn : State) (on : List Loc) (y2 y3 : Int32), (Stand p l e ({ frames := 6, cells := 3, slots := 22, locals := 103 } : Room) (s.setVm T1.vm) m #[(.ref a1)] below meth c Tn on 2 20) ∧ (Tn.heap = h1) ∧ (Fr n0 on) ∧ (∀ t, Steps p.tables e below (Tn.setTop (mkF m 56 #[.val (.ref a1), .val (.int (Int32.ofNat (n + 1))), .val (.int y2), .val (.int y3)] [])) t → Steps p.tables e below (s₁.setTop (entryFrame m #[(.ref a1)] 4)) t) := by
    intro n
    induction n with
    | zero => intro _; exact ⟨T5, _, _, _, X5, hq5, N5, pre6⟩
    | succ n ih =>
      intro hn
      obtain ⟨Ti, oi, y2, y3, Xi, ei, Ni, prei⟩ := ih (by omega)
      have hn' : n + 1 < 36 := by omega
      obtain ⟨cq7, kq7, q7a, q7b, q7c⟩ := isOf hZ1 ei (hE.ext E1)
      obtain ⟨_, _, ⟨T7, L7, k7, n7⟩, -, X7, ⟨Lc7, hQ7, l7, y7, z7⟩, st7⟩ := Xi.virtualBack hx (y := (⟨"java/lang/String", "charAt", "(I)C"⟩ : MethodName)) (z := (⟨"java/lang/String", "charAt", "(I)C"⟩ : MethodName)) hown1 (mvT hZ1 (hw _ (List.mem_of_getElem? (i := 56) rfl))) (mvT hZ1 (hw _ (List.mem_of_getElem? (i := 57) rfl))) (notFace_of_selects (args := #[]) (mvT hZ1 (hw _ (List.mem_of_getElem? (i := 59) rfl)))) (mvT hZ1 (hw _ (List.mem_of_getElem? (i := 59) rfl))) (mvT hZ1 (hw _ (List.mem_of_getElem? (i := 58) rfl))) (by decide) (own_chB (W := 0) (i := (n + 1)) hZ1 hw SS1 hn' rfl (by decide) (by decide)) q7a q7c (g := (mkF m 64 #[.val (.ref a1), .val (.int (Int32.ofNat (n + 1))), .val (.int y2), .val (.int y3)] [(.int (Int32.ofNat (n + 1))), (.ref a1)])) rfl (by rw [hml]; rfl) (Steps.refl _) (argsL := [(.int (Int32.ofNat (n + 1)))]) (rest := []) (lenOf pd_0 rfl) rfl (by show 2 * 0 + _ ≤ _; exact Nat.le_of_eq rfl) (hb hby d8_64) (fun _ _ => ⟨rfl, ei, (by decide : 2 + 0 ≤ _), (by decide : 20 + 0 ≤ _)⟩)
      dsimp only [Pt.U, Pt.locs, Pt.cells, Pt.slots] at X7 l7 y7 z7 st7 hQ7
      subst l7 y7 z7
      obtain ⟨rfl, rfl, hq7⟩ := hQ7
      have N7q : Fr n0 ([] : List Loc) := Fr.nil n0
      have N7 := Fr.app Ni N7q
      have pre8 : ∀ t, Steps p.tables e below (T7.setTop (mkF m 71 #[.val (.ref a1), .val (.int (Int32.ofNat (n + 1))), .val (.int (cs.getD (n + 1) 0)), .val (.int y3)] [(.int (8 : Int32)), (.int (Int32.ofNat (n + 1)))])) t → Steps p.tables e below (s₁.setTop (entryFrame m #[(.ref a1)] 4)) t := by
        intro t k
        refine prei t ?_
        show Steps p.tables e below (Ti.setTop (mkF m 56 #[.val (.ref a1), .val (.int (Int32.ofNat (n + 1))), .val (.int y2), .val (.int y3)] [])) _
        refine XS.iloadN Xi.here hx rfl (hb hby d8_56) rfl ?_
        refine XS.bipush Xi.here hx rfl (hb hby d8_57) ?_
        refine XS.icmpNo Xi.here hx rfl (hb hby d8_59) rfl (tlt (own_lit ⟨n + 1, hn'⟩).2.2.2.2).2.1 ?_
        refine XS.aloadN Xi.here hx rfl (hb hby d8_62) rfl (rfl) ?_
        refine XS.iloadN Xi.here hx rfl (hb hby d8_63) rfl ?_
        refine st7.trans ?_
        show Steps p.tables e below (T7.setTop (mkF m 67 #[.val (.ref a1), .val (.int (Int32.ofNat (n + 1))), .val (.int y2), .val (.int y3)] [(.int (cs.getD (n + 1) 0))])) _
        refine XS.istoreN X7.here hx rfl (hb hby d8_67) rfl (l' := #[.val (.ref a1), .val (.int (Int32.ofNat (n + 1))), .val (.int (cs.getD (n + 1) 0)), .val (.int y3)]) rfl ?_
        refine XS.iloadN X7.here hx rfl (hb hby d8_68) rfl ?_
        refine XS.bipush X7.here hx rfl (hb hby d8_69) ?_
        exact k
      obtain ⟨u0_0, hu0, preju0⟩ : ∃ (u0_0 : Int32), (u0_0 = own_dash (Int32.ofNat (n + 1))) ∧ (∀ t, Steps p.tables e below (T7.setTop (mkF m 97 #[.val (.ref a1), .val (.int (Int32.ofNat (n + 1))), .val (.int (cs.getD (n + 1) 0)), .val (.int y3)] [(.int u0_0)])) t → Steps p.tables e below (s₁.setTop (entryFrame m #[(.ref a1)] 4)) t) := by
        by_cases hju0 : (Int32.ofNat (n + 1)) = (8 : Int32)
        · skip
          have pre9 : ∀ t, Steps p.tables e below (T7.setTop (mkF m 97 #[.val (.ref a1), .val (.int (Int32.ofNat (n + 1))), .val (.int (cs.getD (n + 1) 0)), .val (.int y3)] [(.int (1 : Int32))])) t → Steps p.tables e below (s₁.setTop (entryFrame m #[(.ref a1)] 4)) t := by
            intro t k
            refine pre8 t ?_
            refine XS.icmpYes X7.here hx rfl (pc0 := 71) (pc' := 92) rfl (hb hby d8_71) rfl (teq hju0).1 (by decide) (by decide) ?_
            refine XS.iconst X7.here hx rfl (hb hby d8_92) ?_
            refine XS.goto X7.here hx rfl (pc0 := 93) (pc' := 97) rfl (hb hby d8_93) (by decide) (by decide) ?_
            show Steps p.tables e below (T7.setTop (mkF m 97 #[.val (.ref a1), .val (.int (Int32.ofNat (n + 1))), .val (.int (cs.getD (n + 1) 0)), .val (.int y3)] [(.int (1 : Int32))])) _
            exact k
          exact ⟨(1 : Int32), own_dT (Or.inl hju0), pre9⟩
        · skip
          have pre10 : ∀ t, Steps p.tables e below (T7.setTop (mkF m 77 #[.val (.ref a1), .val (.int (Int32.ofNat (n + 1))), .val (.int (cs.getD (n + 1) 0)), .val (.int y3)] [(.int (13 : Int32)), (.int (Int32.ofNat (n + 1)))])) t → Steps p.tables e below (s₁.setTop (entryFrame m #[(.ref a1)] 4)) t := by
            intro t k
            refine pre8 t ?_
            refine XS.icmpNo X7.here hx rfl (hb hby d8_71) rfl (feq hju0).1 ?_
            refine XS.iloadN X7.here hx rfl (hb hby d8_74) rfl ?_
            refine XS.bipush X7.here hx rfl (hb hby d8_75) ?_
            exact k
          obtain ⟨u1_0, hu1, preju1⟩ : ∃ (u1_0 : Int32), (u1_0 = own_dash (Int32.ofNat (n + 1))) ∧ (∀ t, Steps p.tables e below (T7.setTop (mkF m 97 #[.val (.ref a1), .val (.int (Int32.ofNat (n + 1))), .val (.int (cs.getD (n + 1) 0)), .val (.int y3)] [(.int u1_0)])) t → Steps p.tables e below (s₁.setTop (entryFrame m #[(.ref a1)] 4)) t) := by
            by_cases hju1 : (Int32.ofNat (n + 1)) = (13 : Int32)
            · skip
              have pre11 : ∀ t, Steps p.tables e below (T7.setTop (mkF m 97 #[.val (.ref a1), .val (.int (Int32.ofNat (n + 1))), .val (.int (cs.getD (n + 1) 0)), .val (.int y3)] [(.int (1 : Int32))])) t → Steps p.tables e below (s₁.setTop (entryFrame m #[(.ref a1)] 4)) t := by
                intro t k
                refine pre10 t ?_
                refine XS.icmpYes X7.here hx rfl (pc0 := 77) (pc' := 92) rfl (hb hby d8_77) rfl (teq hju1).1 (by decide) (by decide) ?_
                refine XS.iconst X7.here hx rfl (hb hby d8_92) ?_
                refine XS.goto X7.here hx rfl (pc0 := 93) (pc' := 97) rfl (hb hby d8_93) (by decide) (by decide) ?_
                show Steps p.tables e below (T7.setTop (mkF m 97 #[.val (.ref a1), .val (.int (Int32.ofNat (n + 1))), .val (.int (cs.getD (n + 1) 0)), .val (.int y3)] [(.int (1 : Int32))])) _
                exact k
              exact ⟨(1 : Int32), own_dT (Or.inr (Or.inl hju1)), pre11⟩
            · skip
              have pre12 : ∀ t, Steps p.tables e below (T7.setTop (mkF m 83 #[.val (.ref a1), .val (.int (Int32.ofNat (n + 1))), .val (.int (cs.getD (n + 1) 0)), .val (.int y3)] [(.int (18 : Int32)), (.int (Int32.ofNat (n + 1)))])) t → Steps p.tables e below (s₁.setTop (entryFrame m #[(.ref a1)] 4)) t := by
                intro t k
                refine pre10 t ?_
                refine XS.icmpNo X7.here hx rfl (hb hby d8_77) rfl (feq hju1).1 ?_
                refine XS.iloadN X7.here hx rfl (hb hby d8_80) rfl ?_
                refine XS.bipush X7.here hx rfl (hb hby d8_81) ?_
                exact k
              obtain ⟨u2_0, hu2, preju2⟩ : ∃ (u2_0 : Int32), (u2_0 = own_dash (Int32.ofNat (n + 1))) ∧ (∀ t, Steps p.tables e below (T7.setTop (mkF m 97 #[.val (.ref a1), .val (.int (Int32.ofNat (n + 1))), .val (.int (cs.getD (n + 1) 0)), .val (.int y3)] [(.int u2_0)])) t → Steps p.tables e below (s₁.setTop (entryFrame m #[(.ref a1)] 4)) t) := by
                by_cases hju2 : (Int32.ofNat (n + 1)) = (18 : Int32)
                · skip
                  have pre13 : ∀ t, Steps p.tables e below (T7.setTop (mkF m 97 #[.val (.ref a1), .val (.int (Int32.ofNat (n + 1))), .val (.int (cs.getD (n + 1) 0)), .val (.int y3)] [(.int (1 : Int32))])) t → Steps p.tables e below (s₁.setTop (entryFrame m #[(.ref a1)] 4)) t := by
                    intro t k
                    refine pre12 t ?_
                    refine XS.icmpYes X7.here hx rfl (pc0 := 83) (pc' := 92) rfl (hb hby d8_83) rfl (teq hju2).1 (by decide) (by decide) ?_
                    refine XS.iconst X7.here hx rfl (hb hby d8_92) ?_
                    refine XS.goto X7.here hx rfl (pc0 := 93) (pc' := 97) rfl (hb hby d8_93) (by decide) (by decide) ?_
                    show Steps p.tables e below (T7.setTop (mkF m 97 #[.val (.ref a1), .val (.int (Int32.ofNat (n + 1))), .val (.int (cs.getD (n + 1) 0)), .val (.int y3)] [(.int (1 : Int32))])) _
                    exact k
                  exact ⟨(1 : Int32), own_dT (Or.inr (Or.inr (Or.inl hju2))), pre13⟩
                · skip
                  have pre14 : ∀ t, Steps p.tables e below (T7.setTop (mkF m 89 #[.val (.ref a1), .val (.int (Int32.ofNat (n + 1))), .val (.int (cs.getD (n + 1) 0)), .val (.int y3)] [(.int (23 : Int32)), (.int (Int32.ofNat (n + 1)))])) t → Steps p.tables e below (s₁.setTop (entryFrame m #[(.ref a1)] 4)) t := by
                    intro t k
                    refine pre12 t ?_
                    refine XS.icmpNo X7.here hx rfl (hb hby d8_83) rfl (feq hju2).1 ?_
                    refine XS.iloadN X7.here hx rfl (hb hby d8_86) rfl ?_
                    refine XS.bipush X7.here hx rfl (hb hby d8_87) ?_
                    exact k
                  obtain ⟨u3_0, hu3, preju3⟩ : ∃ (u3_0 : Int32), (u3_0 = own_dash (Int32.ofNat (n + 1))) ∧ (∀ t, Steps p.tables e below (T7.setTop (mkF m 97 #[.val (.ref a1), .val (.int (Int32.ofNat (n + 1))), .val (.int (cs.getD (n + 1) 0)), .val (.int y3)] [(.int u3_0)])) t → Steps p.tables e below (s₁.setTop (entryFrame m #[(.ref a1)] 4)) t) := by
                    by_cases hju3 : (Int32.ofNat (n + 1)) = (23 : Int32)
                    · skip
                      have pre15 : ∀ t, Steps p.tables e below (T7.setTop (mkF m 97 #[.val (.ref a1), .val (.int (Int32.ofNat (n + 1))), .val (.int (cs.getD (n + 1) 0)), .val (.int y3)] [(.int (1 : Int32))])) t → Steps p.tables e below (s₁.setTop (entryFrame m #[(.ref a1)] 4)) t := by
                        intro t k
                        refine pre14 t ?_
                        refine XS.icmpNo X7.here hx rfl (hb hby d8_89) rfl (teq hju3).2 ?_
                        refine XS.iconst X7.here hx rfl (hb hby d8_92) ?_
                        refine XS.goto X7.here hx rfl (pc0 := 93) (pc' := 97) rfl (hb hby d8_93) (by decide) (by decide) ?_
                        show Steps p.tables e below (T7.setTop (mkF m 97 #[.val (.ref a1), .val (.int (Int32.ofNat (n + 1))), .val (.int (cs.getD (n + 1) 0)), .val (.int y3)] [(.int (1 : Int32))])) _
                        exact k
                      exact ⟨(1 : Int32), own_dT (Or.inr (Or.inr (Or.inr hju3))), pre15⟩
                    · skip
                      have pre16 : ∀ t, Steps p.tables e below (T7.setTop (mkF m 97 #[.val (.ref a1), .val (.int (Int32.ofNat (n + 1))), .val (.int (cs.getD (n + 1) 0)), .val (.int y3)] [(.int (0 : Int32))])) t → Steps p.tables e below (s₁.setTop (entryFrame m #[(.ref a1)] 4)) t := by
                        intro t k
                        refine pre14 t ?_
                        refine XS.icmpYes X7.here hx rfl (pc0 := 89) (pc' := 96) rfl (hb hby d8_89) rfl (feq hju3).2 (by decide) (by decide) ?_
                        refine XS.iconst X7.here hx rfl (hb hby d8_96) ?_
                        exact k
                      exact ⟨(0 : Int32), own_dF hju0 hju1 hju2 hju3, pre16⟩
                  exact ⟨u3_0, hu3, preju3⟩
              exact ⟨u2_0, hu2, preju2⟩
          exact ⟨u1_0, hu1, preju1⟩
      have pre17 : ∀ t, Steps p.tables e below (T7.setTop (mkF m 99 #[.val (.ref a1), .val (.int (Int32.ofNat (n + 1))), .val (.int (cs.getD (n + 1) 0)), .val (.int u0_0)] [(.int u0_0)])) t → Steps p.tables e below (s₁.setTop (entryFrame m #[(.ref a1)] 4)) t := by
        intro t k
        refine preju0 t ?_
        refine XS.istoreN X7.here hx rfl (hb hby d8_97) rfl (l' := #[.val (.ref a1), .val (.int (Int32.ofNat (n + 1))), .val (.int (cs.getD (n + 1) 0)), .val (.int u0_0)]) rfl ?_
        refine XS.iloadN X7.here hx rfl (hb hby d8_98) rfl ?_
        exact k
      by_cases hu : u0_0 = (0 : Int32)
      · skip
        obtain ⟨_, _, ⟨T18, L18, k18, n18⟩, -, X18, ⟨Lc18, hQ18, l18, y18, z18⟩, st18⟩ := Jvm.LawKit.callS X7 hx (y := (⟨"com/example/nonce/nonce/id/UuidText", "isHexDigit", "(C)Z"⟩ : MethodName)) hown1 (mvT hZ1 (hw _ (List.mem_of_getElem? (i := 78) rfl))) (mvT hZ1 (hw _ (List.mem_of_getElem? (i := 79) rfl))) (mvT hZ1 (hw _ (List.mem_of_getElem? (i := 37) rfl))) (mvT hZ1 (hw _ (List.mem_of_getElem? (i := 80) rfl))) (by decide) (backOf (W := 0) (rmH l Z a0 hw [] (cs.getD (n + 1) 0)  h1 n0 (Nat.le_trans Z0 E1.1) (own_dd0 hn' hu0 hh hu)) hZ1 (hw _ (List.mem_of_getElem? (i := 80) rfl)) (hw _ (List.mem_of_getElem? (i := 37) rfl)) (by decide) (by decide)) (g := (mkF m 123 #[.val (.ref a1), .val (.int (Int32.ofNat (n + 1))), .val (.int (cs.getD (n + 1) 0)), .val (.int u0_0)] [(.int (cs.getD (n + 1) 0))])) rfl (by rw [hml]; rfl) (argsL := [(.int (cs.getD (n + 1) 0))]) (rest := []) (lenOf pd_5 rfl) rfl (by show 2 * 0 + _ ≤ _; exact Nat.le_of_eq rfl) (hb hby d8_123) (fun _ _ => ⟨rfl, hq7, (by decide : 2 + 0 ≤ _), (by decide : 20 + 0 ≤ _)⟩)
        dsimp only [Pt.U, Pt.locs, Pt.cells, Pt.slots] at X18 l18 y18 z18 st18 hQ18
        subst l18 y18 z18
        obtain ⟨rfl, N18q, hq18⟩ := hQ18
        have N18 := Fr.app N7 N18q
        have pre19 : ∀ t, Steps p.tables e below (T18.setTop (mkF m 56 #[.val (.ref a1), .val (.int ((Int32.ofNat (n + 1)) + (1 : Int32))), .val (.int (cs.getD (n + 1) 0)), .val (.int u0_0)] [])) t → Steps p.tables e below (s₁.setTop (entryFrame m #[(.ref a1)] 4)) t := by
          intro t k
          refine pre17 t ?_
          refine XS.ifYes X7.here hx rfl (pc0 := 99) (pc' := 118) rfl (hb hby d8_99) rfl ((if0 _ _).trans (teq hu).1) (by decide) (by decide) ?_
          show Steps p.tables e below (T7.setTop (mkF m 118 #[.val (.ref a1), .val (.int (Int32.ofNat (n + 1))), .val (.int (cs.getD (n + 1) 0)), .val (.int u0_0)] [])) _
          refine XS.iloadN X7.here hx rfl (hb hby d8_118) rfl ?_
          refine XS.ifNo X7.here hx rfl (hb hby d8_119) rfl ((if0 _ _).trans (teq hu).2) ?_
          refine XS.iloadN X7.here hx rfl (hb hby d8_122) rfl ?_
          refine st18 _ ?_
          refine XS.ifYes X18.here hx rfl (pc0 := 126) (pc' := 139) rfl (hb hby d8_126) rfl ((if0 _ _).trans (feq (by decide : ¬ ((1 : Int32) = (0 : Int32)))).2) (by decide) (by decide) ?_
          refine XS.iinc X18.here hx rfl (hb hby d8_139) rfl (l' := #[.val (.ref a1), .val (.int ((Int32.ofNat (n + 1)) + (1 : Int32))), .val (.int (cs.getD (n + 1) 0)), .val (.int u0_0)]) rfl ?_
          show Steps p.tables e below (T18.setTop (mkF m 142 #[.val (.ref a1), .val (.int ((Int32.ofNat (n + 1)) + (1 : Int32))), .val (.int (cs.getD (n + 1) 0)), .val (.int u0_0)] [])) _
          refine XS.goto X18.here hx rfl (pc0 := 142) (pc' := 56) rfl (hb hby d8_142) (by decide) (by decide) ?_
          exact k
        rw [own_s1 (rfl : Int32.ofNat (n + 1) = Int32.ofNat (n + 1))] at pre19
        exact ⟨T18, _, _, _, X18, hq18, N18, pre19⟩
      · skip
        have pre20 : ∀ t, Steps p.tables e below (T7.setTop (mkF m 56 #[.val (.ref a1), .val (.int ((Int32.ofNat (n + 1)) + (1 : Int32))), .val (.int (cs.getD (n + 1) 0)), .val (.int u0_0)] [])) t → Steps p.tables e below (s₁.setTop (entryFrame m #[(.ref a1)] 4)) t := by
          intro t k
          refine pre17 t ?_
          refine XS.ifNo X7.here hx rfl (hb hby d8_99) rfl ((if0 _ _).trans (feq hu).1) ?_
          refine XS.iloadN X7.here hx rfl (hb hby d8_102) rfl ?_
          refine XS.bipush X7.here hx rfl (hb hby d8_103) ?_
          refine XS.icmpYes X7.here hx rfl (pc0 := 105) (pc' := 118) rfl (hb hby d8_105) rfl (teq (own_dd1 hn' hu0 dx8 dx13 dx18 dx23 hu)).1 (by decide) (by decide) ?_
          refine XS.iloadN X7.here hx rfl (hb hby d8_118) rfl ?_
          show Steps p.tables e below (T7.setTop (mkF m 119 #[.val (.ref a1), .val (.int (Int32.ofNat (n + 1))), .val (.int (cs.getD (n + 1) 0)), .val (.int u0_0)] [(.int u0_0)])) _
          refine XS.ifYes X7.here hx rfl (pc0 := 119) (pc' := 139) rfl (hb hby d8_119) rfl ((if0 _ _).trans (feq hu).2) (by decide) (by decide) ?_
          refine XS.iinc X7.here hx rfl (hb hby d8_139) rfl (l' := #[.val (.ref a1), .val (.int ((Int32.ofNat (n + 1)) + (1 : Int32))), .val (.int (cs.getD (n + 1) 0)), .val (.int u0_0)]) rfl ?_
          refine XS.goto X7.here hx rfl (pc0 := 142) (pc' := 56) rfl (hb hby d8_142) (by decide) (by decide) ?_
          exact k
        rw [own_s1 (rfl : Int32.ofNat (n + 1) = Int32.ofNat (n + 1))] at pre20
        exact ⟨T7, _, _, _, X7, hq7, N7, pre20⟩
  obtain ⟨Tz, oz, y2, y3, Xz, ez, Nz, prez⟩ := lp 35 (Nat.le_refl _)
  obtain ⟨_, _, ⟨T21, L21, k21, n21⟩, -, X21, ⟨Lc21, hQ21, l21, y21, z21⟩, st21⟩ := Jvm.LawKit.callS Xz hx (y := (⟨"java/util/UUID", "fromString", "(Ljava/lang/String;)Ljava/util/UUID;"⟩ : MethodName)) hown1 (mvT hZ1 (hw _ (List.mem_of_getElem? (i := 81) rfl))) (mvT hZ1 (hw _ (List.mem_of_getElem? (i := 82) rfl))) (mvT hZ1 (hw _ (List.mem_of_getElem? (i := 83) rfl))) (mvT hZ1 (hw _ (List.mem_of_getElem? (i := 84) rfl))) (by decide) (backOf (W := 0) (rmFS l Z a0 hw [] a1 ay kb cs G1 fm aN cN h1 n0 (Nat.le_trans Z0 E1.1) SS1) hZ1 (hw _ (List.mem_of_getElem? (i := 84) rfl)) (hw _ (List.mem_of_getElem? (i := 83) rfl)) (by decide) (by decide)) (g := (mkF m 146 #[.val (.ref a1), .val (.int (Int32.ofNat (35 + 1))), .val (.int y2), .val (.int y3)] [(.ref a1)])) rfl (by rw [hml]; rfl) (argsL := [(.ref a1)]) (rest := []) (lenOf pd_6 rfl) rfl (by show 2 * 0 + _ ≤ _; exact Nat.le_of_eq rfl) (hb hby d8_146) (fun _ _ => ⟨rfl, ez, (by decide : 2 + 1 ≤ _), (by decide : 20 + 2 ≤ _)⟩)
  dsimp only [Pt.U, Pt.locs, Pt.cells, Pt.slots] at X21 l21 y21 z21 st21 hQ21
  subst l21 y21 z21
  obtain ⟨ar21, rfl, N21q, Kq21, Eq21, F1q21, F2q21⟩ := hQ21
  have N21 := Fr.app Nz N21q
  have K21 : Keep h0 T21.heap [] := K1.trans Kq21 all0
  have pre22 : ∀ t, Steps p.tables e below (T21.setTop (mkF m 149 #[.val (.ref a1), .val (.int (Int32.ofNat (35 + 1))), .val (.int y2), .val (.int y3)] [(.ref ar21)])) t → Steps p.tables e below (s₁.setTop (entryFrame m #[(.ref a1)] 4)) t := by
    intro t k
    refine prez t ?_
    refine XS.iloadN Xz.here hx rfl (hb hby d8_56) rfl ?_
    refine XS.bipush Xz.here hx rfl (hb hby d8_57) ?_
    show Steps p.tables e below (Tz.setTop (mkF m 59 #[.val (.ref a1), .val (.int (Int32.ofNat (35 + 1))), .val (.int y2), .val (.int y3)] [(.int (36 : Int32)), (.int (Int32.ofNat (35 + 1)))])) _
    refine XS.icmpYes Xz.here hx rfl (pc0 := 59) (pc' := 145) rfl (hb hby d8_59) rfl (flt (by decide : ¬ ((Int32.ofNat (35 + 1)) < (36 : Int32)))).2.1 (by decide) (by decide) ?_
    refine XS.aloadN Xz.here hx rfl (hb hby d8_145) rfl (rfl) ?_
    refine st21 _ ?_
    exact k
  obtain ⟨fs, hr, hrun, hended, hq⟩ := X21.leaveW (s := s) (vm₁ := T1.vm) hS1 (Nat.le_trans hk1 Kq21.1) (v := some (.ref ar21)) (fun h => by rw [Bd.returns] at h; cases h)
  refine ⟨_, _, pre22 _ ?_, hrun, hended, _, _, rfl, ?_, hq.1, hq.2.1, hq.2.2.1, hq.2.2.2.mono (by decide) (by decide)⟩
  · exact retOut X21 hx Bd.returns (by first | rfl | simp [narrow]) (Or.inr (Or.inr (Or.inr (Or.inr ⟨rfl, rfl, rfl⟩)))) (hb hby d8_149) hr
  · show Q_rmP Z a1 ay kb cs G1 fm aN cN h0 n0 _ T21.heap _
    exact ⟨ar21, rfl, N21, K21, Eq21, F1q21, F2q21⟩
theorem ef_rm0 (m : MethodId) (x0 : Int64) (x1 : Int64) (x2 : Int32) : entryFrame m #[(.long x0), (.long x1), (.int x2)] maxLocals = mkF m 0 #[.val (.long x0), .second, .val (.long x1), .second, .val (.int x2), .unset, .unset, .unset] [] := by first | (simp [entryFrame, mkF, argsToLocals, Value.category, maxLocals]; done) | rfl
theorem own_ci {d : Int32} {q : Int64} {cb j : Int32} (i : Nat) (h : d = nar .char (own_hx q (Int32.ofNat i) cb j)) (hi : i < 64) : d ∈ own_H ∧ own_val d = Int32.ofNat (own_D q i) := by
  obtain ⟨m1, m2⟩ := own_hxD q cb j i hi
  rw [h, own_nar _ m1]; exact ⟨m1, m2⟩
theorem pd_7 : parseMethodDescriptor "(JIII)C" = some ⟨[.long, .int, .int, .int], some .char⟩ := by decide +kernel
theorem own_hp36 {c0 c1 c2 c3 c4 c5 c6 c7 c8 c9 c10 c11 c12 c13 c14 c15 c16 c17 c18 c19 c20 c21 c22 c23 c24 c25 c26 c27 c28 c29 c30 c31 c32 c33 c34 c35 : Int32} (m0 : c0 ∈ own_H) (m1 : c1 ∈ own_H) (m2 : c2 ∈ own_H) (m3 : c3 ∈ own_H) (m4 : c4 ∈ own_H) (m5 : c5 ∈ own_H) (m6 : c6 ∈ own_H) (m7 : c7 ∈ own_H) (m8 : c8 = 45) (m9 : c9 ∈ own_H) (m10 : c10 ∈ own_H) (m11 : c11 ∈ own_H) (m12 : c12 ∈ own_H) (m13 : c13 = 45) (m14 : c14 ∈ own_H) (m15 : c15 ∈ own_H) (m16 : c16 ∈ own_H) (m17 : c17 ∈ own_H) (m18 : c18 = 45) (m19 : c19 ∈ own_H) (m20 : c20 ∈ own_H) (m21 : c21 ∈ own_H) (m22 : c22 ∈ own_H) (m23 : c23 = 45) (m24 : c24 ∈ own_H) (m25 : c25 ∈ own_H) (m26 : c26 ∈ own_H) (m27 : c27 ∈ own_H) (m28 : c28 ∈ own_H) (m29 : c29 ∈ own_H) (m30 : c30 ∈ own_H) (m31 : c31 ∈ own_H) (m32 : c32 ∈ own_H) (m33 : c33 ∈ own_H) (m34 : c34 ∈ own_H) (m35 : c35 ∈ own_H) : ∀ d ∈ ([c0, c1, c2, c3, c4, c5, c6, c7, c8, c9, c10, c11, c12, c13, c14, c15, c16, c17, c18, c19, c20, c21, c22, c23, c24, c25, c26, c27, c28, c29, c30, c31, c32, c33, c34, c35] : List Int32), ¬ d < 0 ∧ ¬ (255 : Int32) < d := List.forall_mem_cons.mpr ⟨own_Hb _ m0, List.forall_mem_cons.mpr ⟨own_Hb _ m1, List.forall_mem_cons.mpr ⟨own_Hb _ m2, List.forall_mem_cons.mpr ⟨own_Hb _ m3, List.forall_mem_cons.mpr ⟨own_Hb _ m4, List.forall_mem_cons.mpr ⟨own_Hb _ m5, List.forall_mem_cons.mpr ⟨own_Hb _ m6, List.forall_mem_cons.mpr ⟨own_Hb _ m7, List.forall_mem_cons.mpr ⟨(by rw [m8]; decide), List.forall_mem_cons.mpr ⟨own_Hb _ m9, List.forall_mem_cons.mpr ⟨own_Hb _ m10, List.forall_mem_cons.mpr ⟨own_Hb _ m11, List.forall_mem_cons.mpr ⟨own_Hb _ m12, List.forall_mem_cons.mpr ⟨(by rw [m13]; decide), List.forall_mem_cons.mpr ⟨own_Hb _ m14, List.forall_mem_cons.mpr ⟨own_Hb _ m15, List.forall_mem_cons.mpr ⟨own_Hb _ m16, List.forall_mem_cons.mpr ⟨own_Hb _ m17, List.forall_mem_cons.mpr ⟨(by rw [m18]; decide), List.forall_mem_cons.mpr ⟨own_Hb _ m19, List.forall_mem_cons.mpr ⟨own_Hb _ m20, List.forall_mem_cons.mpr ⟨own_Hb _ m21, List.forall_mem_cons.mpr ⟨own_Hb _ m22, List.forall_mem_cons.mpr ⟨(by rw [m23]; decide), List.forall_mem_cons.mpr ⟨own_Hb _ m24, List.forall_mem_cons.mpr ⟨own_Hb _ m25, List.forall_mem_cons.mpr ⟨own_Hb _ m26, List.forall_mem_cons.mpr ⟨own_Hb _ m27, List.forall_mem_cons.mpr ⟨own_Hb _ m28, List.forall_mem_cons.mpr ⟨own_Hb _ m29, List.forall_mem_cons.mpr ⟨own_Hb _ m30, List.forall_mem_cons.mpr ⟨own_Hb _ m31, List.forall_mem_cons.mpr ⟨own_Hb _ m32, List.forall_mem_cons.mpr ⟨own_Hb _ m33, List.forall_mem_cons.mpr ⟨own_Hb _ m34, List.forall_mem_cons.mpr ⟨own_Hb _ m35, fun _ hd => nomatch hd⟩⟩⟩⟩⟩⟩⟩⟩⟩⟩⟩⟩⟩⟩⟩⟩⟩⟩⟩⟩⟩⟩⟩⟩⟩⟩⟩⟩⟩⟩⟩⟩⟩⟩⟩⟩
theorem own_hh36 {c0 c1 c2 c3 c4 c5 c6 c7 c8 c9 c10 c11 c12 c13 c14 c15 c16 c17 c18 c19 c20 c21 c22 c23 c24 c25 c26 c27 c28 c29 c30 c31 c32 c33 c34 c35 : Int32} (m0 : c0 ∈ own_H) (m1 : c1 ∈ own_H) (m2 : c2 ∈ own_H) (m3 : c3 ∈ own_H) (m4 : c4 ∈ own_H) (m5 : c5 ∈ own_H) (m6 : c6 ∈ own_H) (m7 : c7 ∈ own_H) (m8 : c8 = 45) (m9 : c9 ∈ own_H) (m10 : c10 ∈ own_H) (m11 : c11 ∈ own_H) (m12 : c12 ∈ own_H) (m13 : c13 = 45) (m14 : c14 ∈ own_H) (m15 : c15 ∈ own_H) (m16 : c16 ∈ own_H) (m17 : c17 ∈ own_H) (m18 : c18 = 45) (m19 : c19 ∈ own_H) (m20 : c20 ∈ own_H) (m21 : c21 ∈ own_H) (m22 : c22 ∈ own_H) (m23 : c23 = 45) (m24 : c24 ∈ own_H) (m25 : c25 ∈ own_H) (m26 : c26 ∈ own_H) (m27 : c27 ∈ own_H) (m28 : c28 ∈ own_H) (m29 : c29 ∈ own_H) (m30 : c30 ∈ own_H) (m31 : c31 ∈ own_H) (m32 : c32 ∈ own_H) (m33 : c33 ∈ own_H) (m34 : c34 ∈ own_H) (m35 : c35 ∈ own_H) : own_hexAt ([c0, c1, c2, c3, c4, c5, c6, c7, c8, c9, c10, c11, c12, c13, c14, c15, c16, c17, c18, c19, c20, c21, c22, c23, c24, c25, c26, c27, c28, c29, c30, c31, c32, c33, c34, c35] : List Int32) := by
  intro i hi g1 g2 g3 g4
  obtain rfl | rfl | rfl | rfl | rfl | rfl | rfl | rfl | rfl | rfl | rfl | rfl | rfl | rfl | rfl | rfl | rfl | rfl | rfl | rfl | rfl | rfl | rfl | rfl | rfl | rfl | rfl | rfl | rfl | rfl | rfl | rfl : i = 0 ∨ i = 1 ∨ i = 2 ∨ i = 3 ∨ i = 4 ∨ i = 5 ∨ i = 6 ∨ i = 7 ∨ i = 9 ∨ i = 10 ∨ i = 11 ∨ i = 12 ∨ i = 14 ∨ i = 15 ∨ i = 16 ∨ i = 17 ∨ i = 19 ∨ i = 20 ∨ i = 21 ∨ i = 22 ∨ i = 24 ∨ i = 25 ∨ i = 26 ∨ i = 27 ∨ i = 28 ∨ i = 29 ∨ i = 30 ∨ i = 31 ∨ i = 32 ∨ i = 33 ∨ i = 34 ∨ i = 35 := by omega
  · exact m0
  · exact m1
  · exact m2
  · exact m3
  · exact m4
  · exact m5
  · exact m6
  · exact m7
  · exact m9
  · exact m10
  · exact m11
  · exact m12
  · exact m14
  · exact m15
  · exact m16
  · exact m17
  · exact m19
  · exact m20
  · exact m21
  · exact m22
  · exact m24
  · exact m25
  · exact m26
  · exact m27
  · exact m28
  · exact m29
  · exact m30
  · exact m31
  · exact m32
  · exact m33
  · exact m34
  · exact m35
theorem pd_8 : parseMethodDescriptor "([C)V" = some ⟨[(.array .char)], none⟩ := by decide +kernel
theorem pd_9 : parseMethodDescriptor "()J" = some ⟨[], some .long⟩ := by decide +kernel
def Q_rm0 (Z : State) (q1 : Int64) (q2 : Int64) (p1 : Int32) (G1 : Int32) (fm : Value) (aN : Addr) (cN : Cell) (h0 : Heap) (n0 : Nat) (v : Option Value) (h : Heap) (L : List Loc) : Prop := v = some (.int 1) ∧ Fr n0 L
set_option maxRecDepth 65536 in
set_option maxHeartbeats 40000000 in
theorem rm0 (l : Launch) (Z : State) (a0 : Array Value) (hw : ∀ d ∈ tables_1, d.before a0 Z = true) (ws : List Jvm.Cond) (q1 : Int64) (q2 : Int64) (p1 : Int32) (G1 : Int32) (fm : Value) (aN : Addr) (cN : Cell) (h0 : Heap) (n0 : Nat) (Z0 : n0 ≤ h0.size) (O0 : Old Z n0 h0) (SC : Sta Z Z.heap "java/lang/String" "COMPACT_STRINGS" "Z" (.int G1)) (P5 : ¬ (G1 = (0 : Int32))) (SF : Sta Z Z.heap "jdk/internal/util/Preconditions" "SIOOBE_FORMATTER" "Ljava/util/function/BiFunction;" fm) (rF : fm.isRef = true) (SNib : Sta Z Z.heap "java/util/UUID" "NIBBLES" "[B" (.ref aN)) (AN : Arr Z Z.heap aN cN .byte) (SzN : cN.slots.size = 256) (nib : ∀ c ∈ own_H, cN.slots[c.toNatClampNeg]? = some (.int (own_val c))) :
    MetFree l x (head1 (Jvm.Cond.code x code maxLocals ret :: ws) room_1) (fun a U => a = #[(.long q1), (.long q2), (.int p1)] ∧ Z.Warmed39 U.vm ∧ U.heap = h0) (fun _ _ _ _ _ => True) (fun _ U o U' => ∃ v L, o = .returned v ∧ Q_rm0 Z q1 q2 p1 G1 fm aN cN h0 n0 v U'.heap L ∧ ReturnedEndW U o U' L room_1.cells room_1.slots) := by
  refine MetFree.of_bodySF (plainFor_of_name pn_1) hisR ?_
  intro p e s m args below meth c s₁ Bd hml0 hP hK
  obtain ⟨rfl, hZ, hh⟩ := hP
  have hx := Bd.exec
  have hby := Bd.bytes
  have hml : c.maxLocals = 8 := hml0
  have hown : s.vm.findClass "com/example/nonce/nonce/id/UuidTextParsePinLaw" = some m.cls := (findClass_of_methodNamed Bd.named :)
  have hnm := (name_of_methodNamed Bd.named Bd.method).1
  have X0 : Stand p l e room_1 s m #[(.long q1), (.long q2), (.int p1)] below meth c s₁ [] 0 0 := Stand.of_body Bd
  have e0 : s₁.heap = h0 := by rw [← hh, Bd.state]; rfl
  have N0 := Fr.nil n0
  have pre0 : ∀ t, Steps p.tables e below (s₁.setTop (mkF m 0 #[.val (.long q1), .second, .val (.long q2), .second, .val (.int p1), .unset, .unset, .unset] [])) t → Steps p.tables e below (s₁.setTop (entryFrame m #[(.long q1), (.long q2), (.int p1)] maxLocals)) t := fun t k => castTop (ef_rm0 m q1 q2 p1) k
  have hS0 : s.Since s.vm 0 := (State.WarmedH.refl s).since 0
  have hk0 : 0 ≤ h0.size := Nat.zero_le _
  have wS := own_wS hw
  obtain ⟨T1, h1, k1, X1, e1, E1, A1, st1⟩ := newP X0 hx hZ (hw _ (List.mem_of_getElem? (i := 0) rfl)) e0 (g := (mkF m 2 #[.val (.long q1), .second, .val (.long q2), .second, .val (.int p1), .unset, .unset, .unset] [(.int (36 : Int32))])) rfl (hb hby at_2) rfl (by decide) (cap := 36) (by decide) (by decide) (by decide) (by decide)
  obtain ⟨b1, g1⟩ : ∃ z, z = h0.size := ⟨_, rfl⟩
  rw [← g1] at A1 st1
  have V1 : Arv Z h1 b1 k1 .char (36 : Int32) [(.int (0 : Int32)), (.int (0 : Int32)), (.int (0 : Int32)), (.int (0 : Int32)), (.int (0 : Int32)), (.int (0 : Int32)), (.int (0 : Int32)), (.int (0 : Int32)), (.int (0 : Int32)), (.int (0 : Int32)), (.int (0 : Int32)), (.int (0 : Int32)), (.int (0 : Int32)), (.int (0 : Int32)), (.int (0 : Int32)), (.int (0 : Int32)), (.int (0 : Int32)), (.int (0 : Int32)), (.int (0 : Int32)), (.int (0 : Int32)), (.int (0 : Int32)), (.int (0 : Int32)), (.int (0 : Int32)), (.int (0 : Int32)), (.int (0 : Int32)), (.int (0 : Int32)), (.int (0 : Int32)), (.int (0 : Int32)), (.int (0 : Int32)), (.int (0 : Int32)), (.int (0 : Int32)), (.int (0 : Int32)), (.int (0 : Int32)), (.int (0 : Int32)), (.int (0 : Int32)), (.int (0 : Int32))] (.int (0 : Int32)) := (Arv.new A1 (by decide)).pad (pad_rep [] (.int (0 : Int32)) 36)
  have g_b1 : n0 ≤ b1 := Nat.le_trans Z0 (Nat.le_of_eq g1.symm)
  have sz_b1 : h0.size ≤ b1 := (Nat.le_trans (Keep.refl h0 []).1 (Nat.le_of_eq g1.symm))
  have K1 : Keep h0 h1 [] := (Keep.refl h0 []).ext E1
  have pre2 : ∀ t, Steps p.tables e below (T1.setTop (mkF m 6 #[.val (.long q1), .second, .val (.long q2), .second, .val (.int p1), .val (.ref b1), .unset, .unset] [])) t → Steps p.tables e below (s₁.setTop (entryFrame m #[(.long q1), (.long q2), (.int p1)] maxLocals)) t := by
    intro t k
    refine pre0 t ?_
    refine XS.bipush X0.here hx rfl (hb hby at_0) ?_
    refine st1 _ ?_
    refine XS.astore X1.here hx rfl (hb hby at_4) rfl (rfl) (l' := #[.val (.long q1), .second, .val (.long q2), .second, .val (.int p1), .val (.ref b1), .unset, .unset]) rfl ?_
    exact k
  obtain ⟨Tt0, ot0, ht0, c0, Xt0, et0, Nt0, Zt0, hc0, Vt0, Ot0, pret0⟩ : ∃ (Tt : State) (ot : List Loc) (ht : Heap) (ct : Int32), (Stand p l e room_1 s m #[(.long q1), (.long q2), (.int p1)] below meth c Tt ot 1 36) ∧ (Tt.heap = ht) ∧ (Fr n0 ot) ∧ (n0 ≤ ht.size) ∧ (ct = nar .char (own_hx q1 (60 : Int32) p1 (0 : Int32))) ∧ (Arv Z ht b1 k1 .char (36 : Int32) [(.int ct), (.int (0 : Int32)), (.int (0 : Int32)), (.int (0 : Int32)), (.int (0 : Int32)), (.int (0 : Int32)), (.int (0 : Int32)), (.int (0 : Int32)), (.int (0 : Int32)), (.int (0 : Int32)), (.int (0 : Int32)), (.int (0 : Int32)), (.int (0 : Int32)), (.int (0 : Int32)), (.int (0 : Int32)), (.int (0 : Int32)), (.int (0 : Int32)), (.int (0 : Int32)), (.int (0 : Int32)), (.int (0 : Int32)), (.int (0 : Int32)), (.int (0 : Int32)), (.int (0 : Int32)), (.int (0 : Int32)), (.int (0 : Int32)), (.int (0 : Int32)), (.int (0 : Int32)), (.int (0 : Int32)), (.int (0 : Int32)), (.int (0 : Int32)), (.int (0 : Int32)), (.int (0 : Int32)), (.int (0 : Int32)), (.int (0 : Int32)), (.int (0 : Int32)), (.int (0 : Int32))] (.int (0 : Int32))) ∧ (Old Z n0 ht) ∧ (∀ t, Steps p.tables e below (Tt.setTop (mkF m 19 #[.val (.long q1), .second, .val (.long q2), .second, .val (.int p1), .val (.ref b1), .unset, .unset] [])) t → Steps p.tables e below (s₁.setTop (entryFrame m #[(.long q1), (.long q2), (.int p1)] maxLocals)) t) := by
    obtain ⟨_, _, ⟨T3, L3, k3, n3⟩, -, X3, ⟨Lc3, hQ3, l3, y3, z3⟩, st3⟩ := Jvm.LawKit.callS X1 hx (y := (⟨"com/example/nonce/nonce/id/UuidTextParsePinLaw", "hex", "(JIII)C"⟩ : MethodName)) hown (mvT hZ (hw _ (List.mem_of_getElem? (i := 1) rfl))) (mvT hZ (hw _ (List.mem_of_getElem? (i := 2) rfl))) (mvT hZ (hw _ (List.mem_of_getElem? (i := 3) rfl))) (mvT hZ (hw _ (List.mem_of_getElem? (i := 4) rfl))) (by decide) (backOf (W := 2) (rmX l Z a0 hw [] q1 (60 : Int32) p1 (0 : Int32)  h1 n0 (Nat.le_trans Z0 E1.1) ) hZ (hw _ (List.mem_of_getElem? (i := 4) rfl)) (hw _ (List.mem_of_getElem? (i := 3) rfl)) (by decide) (by decide)) (g := (mkF m 15 #[.val (.long q1), .second, .val (.long q2), .second, .val (.int p1), .val (.ref b1), .unset, .unset] [(.int (0 : Int32)), (.int p1), (.int (60 : Int32)), (.long q1), (.int (0 : Int32)), (.ref b1)])) rfl (by rw [hml]; rfl) (argsL := [(.long q1), (.int (60 : Int32)), (.int p1), (.int (0 : Int32))]) (rest := [(.int (0 : Int32)), (.ref b1)]) (lenOf pd_7 rfl) rfl (by show 2 * 0 + _ ≤ _; exact Nat.le_of_eq rfl) (hb hby at_15) (fun _ _ => ⟨rfl, e1, (by decide : 1 + 0 ≤ _), (by decide : 36 + 0 ≤ _)⟩)
    dsimp only [Pt.U, Pt.locs, Pt.cells, Pt.slots] at X3 l3 y3 z3 st3 hQ3
    subst l3 y3 z3
    obtain ⟨rfl, N3q, hq3⟩ := hQ3
    have N3 := Fr.app N0 N3q
    obtain ⟨cl4, Ar4, q4, S4, M4, H4, G4⟩ := id V1
    have hin4 : ¬ ((0 : Int32) < 0 ∨ cl4.slots.size ≤ ((0 : Int32)).toNatClampNeg) := inb_of S4 ⟨by decide, by decide⟩
    obtain ⟨T5, h5, X5, e5, W5, st5⟩ := stC X3 hx hZ hq3 Ar4 (j := (0 : Int32)) hin4 (g := (mkF m 18 #[.val (.long q1), .second, .val (.long q2), .second, .val (.int p1), .val (.ref b1), .unset, .unset] [(.int (own_hx q1 (60 : Int32) p1 (0 : Int32))), (.int (0 : Int32)), (.ref b1)])) rfl rfl (hb hby at_18)
    obtain ⟨c0, hc0⟩ : ∃ z : Int32, z = nar .char (own_hx q1 (60 : Int32) p1 (0 : Int32)) := ⟨_, rfl⟩
    rw [← hc0] at W5
    have V5 : Arv Z h5 b1 k1 .char (36 : Int32) [(.int c0), (.int (0 : Int32)), (.int (0 : Int32)), (.int (0 : Int32)), (.int (0 : Int32)), (.int (0 : Int32)), (.int (0 : Int32)), (.int (0 : Int32)), (.int (0 : Int32)), (.int (0 : Int32)), (.int (0 : Int32)), (.int (0 : Int32)), (.int (0 : Int32)), (.int (0 : Int32)), (.int (0 : Int32)), (.int (0 : Int32)), (.int (0 : Int32)), (.int (0 : Int32)), (.int (0 : Int32)), (.int (0 : Int32)), (.int (0 : Int32)), (.int (0 : Int32)), (.int (0 : Int32)), (.int (0 : Int32)), (.int (0 : Int32)), (.int (0 : Int32)), (.int (0 : Int32)), (.int (0 : Int32)), (.int (0 : Int32)), (.int (0 : Int32)), (.int (0 : Int32)), (.int (0 : Int32)), (.int (0 : Int32)), (.int (0 : Int32)), (.int (0 : Int32)), (.int (0 : Int32))] (.int (0 : Int32)) := Arv.set Ar4 q4 S4 M4 H4 G4 (by rw [hc0]; exact fits_nar_char _) W5 0 rfl (Nat.le_of_ble_eq_true rfl)
    have K5 : Keep h0 h5 [] := K1.wr W5 (Or.inr sz_b1)
    have N5 := Fr.snoc X5 N3 g_b1
    have pre6 : ∀ t, Steps p.tables e below (T5.setTop (mkF m 19 #[.val (.long q1), .second, .val (.long q2), .second, .val (.int p1), .val (.ref b1), .unset, .unset] [])) t → Steps p.tables e below (s₁.setTop (entryFrame m #[(.long q1), (.long q2), (.int p1)] maxLocals)) t := by
      intro t k
      refine pre2 t ?_
      refine XS.aload X1.here hx rfl (hb hby at_6) rfl (rfl) ?_
      show Steps p.tables e below (T1.setTop (mkF m 8 #[.val (.long q1), .second, .val (.long q2), .second, .val (.int p1), .val (.ref b1), .unset, .unset] [(.ref b1)])) _
      refine XS.iconst X1.here hx rfl (hb hby at_8) ?_
      refine XS.lloadN X1.here hx rfl (hb hby at_9) rfl ?_
      refine XS.bipush X1.here hx rfl (hb hby at_10) ?_
      refine XS.iload X1.here hx rfl (hb hby at_12) rfl ?_
      refine XS.iconst X1.here hx rfl (hb hby at_14) ?_
      refine st3 _ ?_
      show Steps p.tables e below (T3.setTop (mkF m 18 #[.val (.long q1), .second, .val (.long q2), .second, .val (.int p1), .val (.ref b1), .unset, .unset] [(.int (own_hx q1 (60 : Int32) p1 (0 : Int32))), (.int (0 : Int32)), (.ref b1)])) _
      refine st5 _ ?_
      exact k
    exact ⟨T5, _, h5, c0, X5, e5, N5, (Nat.le_trans (Nat.le_trans Z0 E1.1) (Keep.of_wr W5).1), hc0, V5, ((O0.ext E1).wr W5 g_b1), pre6⟩
  obtain ⟨Tt1, ot1, ht1, c1, Xt1, et1, Nt1, Zt1, hc1, Vt1, Ot1, pret1⟩ : ∃ (Tt : State) (ot : List Loc) (ht : Heap) (ct : Int32), (Stand p l e room_1 s m #[(.long q1), (.long q2), (.int p1)] below meth c Tt ot 1 36) ∧ (Tt.heap = ht) ∧ (Fr n0 ot) ∧ (n0 ≤ ht.size) ∧ (ct = nar .char (own_hx q1 (56 : Int32) p1 (1 : Int32))) ∧ (Arv Z ht b1 k1 .char (36 : Int32) [(.int c0), (.int ct), (.int (0 : Int32)), (.int (0 : Int32)), (.int (0 : Int32)), (.int (0 : Int32)), (.int (0 : Int32)), (.int (0 : Int32)), (.int (0 : Int32)), (.int (0 : Int32)), (.int (0 : Int32)), (.int (0 : Int32)), (.int (0 : Int32)), (.int (0 : Int32)), (.int (0 : Int32)), (.int (0 : Int32)), (.int (0 : Int32)), (.int (0 : Int32)), (.int (0 : Int32)), (.int (0 : Int32)), (.int (0 : Int32)), (.int (0 : Int32)), (.int (0 : Int32)), (.int (0 : Int32)), (.int (0 : Int32)), (.int (0 : Int32)), (.int (0 : Int32)), (.int (0 : Int32)), (.int (0 : Int32)), (.int (0 : Int32)), (.int (0 : Int32)), (.int (0 : Int32)), (.int (0 : Int32)), (.int (0 : Int32)), (.int (0 : Int32)), (.int (0 : Int32))] (.int (0 : Int32))) ∧ (Old Z n0 ht) ∧ (∀ t, Steps p.tables e below (Tt.setTop (mkF m 32 #[.val (.long q1), .second, .val (.long q2), .second, .val (.int p1), .val (.ref b1), .unset, .unset] [])) t → Steps p.tables e below (s₁.setTop (entryFrame m #[(.long q1), (.long q2), (.int p1)] maxLocals)) t) := by
    obtain ⟨_, _, ⟨T7, L7, k7, n7⟩, -, X7, ⟨Lc7, hQ7, l7, y7, z7⟩, st7⟩ := Jvm.LawKit.callS Xt0 hx (y := (⟨"com/example/nonce/nonce/id/UuidTextParsePinLaw", "hex", "(JIII)C"⟩ : MethodName)) hown (mvT hZ (hw _ (List.mem_of_getElem? (i := 1) rfl))) (mvT hZ (hw _ (List.mem_of_getElem? (i := 2) rfl))) (mvT hZ (hw _ (List.mem_of_getElem? (i := 3) rfl))) (mvT hZ (hw _ (List.mem_of_getElem? (i := 4) rfl))) (by decide) (backOf (W := 2) (rmX l Z a0 hw [] q1 (56 : Int32) p1 (1 : Int32)  ht0 n0 Zt0 ) hZ (hw _ (List.mem_of_getElem? (i := 4) rfl)) (hw _ (List.mem_of_getElem? (i := 3) rfl)) (by decide) (by decide)) (g := (mkF m 28 #[.val (.long q1), .second, .val (.long q2), .second, .val (.int p1), .val (.ref b1), .unset, .unset] [(.int (1 : Int32)), (.int p1), (.int (56 : Int32)), (.long q1), (.int (1 : Int32)), (.ref b1)])) rfl (by rw [hml]; rfl) (argsL := [(.long q1), (.int (56 : Int32)), (.int p1), (.int (1 : Int32))]) (rest := [(.int (1 : Int32)), (.ref b1)]) (lenOf pd_7 rfl) rfl (by show 2 * 0 + _ ≤ _; exact Nat.le_of_eq rfl) (hb hby at_28) (fun _ _ => ⟨rfl, et0, (by decide : 1 + 0 ≤ _), (by decide : 36 + 0 ≤ _)⟩)
    dsimp only [Pt.U, Pt.locs, Pt.cells, Pt.slots] at X7 l7 y7 z7 st7 hQ7
    subst l7 y7 z7
    obtain ⟨rfl, N7q, hq7⟩ := hQ7
    have N7 := Fr.app Nt0 N7q
    obtain ⟨cl8, Ar8, q8, S8, M8, H8, G8⟩ := id Vt0
    have hin8 : ¬ ((1 : Int32) < 0 ∨ cl8.slots.size ≤ ((1 : Int32)).toNatClampNeg) := inb_of S8 ⟨by decide, by decide⟩
    obtain ⟨T9, h9, X9, e9, W9, st9⟩ := stC X7 hx hZ hq7 Ar8 (j := (1 : Int32)) hin8 (g := (mkF m 31 #[.val (.long q1), .second, .val (.long q2), .second, .val (.int p1), .val (.ref b1), .unset, .unset] [(.int (own_hx q1 (56 : Int32) p1 (1 : Int32))), (.int (1 : Int32)), (.ref b1)])) rfl rfl (hb hby at_31)
    obtain ⟨c1, hc1⟩ : ∃ z : Int32, z = nar .char (own_hx q1 (56 : Int32) p1 (1 : Int32)) := ⟨_, rfl⟩
    rw [← hc1] at W9
    have V9 : Arv Z h9 b1 k1 .char (36 : Int32) [(.int c0), (.int c1), (.int (0 : Int32)), (.int (0 : Int32)), (.int (0 : Int32)), (.int (0 : Int32)), (.int (0 : Int32)), (.int (0 : Int32)), (.int (0 : Int32)), (.int (0 : Int32)), (.int (0 : Int32)), (.int (0 : Int32)), (.int (0 : Int32)), (.int (0 : Int32)), (.int (0 : Int32)), (.int (0 : Int32)), (.int (0 : Int32)), (.int (0 : Int32)), (.int (0 : Int32)), (.int (0 : Int32)), (.int (0 : Int32)), (.int (0 : Int32)), (.int (0 : Int32)), (.int (0 : Int32)), (.int (0 : Int32)), (.int (0 : Int32)), (.int (0 : Int32)), (.int (0 : Int32)), (.int (0 : Int32)), (.int (0 : Int32)), (.int (0 : Int32)), (.int (0 : Int32)), (.int (0 : Int32)), (.int (0 : Int32)), (.int (0 : Int32)), (.int (0 : Int32))] (.int (0 : Int32)) := Arv.set Ar8 q8 S8 M8 H8 G8 (by rw [hc1]; exact fits_nar_char _) W9 1 rfl (Nat.le_of_ble_eq_true rfl)
    have N9 := Fr.snoc X9 N7 g_b1
    have pre10 : ∀ t, Steps p.tables e below (T9.setTop (mkF m 32 #[.val (.long q1), .second, .val (.long q2), .second, .val (.int p1), .val (.ref b1), .unset, .unset] [])) t → Steps p.tables e below (s₁.setTop (entryFrame m #[(.long q1), (.long q2), (.int p1)] maxLocals)) t := by
      intro t k
      refine pret0 t ?_
      refine XS.aload Xt0.here hx rfl (hb hby at_19) rfl (rfl) ?_
      refine XS.iconst Xt0.here hx rfl (hb hby at_21) ?_
      refine XS.lloadN Xt0.here hx rfl (hb hby at_22) rfl ?_
      refine XS.bipush Xt0.here hx rfl (hb hby at_23) ?_
      show Steps p.tables e below (Tt0.setTop (mkF m 25 #[.val (.long q1), .second, .val (.long q2), .second, .val (.int p1), .val (.ref b1), .unset, .unset] [(.int (56 : Int32)), (.long q1), (.int (1 : Int32)), (.ref b1)])) _
      refine XS.iload Xt0.here hx rfl (hb hby at_25) rfl ?_
      refine XS.iconst Xt0.here hx rfl (hb hby at_27) ?_
      refine st7 _ ?_
      refine st9 _ ?_
      exact k
    exact ⟨T9, _, h9, c1, X9, e9, N9, (Nat.le_trans Zt0 (Keep.of_wr W9).1), hc1, V9, (Ot0.wr W9 g_b1), pre10⟩
  obtain ⟨Tt2, ot2, ht2, c2, Xt2, et2, Nt2, Zt2, hc2, Vt2, Ot2, pret2⟩ : ∃ (Tt : State) (ot : List Loc) (ht : Heap) (ct : Int32), (Stand p l e room_1 s m #[(.long q1), (.long q2), (.int p1)] below meth c Tt ot 1 36) ∧ (Tt.heap = ht) ∧ (Fr n0 ot) ∧ (n0 ≤ ht.size) ∧ (ct = nar .char (own_hx q1 (52 : Int32) p1 (2 : Int32))) ∧ (Arv Z ht b1 k1 .char (36 : Int32) [(.int c0), (.int c1), (.int ct), (.int (0 : Int32)), (.int (0 : Int32)), (.int (0 : Int32)), (.int (0 : Int32)), (.int (0 : Int32)), (.int (0 : Int32)), (.int (0 : Int32)), (.int (0 : Int32)), (.int (0 : Int32)), (.int (0 : Int32)), (.int (0 : Int32)), (.int (0 : Int32)), (.int (0 : Int32)), (.int (0 : Int32)), (.int (0 : Int32)), (.int (0 : Int32)), (.int (0 : Int32)), (.int (0 : Int32)), (.int (0 : Int32)), (.int (0 : Int32)), (.int (0 : Int32)), (.int (0 : Int32)), (.int (0 : Int32)), (.int (0 : Int32)), (.int (0 : Int32)), (.int (0 : Int32)), (.int (0 : Int32)), (.int (0 : Int32)), (.int (0 : Int32)), (.int (0 : Int32)), (.int (0 : Int32)), (.int (0 : Int32)), (.int (0 : Int32))] (.int (0 : Int32))) ∧ (Old Z n0 ht) ∧ (∀ t, Steps p.tables e below (Tt.setTop (mkF m 45 #[.val (.long q1), .second, .val (.long q2), .second, .val (.int p1), .val (.ref b1), .unset, .unset] [])) t → Steps p.tables e below (s₁.setTop (entryFrame m #[(.long q1), (.long q2), (.int p1)] maxLocals)) t) := by
    obtain ⟨_, _, ⟨T11, L11, k11, n11⟩, -, X11, ⟨Lc11, hQ11, l11, y11, z11⟩, st11⟩ := Jvm.LawKit.callS Xt1 hx (y := (⟨"com/example/nonce/nonce/id/UuidTextParsePinLaw", "hex", "(JIII)C"⟩ : MethodName)) hown (mvT hZ (hw _ (List.mem_of_getElem? (i := 1) rfl))) (mvT hZ (hw _ (List.mem_of_getElem? (i := 2) rfl))) (mvT hZ (hw _ (List.mem_of_getElem? (i := 3) rfl))) (mvT hZ (hw _ (List.mem_of_getElem? (i := 4) rfl))) (by decide) (backOf (W := 2) (rmX l Z a0 hw [] q1 (52 : Int32) p1 (2 : Int32)  ht1 n0 Zt1 ) hZ (hw _ (List.mem_of_getElem? (i := 4) rfl)) (hw _ (List.mem_of_getElem? (i := 3) rfl)) (by decide) (by decide)) (g := (mkF m 41 #[.val (.long q1), .second, .val (.long q2), .second, .val (.int p1), .val (.ref b1), .unset, .unset] [(.int (2 : Int32)), (.int p1), (.int (52 : Int32)), (.long q1), (.int (2 : Int32)), (.ref b1)])) rfl (by rw [hml]; rfl) (argsL := [(.long q1), (.int (52 : Int32)), (.int p1), (.int (2 : Int32))]) (rest := [(.int (2 : Int32)), (.ref b1)]) (lenOf pd_7 rfl) rfl (by show 2 * 0 + _ ≤ _; exact Nat.le_of_eq rfl) (hb hby at_41) (fun _ _ => ⟨rfl, et1, (by decide : 1 + 0 ≤ _), (by decide : 36 + 0 ≤ _)⟩)
    dsimp only [Pt.U, Pt.locs, Pt.cells, Pt.slots] at X11 l11 y11 z11 st11 hQ11
    subst l11 y11 z11
    obtain ⟨rfl, N11q, hq11⟩ := hQ11
    have N11 := Fr.app Nt1 N11q
    obtain ⟨cl12, Ar12, q12, S12, M12, H12, G12⟩ := id Vt1
    have hin12 : ¬ ((2 : Int32) < 0 ∨ cl12.slots.size ≤ ((2 : Int32)).toNatClampNeg) := inb_of S12 ⟨by decide, by decide⟩
    obtain ⟨T13, h13, X13, e13, W13, st13⟩ := stC X11 hx hZ hq11 Ar12 (j := (2 : Int32)) hin12 (g := (mkF m 44 #[.val (.long q1), .second, .val (.long q2), .second, .val (.int p1), .val (.ref b1), .unset, .unset] [(.int (own_hx q1 (52 : Int32) p1 (2 : Int32))), (.int (2 : Int32)), (.ref b1)])) rfl rfl (hb hby at_44)
    obtain ⟨c2, hc2⟩ : ∃ z : Int32, z = nar .char (own_hx q1 (52 : Int32) p1 (2 : Int32)) := ⟨_, rfl⟩
    rw [← hc2] at W13
    have V13 : Arv Z h13 b1 k1 .char (36 : Int32) [(.int c0), (.int c1), (.int c2), (.int (0 : Int32)), (.int (0 : Int32)), (.int (0 : Int32)), (.int (0 : Int32)), (.int (0 : Int32)), (.int (0 : Int32)), (.int (0 : Int32)), (.int (0 : Int32)), (.int (0 : Int32)), (.int (0 : Int32)), (.int (0 : Int32)), (.int (0 : Int32)), (.int (0 : Int32)), (.int (0 : Int32)), (.int (0 : Int32)), (.int (0 : Int32)), (.int (0 : Int32)), (.int (0 : Int32)), (.int (0 : Int32)), (.int (0 : Int32)), (.int (0 : Int32)), (.int (0 : Int32)), (.int (0 : Int32)), (.int (0 : Int32)), (.int (0 : Int32)), (.int (0 : Int32)), (.int (0 : Int32)), (.int (0 : Int32)), (.int (0 : Int32)), (.int (0 : Int32)), (.int (0 : Int32)), (.int (0 : Int32)), (.int (0 : Int32))] (.int (0 : Int32)) := Arv.set Ar12 q12 S12 M12 H12 G12 (by rw [hc2]; exact fits_nar_char _) W13 2 rfl (Nat.le_of_ble_eq_true rfl)
    have N13 := Fr.snoc X13 N11 g_b1
    have pre14 : ∀ t, Steps p.tables e below (T13.setTop (mkF m 45 #[.val (.long q1), .second, .val (.long q2), .second, .val (.int p1), .val (.ref b1), .unset, .unset] [])) t → Steps p.tables e below (s₁.setTop (entryFrame m #[(.long q1), (.long q2), (.int p1)] maxLocals)) t := by
      intro t k
      refine pret1 t ?_
      refine XS.aload Xt1.here hx rfl (hb hby at_32) rfl (rfl) ?_
      show Steps p.tables e below (Tt1.setTop (mkF m 34 #[.val (.long q1), .second, .val (.long q2), .second, .val (.int p1), .val (.ref b1), .unset, .unset] [(.ref b1)])) _
      refine XS.iconst Xt1.here hx rfl (hb hby at_34) ?_
      refine XS.lloadN Xt1.here hx rfl (hb hby at_35) rfl ?_
      refine XS.bipush Xt1.here hx rfl (hb hby at_36) ?_
      refine XS.iload Xt1.here hx rfl (hb hby at_38) rfl ?_
      refine XS.iconst Xt1.here hx rfl (hb hby at_40) ?_
      refine st11 _ ?_
      show Steps p.tables e below (T11.setTop (mkF m 44 #[.val (.long q1), .second, .val (.long q2), .second, .val (.int p1), .val (.ref b1), .unset, .unset] [(.int (own_hx q1 (52 : Int32) p1 (2 : Int32))), (.int (2 : Int32)), (.ref b1)])) _
      refine st13 _ ?_
      exact k
    exact ⟨T13, _, h13, c2, X13, e13, N13, (Nat.le_trans Zt1 (Keep.of_wr W13).1), hc2, V13, (Ot1.wr W13 g_b1), pre14⟩
  obtain ⟨Tt3, ot3, ht3, c3, Xt3, et3, Nt3, Zt3, hc3, Vt3, Ot3, pret3⟩ : ∃ (Tt : State) (ot : List Loc) (ht : Heap) (ct : Int32), (Stand p l e room_1 s m #[(.long q1), (.long q2), (.int p1)] below meth c Tt ot 1 36) ∧ (Tt.heap = ht) ∧ (Fr n0 ot) ∧ (n0 ≤ ht.size) ∧ (ct = nar .char (own_hx q1 (48 : Int32) p1 (3 : Int32))) ∧ (Arv Z ht b1 k1 .char (36 : Int32) [(.int c0), (.int c1), (.int c2), (.int ct), (.int (0 : Int32)), (.int (0 : Int32)), (.int (0 : Int32)), (.int (0 : Int32)), (.int (0 : Int32)), (.int (0 : Int32)), (.int (0 : Int32)), (.int (0 : Int32)), (.int (0 : Int32)), (.int (0 : Int32)), (.int (0 : Int32)), (.int (0 : Int32)), (.int (0 : Int32)), (.int (0 : Int32)), (.int (0 : Int32)), (.int (0 : Int32)), (.int (0 : Int32)), (.int (0 : Int32)), (.int (0 : Int32)), (.int (0 : Int32)), (.int (0 : Int32)), (.int (0 : Int32)), (.int (0 : Int32)), (.int (0 : Int32)), (.int (0 : Int32)), (.int (0 : Int32)), (.int (0 : Int32)), (.int (0 : Int32)), (.int (0 : Int32)), (.int (0 : Int32)), (.int (0 : Int32)), (.int (0 : Int32))] (.int (0 : Int32))) ∧ (Old Z n0 ht) ∧ (∀ t, Steps p.tables e below (Tt.setTop (mkF m 58 #[.val (.long q1), .second, .val (.long q2), .second, .val (.int p1), .val (.ref b1), .unset, .unset] [])) t → Steps p.tables e below (s₁.setTop (entryFrame m #[(.long q1), (.long q2), (.int p1)] maxLocals)) t) := by
    obtain ⟨_, _, ⟨T15, L15, k15, n15⟩, -, X15, ⟨Lc15, hQ15, l15, y15, z15⟩, st15⟩ := Jvm.LawKit.callS Xt2 hx (y := (⟨"com/example/nonce/nonce/id/UuidTextParsePinLaw", "hex", "(JIII)C"⟩ : MethodName)) hown (mvT hZ (hw _ (List.mem_of_getElem? (i := 1) rfl))) (mvT hZ (hw _ (List.mem_of_getElem? (i := 2) rfl))) (mvT hZ (hw _ (List.mem_of_getElem? (i := 3) rfl))) (mvT hZ (hw _ (List.mem_of_getElem? (i := 4) rfl))) (by decide) (backOf (W := 2) (rmX l Z a0 hw [] q1 (48 : Int32) p1 (3 : Int32)  ht2 n0 Zt2 ) hZ (hw _ (List.mem_of_getElem? (i := 4) rfl)) (hw _ (List.mem_of_getElem? (i := 3) rfl)) (by decide) (by decide)) (g := (mkF m 54 #[.val (.long q1), .second, .val (.long q2), .second, .val (.int p1), .val (.ref b1), .unset, .unset] [(.int (3 : Int32)), (.int p1), (.int (48 : Int32)), (.long q1), (.int (3 : Int32)), (.ref b1)])) rfl (by rw [hml]; rfl) (argsL := [(.long q1), (.int (48 : Int32)), (.int p1), (.int (3 : Int32))]) (rest := [(.int (3 : Int32)), (.ref b1)]) (lenOf pd_7 rfl) rfl (by show 2 * 0 + _ ≤ _; exact Nat.le_of_eq rfl) (hb hby at_54) (fun _ _ => ⟨rfl, et2, (by decide : 1 + 0 ≤ _), (by decide : 36 + 0 ≤ _)⟩)
    dsimp only [Pt.U, Pt.locs, Pt.cells, Pt.slots] at X15 l15 y15 z15 st15 hQ15
    subst l15 y15 z15
    obtain ⟨rfl, N15q, hq15⟩ := hQ15
    have N15 := Fr.app Nt2 N15q
    obtain ⟨cl16, Ar16, q16, S16, M16, H16, G16⟩ := id Vt2
    have hin16 : ¬ ((3 : Int32) < 0 ∨ cl16.slots.size ≤ ((3 : Int32)).toNatClampNeg) := inb_of S16 ⟨by decide, by decide⟩
    obtain ⟨T17, h17, X17, e17, W17, st17⟩ := stC X15 hx hZ hq15 Ar16 (j := (3 : Int32)) hin16 (g := (mkF m 57 #[.val (.long q1), .second, .val (.long q2), .second, .val (.int p1), .val (.ref b1), .unset, .unset] [(.int (own_hx q1 (48 : Int32) p1 (3 : Int32))), (.int (3 : Int32)), (.ref b1)])) rfl rfl (hb hby at_57)
    obtain ⟨c3, hc3⟩ : ∃ z : Int32, z = nar .char (own_hx q1 (48 : Int32) p1 (3 : Int32)) := ⟨_, rfl⟩
    rw [← hc3] at W17
    have V17 : Arv Z h17 b1 k1 .char (36 : Int32) [(.int c0), (.int c1), (.int c2), (.int c3), (.int (0 : Int32)), (.int (0 : Int32)), (.int (0 : Int32)), (.int (0 : Int32)), (.int (0 : Int32)), (.int (0 : Int32)), (.int (0 : Int32)), (.int (0 : Int32)), (.int (0 : Int32)), (.int (0 : Int32)), (.int (0 : Int32)), (.int (0 : Int32)), (.int (0 : Int32)), (.int (0 : Int32)), (.int (0 : Int32)), (.int (0 : Int32)), (.int (0 : Int32)), (.int (0 : Int32)), (.int (0 : Int32)), (.int (0 : Int32)), (.int (0 : Int32)), (.int (0 : Int32)), (.int (0 : Int32)), (.int (0 : Int32)), (.int (0 : Int32)), (.int (0 : Int32)), (.int (0 : Int32)), (.int (0 : Int32)), (.int (0 : Int32)), (.int (0 : Int32)), (.int (0 : Int32)), (.int (0 : Int32))] (.int (0 : Int32)) := Arv.set Ar16 q16 S16 M16 H16 G16 (by rw [hc3]; exact fits_nar_char _) W17 3 rfl (Nat.le_of_ble_eq_true rfl)
    have N17 := Fr.snoc X17 N15 g_b1
    have pre18 : ∀ t, Steps p.tables e below (T17.setTop (mkF m 58 #[.val (.long q1), .second, .val (.long q2), .second, .val (.int p1), .val (.ref b1), .unset, .unset] [])) t → Steps p.tables e below (s₁.setTop (entryFrame m #[(.long q1), (.long q2), (.int p1)] maxLocals)) t := by
      intro t k
      refine pret2 t ?_
      refine XS.aload Xt2.here hx rfl (hb hby at_45) rfl (rfl) ?_
      refine XS.iconst Xt2.here hx rfl (hb hby at_47) ?_
      refine XS.lloadN Xt2.here hx rfl (hb hby at_48) rfl ?_
      refine XS.bipush Xt2.here hx rfl (hb hby at_49) ?_
      show Steps p.tables e below (Tt2.setTop (mkF m 51 #[.val (.long q1), .second, .val (.long q2), .second, .val (.int p1), .val (.ref b1), .unset, .unset] [(.int (48 : Int32)), (.long q1), (.int (3 : Int32)), (.ref b1)])) _
      refine XS.iload Xt2.here hx rfl (hb hby at_51) rfl ?_
      refine XS.iconst Xt2.here hx rfl (hb hby at_53) ?_
      refine st15 _ ?_
      refine st17 _ ?_
      exact k
    exact ⟨T17, _, h17, c3, X17, e17, N17, (Nat.le_trans Zt2 (Keep.of_wr W17).1), hc3, V17, (Ot2.wr W17 g_b1), pre18⟩
  obtain ⟨Tt4, ot4, ht4, c4, Xt4, et4, Nt4, Zt4, hc4, Vt4, Ot4, pret4⟩ : ∃ (Tt : State) (ot : List Loc) (ht : Heap) (ct : Int32), (Stand p l e room_1 s m #[(.long q1), (.long q2), (.int p1)] below meth c Tt ot 1 36) ∧ (Tt.heap = ht) ∧ (Fr n0 ot) ∧ (n0 ≤ ht.size) ∧ (ct = nar .char (own_hx q1 (44 : Int32) p1 (4 : Int32))) ∧ (Arv Z ht b1 k1 .char (36 : Int32) [(.int c0), (.int c1), (.int c2), (.int c3), (.int ct), (.int (0 : Int32)), (.int (0 : Int32)), (.int (0 : Int32)), (.int (0 : Int32)), (.int (0 : Int32)), (.int (0 : Int32)), (.int (0 : Int32)), (.int (0 : Int32)), (.int (0 : Int32)), (.int (0 : Int32)), (.int (0 : Int32)), (.int (0 : Int32)), (.int (0 : Int32)), (.int (0 : Int32)), (.int (0 : Int32)), (.int (0 : Int32)), (.int (0 : Int32)), (.int (0 : Int32)), (.int (0 : Int32)), (.int (0 : Int32)), (.int (0 : Int32)), (.int (0 : Int32)), (.int (0 : Int32)), (.int (0 : Int32)), (.int (0 : Int32)), (.int (0 : Int32)), (.int (0 : Int32)), (.int (0 : Int32)), (.int (0 : Int32)), (.int (0 : Int32)), (.int (0 : Int32))] (.int (0 : Int32))) ∧ (Old Z n0 ht) ∧ (∀ t, Steps p.tables e below (Tt.setTop (mkF m 71 #[.val (.long q1), .second, .val (.long q2), .second, .val (.int p1), .val (.ref b1), .unset, .unset] [])) t → Steps p.tables e below (s₁.setTop (entryFrame m #[(.long q1), (.long q2), (.int p1)] maxLocals)) t) := by
    obtain ⟨_, _, ⟨T19, L19, k19, n19⟩, -, X19, ⟨Lc19, hQ19, l19, y19, z19⟩, st19⟩ := Jvm.LawKit.callS Xt3 hx (y := (⟨"com/example/nonce/nonce/id/UuidTextParsePinLaw", "hex", "(JIII)C"⟩ : MethodName)) hown (mvT hZ (hw _ (List.mem_of_getElem? (i := 1) rfl))) (mvT hZ (hw _ (List.mem_of_getElem? (i := 2) rfl))) (mvT hZ (hw _ (List.mem_of_getElem? (i := 3) rfl))) (mvT hZ (hw _ (List.mem_of_getElem? (i := 4) rfl))) (by decide) (backOf (W := 2) (rmX l Z a0 hw [] q1 (44 : Int32) p1 (4 : Int32)  ht3 n0 Zt3 ) hZ (hw _ (List.mem_of_getElem? (i := 4) rfl)) (hw _ (List.mem_of_getElem? (i := 3) rfl)) (by decide) (by decide)) (g := (mkF m 67 #[.val (.long q1), .second, .val (.long q2), .second, .val (.int p1), .val (.ref b1), .unset, .unset] [(.int (4 : Int32)), (.int p1), (.int (44 : Int32)), (.long q1), (.int (4 : Int32)), (.ref b1)])) rfl (by rw [hml]; rfl) (argsL := [(.long q1), (.int (44 : Int32)), (.int p1), (.int (4 : Int32))]) (rest := [(.int (4 : Int32)), (.ref b1)]) (lenOf pd_7 rfl) rfl (by show 2 * 0 + _ ≤ _; exact Nat.le_of_eq rfl) (hb hby at_67) (fun _ _ => ⟨rfl, et3, (by decide : 1 + 0 ≤ _), (by decide : 36 + 0 ≤ _)⟩)
    dsimp only [Pt.U, Pt.locs, Pt.cells, Pt.slots] at X19 l19 y19 z19 st19 hQ19
    subst l19 y19 z19
    obtain ⟨rfl, N19q, hq19⟩ := hQ19
    have N19 := Fr.app Nt3 N19q
    obtain ⟨cl20, Ar20, q20, S20, M20, H20, G20⟩ := id Vt3
    have hin20 : ¬ ((4 : Int32) < 0 ∨ cl20.slots.size ≤ ((4 : Int32)).toNatClampNeg) := inb_of S20 ⟨by decide, by decide⟩
    obtain ⟨T21, h21, X21, e21, W21, st21⟩ := stC X19 hx hZ hq19 Ar20 (j := (4 : Int32)) hin20 (g := (mkF m 70 #[.val (.long q1), .second, .val (.long q2), .second, .val (.int p1), .val (.ref b1), .unset, .unset] [(.int (own_hx q1 (44 : Int32) p1 (4 : Int32))), (.int (4 : Int32)), (.ref b1)])) rfl rfl (hb hby at_70)
    obtain ⟨c4, hc4⟩ : ∃ z : Int32, z = nar .char (own_hx q1 (44 : Int32) p1 (4 : Int32)) := ⟨_, rfl⟩
    rw [← hc4] at W21
    have V21 : Arv Z h21 b1 k1 .char (36 : Int32) [(.int c0), (.int c1), (.int c2), (.int c3), (.int c4), (.int (0 : Int32)), (.int (0 : Int32)), (.int (0 : Int32)), (.int (0 : Int32)), (.int (0 : Int32)), (.int (0 : Int32)), (.int (0 : Int32)), (.int (0 : Int32)), (.int (0 : Int32)), (.int (0 : Int32)), (.int (0 : Int32)), (.int (0 : Int32)), (.int (0 : Int32)), (.int (0 : Int32)), (.int (0 : Int32)), (.int (0 : Int32)), (.int (0 : Int32)), (.int (0 : Int32)), (.int (0 : Int32)), (.int (0 : Int32)), (.int (0 : Int32)), (.int (0 : Int32)), (.int (0 : Int32)), (.int (0 : Int32)), (.int (0 : Int32)), (.int (0 : Int32)), (.int (0 : Int32)), (.int (0 : Int32)), (.int (0 : Int32)), (.int (0 : Int32)), (.int (0 : Int32))] (.int (0 : Int32)) := Arv.set Ar20 q20 S20 M20 H20 G20 (by rw [hc4]; exact fits_nar_char _) W21 4 rfl (Nat.le_of_ble_eq_true rfl)
    have N21 := Fr.snoc X21 N19 g_b1
    have pre22 : ∀ t, Steps p.tables e below (T21.setTop (mkF m 71 #[.val (.long q1), .second, .val (.long q2), .second, .val (.int p1), .val (.ref b1), .unset, .unset] [])) t → Steps p.tables e below (s₁.setTop (entryFrame m #[(.long q1), (.long q2), (.int p1)] maxLocals)) t := by
      intro t k
      refine pret3 t ?_
      refine XS.aload Xt3.here hx rfl (hb hby at_58) rfl (rfl) ?_
      show Steps p.tables e below (Tt3.setTop (mkF m 60 #[.val (.long q1), .second, .val (.long q2), .second, .val (.int p1), .val (.ref b1), .unset, .unset] [(.ref b1)])) _
      refine XS.iconst Xt3.here hx rfl (hb hby at_60) ?_
      refine XS.lloadN Xt3.here hx rfl (hb hby at_61) rfl ?_
      refine XS.bipush Xt3.here hx rfl (hb hby at_62) ?_
      refine XS.iload Xt3.here hx rfl (hb hby at_64) rfl ?_
      refine XS.iconst Xt3.here hx rfl (hb hby at_66) ?_
      refine st19 _ ?_
      show Steps p.tables e below (T19.setTop (mkF m 70 #[.val (.long q1), .second, .val (.long q2), .second, .val (.int p1), .val (.ref b1), .unset, .unset] [(.int (own_hx q1 (44 : Int32) p1 (4 : Int32))), (.int (4 : Int32)), (.ref b1)])) _
      refine st21 _ ?_
      exact k
    exact ⟨T21, _, h21, c4, X21, e21, N21, (Nat.le_trans Zt3 (Keep.of_wr W21).1), hc4, V21, (Ot3.wr W21 g_b1), pre22⟩
  obtain ⟨Tt5, ot5, ht5, c5, Xt5, et5, Nt5, Zt5, hc5, Vt5, Ot5, pret5⟩ : ∃ (Tt : State) (ot : List Loc) (ht : Heap) (ct : Int32), (Stand p l e room_1 s m #[(.long q1), (.long q2), (.int p1)] below meth c Tt ot 1 36) ∧ (Tt.heap = ht) ∧ (Fr n0 ot) ∧ (n0 ≤ ht.size) ∧ (ct = nar .char (own_hx q1 (40 : Int32) p1 (5 : Int32))) ∧ (Arv Z ht b1 k1 .char (36 : Int32) [(.int c0), (.int c1), (.int c2), (.int c3), (.int c4), (.int ct), (.int (0 : Int32)), (.int (0 : Int32)), (.int (0 : Int32)), (.int (0 : Int32)), (.int (0 : Int32)), (.int (0 : Int32)), (.int (0 : Int32)), (.int (0 : Int32)), (.int (0 : Int32)), (.int (0 : Int32)), (.int (0 : Int32)), (.int (0 : Int32)), (.int (0 : Int32)), (.int (0 : Int32)), (.int (0 : Int32)), (.int (0 : Int32)), (.int (0 : Int32)), (.int (0 : Int32)), (.int (0 : Int32)), (.int (0 : Int32)), (.int (0 : Int32)), (.int (0 : Int32)), (.int (0 : Int32)), (.int (0 : Int32)), (.int (0 : Int32)), (.int (0 : Int32)), (.int (0 : Int32)), (.int (0 : Int32)), (.int (0 : Int32)), (.int (0 : Int32))] (.int (0 : Int32))) ∧ (Old Z n0 ht) ∧ (∀ t, Steps p.tables e below (Tt.setTop (mkF m 84 #[.val (.long q1), .second, .val (.long q2), .second, .val (.int p1), .val (.ref b1), .unset, .unset] [])) t → Steps p.tables e below (s₁.setTop (entryFrame m #[(.long q1), (.long q2), (.int p1)] maxLocals)) t) := by
    obtain ⟨_, _, ⟨T23, L23, k23, n23⟩, -, X23, ⟨Lc23, hQ23, l23, y23, z23⟩, st23⟩ := Jvm.LawKit.callS Xt4 hx (y := (⟨"com/example/nonce/nonce/id/UuidTextParsePinLaw", "hex", "(JIII)C"⟩ : MethodName)) hown (mvT hZ (hw _ (List.mem_of_getElem? (i := 1) rfl))) (mvT hZ (hw _ (List.mem_of_getElem? (i := 2) rfl))) (mvT hZ (hw _ (List.mem_of_getElem? (i := 3) rfl))) (mvT hZ (hw _ (List.mem_of_getElem? (i := 4) rfl))) (by decide) (backOf (W := 2) (rmX l Z a0 hw [] q1 (40 : Int32) p1 (5 : Int32)  ht4 n0 Zt4 ) hZ (hw _ (List.mem_of_getElem? (i := 4) rfl)) (hw _ (List.mem_of_getElem? (i := 3) rfl)) (by decide) (by decide)) (g := (mkF m 80 #[.val (.long q1), .second, .val (.long q2), .second, .val (.int p1), .val (.ref b1), .unset, .unset] [(.int (5 : Int32)), (.int p1), (.int (40 : Int32)), (.long q1), (.int (5 : Int32)), (.ref b1)])) rfl (by rw [hml]; rfl) (argsL := [(.long q1), (.int (40 : Int32)), (.int p1), (.int (5 : Int32))]) (rest := [(.int (5 : Int32)), (.ref b1)]) (lenOf pd_7 rfl) rfl (by show 2 * 0 + _ ≤ _; exact Nat.le_of_eq rfl) (hb hby at_80) (fun _ _ => ⟨rfl, et4, (by decide : 1 + 0 ≤ _), (by decide : 36 + 0 ≤ _)⟩)
    dsimp only [Pt.U, Pt.locs, Pt.cells, Pt.slots] at X23 l23 y23 z23 st23 hQ23
    subst l23 y23 z23
    obtain ⟨rfl, N23q, hq23⟩ := hQ23
    have N23 := Fr.app Nt4 N23q
    obtain ⟨cl24, Ar24, q24, S24, M24, H24, G24⟩ := id Vt4
    have hin24 : ¬ ((5 : Int32) < 0 ∨ cl24.slots.size ≤ ((5 : Int32)).toNatClampNeg) := inb_of S24 ⟨by decide, by decide⟩
    obtain ⟨T25, h25, X25, e25, W25, st25⟩ := stC X23 hx hZ hq23 Ar24 (j := (5 : Int32)) hin24 (g := (mkF m 83 #[.val (.long q1), .second, .val (.long q2), .second, .val (.int p1), .val (.ref b1), .unset, .unset] [(.int (own_hx q1 (40 : Int32) p1 (5 : Int32))), (.int (5 : Int32)), (.ref b1)])) rfl rfl (hb hby at_83)
    obtain ⟨c5, hc5⟩ : ∃ z : Int32, z = nar .char (own_hx q1 (40 : Int32) p1 (5 : Int32)) := ⟨_, rfl⟩
    rw [← hc5] at W25
    have V25 : Arv Z h25 b1 k1 .char (36 : Int32) [(.int c0), (.int c1), (.int c2), (.int c3), (.int c4), (.int c5), (.int (0 : Int32)), (.int (0 : Int32)), (.int (0 : Int32)), (.int (0 : Int32)), (.int (0 : Int32)), (.int (0 : Int32)), (.int (0 : Int32)), (.int (0 : Int32)), (.int (0 : Int32)), (.int (0 : Int32)), (.int (0 : Int32)), (.int (0 : Int32)), (.int (0 : Int32)), (.int (0 : Int32)), (.int (0 : Int32)), (.int (0 : Int32)), (.int (0 : Int32)), (.int (0 : Int32)), (.int (0 : Int32)), (.int (0 : Int32)), (.int (0 : Int32)), (.int (0 : Int32)), (.int (0 : Int32)), (.int (0 : Int32)), (.int (0 : Int32)), (.int (0 : Int32)), (.int (0 : Int32)), (.int (0 : Int32)), (.int (0 : Int32)), (.int (0 : Int32))] (.int (0 : Int32)) := Arv.set Ar24 q24 S24 M24 H24 G24 (by rw [hc5]; exact fits_nar_char _) W25 5 rfl (Nat.le_of_ble_eq_true rfl)
    have N25 := Fr.snoc X25 N23 g_b1
    have pre26 : ∀ t, Steps p.tables e below (T25.setTop (mkF m 84 #[.val (.long q1), .second, .val (.long q2), .second, .val (.int p1), .val (.ref b1), .unset, .unset] [])) t → Steps p.tables e below (s₁.setTop (entryFrame m #[(.long q1), (.long q2), (.int p1)] maxLocals)) t := by
      intro t k
      refine pret4 t ?_
      refine XS.aload Xt4.here hx rfl (hb hby at_71) rfl (rfl) ?_
      refine XS.iconst Xt4.here hx rfl (hb hby at_73) ?_
      refine XS.lloadN Xt4.here hx rfl (hb hby at_74) rfl ?_
      refine XS.bipush Xt4.here hx rfl (hb hby at_75) ?_
      show Steps p.tables e below (Tt4.setTop (mkF m 77 #[.val (.long q1), .second, .val (.long q2), .second, .val (.int p1), .val (.ref b1), .unset, .unset] [(.int (40 : Int32)), (.long q1), (.int (5 : Int32)), (.ref b1)])) _
      refine XS.iload Xt4.here hx rfl (hb hby at_77) rfl ?_
      refine XS.iconst Xt4.here hx rfl (hb hby at_79) ?_
      refine st23 _ ?_
      refine st25 _ ?_
      exact k
    exact ⟨T25, _, h25, c5, X25, e25, N25, (Nat.le_trans Zt4 (Keep.of_wr W25).1), hc5, V25, (Ot4.wr W25 g_b1), pre26⟩
  obtain ⟨Tt6, ot6, ht6, c6, Xt6, et6, Nt6, Zt6, hc6, Vt6, Ot6, pret6⟩ : ∃ (Tt : State) (ot : List Loc) (ht : Heap) (ct : Int32), (Stand p l e room_1 s m #[(.long q1), (.long q2), (.int p1)] below meth c Tt ot 1 36) ∧ (Tt.heap = ht) ∧ (Fr n0 ot) ∧ (n0 ≤ ht.size) ∧ (ct = nar .char (own_hx q1 (36 : Int32) p1 (6 : Int32))) ∧ (Arv Z ht b1 k1 .char (36 : Int32) [(.int c0), (.int c1), (.int c2), (.int c3), (.int c4), (.int c5), (.int ct), (.int (0 : Int32)), (.int (0 : Int32)), (.int (0 : Int32)), (.int (0 : Int32)), (.int (0 : Int32)), (.int (0 : Int32)), (.int (0 : Int32)), (.int (0 : Int32)), (.int (0 : Int32)), (.int (0 : Int32)), (.int (0 : Int32)), (.int (0 : Int32)), (.int (0 : Int32)), (.int (0 : Int32)), (.int (0 : Int32)), (.int (0 : Int32)), (.int (0 : Int32)), (.int (0 : Int32)), (.int (0 : Int32)), (.int (0 : Int32)), (.int (0 : Int32)), (.int (0 : Int32)), (.int (0 : Int32)), (.int (0 : Int32)), (.int (0 : Int32)), (.int (0 : Int32)), (.int (0 : Int32)), (.int (0 : Int32)), (.int (0 : Int32))] (.int (0 : Int32))) ∧ (Old Z n0 ht) ∧ (∀ t, Steps p.tables e below (Tt.setTop (mkF m 99 #[.val (.long q1), .second, .val (.long q2), .second, .val (.int p1), .val (.ref b1), .unset, .unset] [])) t → Steps p.tables e below (s₁.setTop (entryFrame m #[(.long q1), (.long q2), (.int p1)] maxLocals)) t) := by
    obtain ⟨_, _, ⟨T27, L27, k27, n27⟩, -, X27, ⟨Lc27, hQ27, l27, y27, z27⟩, st27⟩ := Jvm.LawKit.callS Xt5 hx (y := (⟨"com/example/nonce/nonce/id/UuidTextParsePinLaw", "hex", "(JIII)C"⟩ : MethodName)) hown (mvT hZ (hw _ (List.mem_of_getElem? (i := 1) rfl))) (mvT hZ (hw _ (List.mem_of_getElem? (i := 2) rfl))) (mvT hZ (hw _ (List.mem_of_getElem? (i := 3) rfl))) (mvT hZ (hw _ (List.mem_of_getElem? (i := 4) rfl))) (by decide) (backOf (W := 2) (rmX l Z a0 hw [] q1 (36 : Int32) p1 (6 : Int32)  ht5 n0 Zt5 ) hZ (hw _ (List.mem_of_getElem? (i := 4) rfl)) (hw _ (List.mem_of_getElem? (i := 3) rfl)) (by decide) (by decide)) (g := (mkF m 95 #[.val (.long q1), .second, .val (.long q2), .second, .val (.int p1), .val (.ref b1), .unset, .unset] [(.int (6 : Int32)), (.int p1), (.int (36 : Int32)), (.long q1), (.int (6 : Int32)), (.ref b1)])) rfl (by rw [hml]; rfl) (argsL := [(.long q1), (.int (36 : Int32)), (.int p1), (.int (6 : Int32))]) (rest := [(.int (6 : Int32)), (.ref b1)]) (lenOf pd_7 rfl) rfl (by show 2 * 0 + _ ≤ _; exact Nat.le_of_eq rfl) (hb hby at_95) (fun _ _ => ⟨rfl, et5, (by decide : 1 + 0 ≤ _), (by decide : 36 + 0 ≤ _)⟩)
    dsimp only [Pt.U, Pt.locs, Pt.cells, Pt.slots] at X27 l27 y27 z27 st27 hQ27
    subst l27 y27 z27
    obtain ⟨rfl, N27q, hq27⟩ := hQ27
    have N27 := Fr.app Nt5 N27q
    obtain ⟨cl28, Ar28, q28, S28, M28, H28, G28⟩ := id Vt5
    have hin28 : ¬ ((6 : Int32) < 0 ∨ cl28.slots.size ≤ ((6 : Int32)).toNatClampNeg) := inb_of S28 ⟨by decide, by decide⟩
    obtain ⟨T29, h29, X29, e29, W29, st29⟩ := stC X27 hx hZ hq27 Ar28 (j := (6 : Int32)) hin28 (g := (mkF m 98 #[.val (.long q1), .second, .val (.long q2), .second, .val (.int p1), .val (.ref b1), .unset, .unset] [(.int (own_hx q1 (36 : Int32) p1 (6 : Int32))), (.int (6 : Int32)), (.ref b1)])) rfl rfl (hb hby at_98)
    obtain ⟨c6, hc6⟩ : ∃ z : Int32, z = nar .char (own_hx q1 (36 : Int32) p1 (6 : Int32)) := ⟨_, rfl⟩
    rw [← hc6] at W29
    have V29 : Arv Z h29 b1 k1 .char (36 : Int32) [(.int c0), (.int c1), (.int c2), (.int c3), (.int c4), (.int c5), (.int c6), (.int (0 : Int32)), (.int (0 : Int32)), (.int (0 : Int32)), (.int (0 : Int32)), (.int (0 : Int32)), (.int (0 : Int32)), (.int (0 : Int32)), (.int (0 : Int32)), (.int (0 : Int32)), (.int (0 : Int32)), (.int (0 : Int32)), (.int (0 : Int32)), (.int (0 : Int32)), (.int (0 : Int32)), (.int (0 : Int32)), (.int (0 : Int32)), (.int (0 : Int32)), (.int (0 : Int32)), (.int (0 : Int32)), (.int (0 : Int32)), (.int (0 : Int32)), (.int (0 : Int32)), (.int (0 : Int32)), (.int (0 : Int32)), (.int (0 : Int32)), (.int (0 : Int32)), (.int (0 : Int32)), (.int (0 : Int32)), (.int (0 : Int32))] (.int (0 : Int32)) := Arv.set Ar28 q28 S28 M28 H28 G28 (by rw [hc6]; exact fits_nar_char _) W29 6 rfl (Nat.le_of_ble_eq_true rfl)
    have N29 := Fr.snoc X29 N27 g_b1
    have pre30 : ∀ t, Steps p.tables e below (T29.setTop (mkF m 99 #[.val (.long q1), .second, .val (.long q2), .second, .val (.int p1), .val (.ref b1), .unset, .unset] [])) t → Steps p.tables e below (s₁.setTop (entryFrame m #[(.long q1), (.long q2), (.int p1)] maxLocals)) t := by
      intro t k
      refine pret5 t ?_
      refine XS.aload Xt5.here hx rfl (hb hby at_84) rfl (rfl) ?_
      show Steps p.tables e below (Tt5.setTop (mkF m 86 #[.val (.long q1), .second, .val (.long q2), .second, .val (.int p1), .val (.ref b1), .unset, .unset] [(.ref b1)])) _
      refine XS.bipush Xt5.here hx rfl (hb hby at_86) ?_
      refine XS.lloadN Xt5.here hx rfl (hb hby at_88) rfl ?_
      refine XS.bipush Xt5.here hx rfl (hb hby at_89) ?_
      refine XS.iload Xt5.here hx rfl (hb hby at_91) rfl ?_
      refine XS.bipush Xt5.here hx rfl (hb hby at_93) ?_
      refine st27 _ ?_
      show Steps p.tables e below (T27.setTop (mkF m 98 #[.val (.long q1), .second, .val (.long q2), .second, .val (.int p1), .val (.ref b1), .unset, .unset] [(.int (own_hx q1 (36 : Int32) p1 (6 : Int32))), (.int (6 : Int32)), (.ref b1)])) _
      refine st29 _ ?_
      exact k
    exact ⟨T29, _, h29, c6, X29, e29, N29, (Nat.le_trans Zt5 (Keep.of_wr W29).1), hc6, V29, (Ot5.wr W29 g_b1), pre30⟩
  obtain ⟨Tt7, ot7, ht7, c7, Xt7, et7, Nt7, Zt7, hc7, Vt7, Ot7, pret7⟩ : ∃ (Tt : State) (ot : List Loc) (ht : Heap) (ct : Int32), (Stand p l e room_1 s m #[(.long q1), (.long q2), (.int p1)] below meth c Tt ot 1 36) ∧ (Tt.heap = ht) ∧ (Fr n0 ot) ∧ (n0 ≤ ht.size) ∧ (ct = nar .char (own_hx q1 (32 : Int32) p1 (7 : Int32))) ∧ (Arv Z ht b1 k1 .char (36 : Int32) [(.int c0), (.int c1), (.int c2), (.int c3), (.int c4), (.int c5), (.int c6), (.int ct), (.int (0 : Int32)), (.int (0 : Int32)), (.int (0 : Int32)), (.int (0 : Int32)), (.int (0 : Int32)), (.int (0 : Int32)), (.int (0 : Int32)), (.int (0 : Int32)), (.int (0 : Int32)), (.int (0 : Int32)), (.int (0 : Int32)), (.int (0 : Int32)), (.int (0 : Int32)), (.int (0 : Int32)), (.int (0 : Int32)), (.int (0 : Int32)), (.int (0 : Int32)), (.int (0 : Int32)), (.int (0 : Int32)), (.int (0 : Int32)), (.int (0 : Int32)), (.int (0 : Int32)), (.int (0 : Int32)), (.int (0 : Int32)), (.int (0 : Int32)), (.int (0 : Int32)), (.int (0 : Int32)), (.int (0 : Int32))] (.int (0 : Int32))) ∧ (Old Z n0 ht) ∧ (∀ t, Steps p.tables e below (Tt.setTop (mkF m 114 #[.val (.long q1), .second, .val (.long q2), .second, .val (.int p1), .val (.ref b1), .unset, .unset] [])) t → Steps p.tables e below (s₁.setTop (entryFrame m #[(.long q1), (.long q2), (.int p1)] maxLocals)) t) := by
    obtain ⟨_, _, ⟨T31, L31, k31, n31⟩, -, X31, ⟨Lc31, hQ31, l31, y31, z31⟩, st31⟩ := Jvm.LawKit.callS Xt6 hx (y := (⟨"com/example/nonce/nonce/id/UuidTextParsePinLaw", "hex", "(JIII)C"⟩ : MethodName)) hown (mvT hZ (hw _ (List.mem_of_getElem? (i := 1) rfl))) (mvT hZ (hw _ (List.mem_of_getElem? (i := 2) rfl))) (mvT hZ (hw _ (List.mem_of_getElem? (i := 3) rfl))) (mvT hZ (hw _ (List.mem_of_getElem? (i := 4) rfl))) (by decide) (backOf (W := 2) (rmX l Z a0 hw [] q1 (32 : Int32) p1 (7 : Int32)  ht6 n0 Zt6 ) hZ (hw _ (List.mem_of_getElem? (i := 4) rfl)) (hw _ (List.mem_of_getElem? (i := 3) rfl)) (by decide) (by decide)) (g := (mkF m 110 #[.val (.long q1), .second, .val (.long q2), .second, .val (.int p1), .val (.ref b1), .unset, .unset] [(.int (7 : Int32)), (.int p1), (.int (32 : Int32)), (.long q1), (.int (7 : Int32)), (.ref b1)])) rfl (by rw [hml]; rfl) (argsL := [(.long q1), (.int (32 : Int32)), (.int p1), (.int (7 : Int32))]) (rest := [(.int (7 : Int32)), (.ref b1)]) (lenOf pd_7 rfl) rfl (by show 2 * 0 + _ ≤ _; exact Nat.le_of_eq rfl) (hb hby at_110) (fun _ _ => ⟨rfl, et6, (by decide : 1 + 0 ≤ _), (by decide : 36 + 0 ≤ _)⟩)
    dsimp only [Pt.U, Pt.locs, Pt.cells, Pt.slots] at X31 l31 y31 z31 st31 hQ31
    subst l31 y31 z31
    obtain ⟨rfl, N31q, hq31⟩ := hQ31
    have N31 := Fr.app Nt6 N31q
    obtain ⟨cl32, Ar32, q32, S32, M32, H32, G32⟩ := id Vt6
    have hin32 : ¬ ((7 : Int32) < 0 ∨ cl32.slots.size ≤ ((7 : Int32)).toNatClampNeg) := inb_of S32 ⟨by decide, by decide⟩
    obtain ⟨T33, h33, X33, e33, W33, st33⟩ := stC X31 hx hZ hq31 Ar32 (j := (7 : Int32)) hin32 (g := (mkF m 113 #[.val (.long q1), .second, .val (.long q2), .second, .val (.int p1), .val (.ref b1), .unset, .unset] [(.int (own_hx q1 (32 : Int32) p1 (7 : Int32))), (.int (7 : Int32)), (.ref b1)])) rfl rfl (hb hby at_113)
    obtain ⟨c7, hc7⟩ : ∃ z : Int32, z = nar .char (own_hx q1 (32 : Int32) p1 (7 : Int32)) := ⟨_, rfl⟩
    rw [← hc7] at W33
    have V33 : Arv Z h33 b1 k1 .char (36 : Int32) [(.int c0), (.int c1), (.int c2), (.int c3), (.int c4), (.int c5), (.int c6), (.int c7), (.int (0 : Int32)), (.int (0 : Int32)), (.int (0 : Int32)), (.int (0 : Int32)), (.int (0 : Int32)), (.int (0 : Int32)), (.int (0 : Int32)), (.int (0 : Int32)), (.int (0 : Int32)), (.int (0 : Int32)), (.int (0 : Int32)), (.int (0 : Int32)), (.int (0 : Int32)), (.int (0 : Int32)), (.int (0 : Int32)), (.int (0 : Int32)), (.int (0 : Int32)), (.int (0 : Int32)), (.int (0 : Int32)), (.int (0 : Int32)), (.int (0 : Int32)), (.int (0 : Int32)), (.int (0 : Int32)), (.int (0 : Int32)), (.int (0 : Int32)), (.int (0 : Int32)), (.int (0 : Int32)), (.int (0 : Int32))] (.int (0 : Int32)) := Arv.set Ar32 q32 S32 M32 H32 G32 (by rw [hc7]; exact fits_nar_char _) W33 7 rfl (Nat.le_of_ble_eq_true rfl)
    have N33 := Fr.snoc X33 N31 g_b1
    have pre34 : ∀ t, Steps p.tables e below (T33.setTop (mkF m 114 #[.val (.long q1), .second, .val (.long q2), .second, .val (.int p1), .val (.ref b1), .unset, .unset] [])) t → Steps p.tables e below (s₁.setTop (entryFrame m #[(.long q1), (.long q2), (.int p1)] maxLocals)) t := by
      intro t k
      refine pret6 t ?_
      refine XS.aload Xt6.here hx rfl (hb hby at_99) rfl (rfl) ?_
      refine XS.bipush Xt6.here hx rfl (hb hby at_101) ?_
      refine XS.lloadN Xt6.here hx rfl (hb hby at_103) rfl ?_
      refine XS.bipush Xt6.here hx rfl (hb hby at_104) ?_
      show Steps p.tables e below (Tt6.setTop (mkF m 106 #[.val (.long q1), .second, .val (.long q2), .second, .val (.int p1), .val (.ref b1), .unset, .unset] [(.int (32 : Int32)), (.long q1), (.int (7 : Int32)), (.ref b1)])) _
      refine XS.iload Xt6.here hx rfl (hb hby at_106) rfl ?_
      refine XS.bipush Xt6.here hx rfl (hb hby at_108) ?_
      refine st31 _ ?_
      refine st33 _ ?_
      exact k
    exact ⟨T33, _, h33, c7, X33, e33, N33, (Nat.le_trans Zt6 (Keep.of_wr W33).1), hc7, V33, (Ot6.wr W33 g_b1), pre34⟩
  obtain ⟨Tt8, ot8, ht8, c8, Xt8, et8, Nt8, Zt8, hc8, Vt8, Ot8, pret8⟩ : ∃ (Tt : State) (ot : List Loc) (ht : Heap) (ct : Int32), (Stand p l e room_1 s m #[(.long q1), (.long q2), (.int p1)] below meth c Tt ot 1 36) ∧ (Tt.heap = ht) ∧ (Fr n0 ot) ∧ (n0 ≤ ht.size) ∧ (ct = nar .char (45 : Int32)) ∧ (Arv Z ht b1 k1 .char (36 : Int32) [(.int c0), (.int c1), (.int c2), (.int c3), (.int c4), (.int c5), (.int c6), (.int c7), (.int ct), (.int (0 : Int32)), (.int (0 : Int32)), (.int (0 : Int32)), (.int (0 : Int32)), (.int (0 : Int32)), (.int (0 : Int32)), (.int (0 : Int32)), (.int (0 : Int32)), (.int (0 : Int32)), (.int (0 : Int32)), (.int (0 : Int32)), (.int (0 : Int32)), (.int (0 : Int32)), (.int (0 : Int32)), (.int (0 : Int32)), (.int (0 : Int32)), (.int (0 : Int32)), (.int (0 : Int32)), (.int (0 : Int32)), (.int (0 : Int32)), (.int (0 : Int32)), (.int (0 : Int32)), (.int (0 : Int32)), (.int (0 : Int32)), (.int (0 : Int32)), (.int (0 : Int32)), (.int (0 : Int32))] (.int (0 : Int32))) ∧ (Old Z n0 ht) ∧ (∀ t, Steps p.tables e below (Tt.setTop (mkF m 121 #[.val (.long q1), .second, .val (.long q2), .second, .val (.int p1), .val (.ref b1), .unset, .unset] [])) t → Steps p.tables e below (s₁.setTop (entryFrame m #[(.long q1), (.long q2), (.int p1)] maxLocals)) t) := by
    obtain ⟨cl35, Ar35, q35, S35, M35, H35, G35⟩ := id Vt7
    have hin35 : ¬ ((8 : Int32) < 0 ∨ cl35.slots.size ≤ ((8 : Int32)).toNatClampNeg) := inb_of S35 ⟨by decide, by decide⟩
    obtain ⟨T36, h36, X36, e36, W36, st36⟩ := stC Xt7 hx hZ et7 Ar35 (j := (8 : Int32)) hin35 (g := (mkF m 120 #[.val (.long q1), .second, .val (.long q2), .second, .val (.int p1), .val (.ref b1), .unset, .unset] [(.int (45 : Int32)), (.int (8 : Int32)), (.ref b1)])) rfl rfl (hb hby at_120)
    obtain ⟨c8, hc8⟩ : ∃ z : Int32, z = nar .char (45 : Int32) := ⟨_, rfl⟩
    rw [← hc8] at W36
    have V36 : Arv Z h36 b1 k1 .char (36 : Int32) [(.int c0), (.int c1), (.int c2), (.int c3), (.int c4), (.int c5), (.int c6), (.int c7), (.int c8), (.int (0 : Int32)), (.int (0 : Int32)), (.int (0 : Int32)), (.int (0 : Int32)), (.int (0 : Int32)), (.int (0 : Int32)), (.int (0 : Int32)), (.int (0 : Int32)), (.int (0 : Int32)), (.int (0 : Int32)), (.int (0 : Int32)), (.int (0 : Int32)), (.int (0 : Int32)), (.int (0 : Int32)), (.int (0 : Int32)), (.int (0 : Int32)), (.int (0 : Int32)), (.int (0 : Int32)), (.int (0 : Int32)), (.int (0 : Int32)), (.int (0 : Int32)), (.int (0 : Int32)), (.int (0 : Int32)), (.int (0 : Int32)), (.int (0 : Int32)), (.int (0 : Int32)), (.int (0 : Int32))] (.int (0 : Int32)) := Arv.set Ar35 q35 S35 M35 H35 G35 (by rw [hc8]; exact fits_nar_char _) W36 8 rfl (Nat.le_of_ble_eq_true rfl)
    have N36 := Fr.snoc X36 Nt7 g_b1
    have pre37 : ∀ t, Steps p.tables e below (T36.setTop (mkF m 121 #[.val (.long q1), .second, .val (.long q2), .second, .val (.int p1), .val (.ref b1), .unset, .unset] [])) t → Steps p.tables e below (s₁.setTop (entryFrame m #[(.long q1), (.long q2), (.int p1)] maxLocals)) t := by
      intro t k
      refine pret7 t ?_
      refine XS.aload Xt7.here hx rfl (hb hby at_114) rfl (rfl) ?_
      show Steps p.tables e below (Tt7.setTop (mkF m 116 #[.val (.long q1), .second, .val (.long q2), .second, .val (.int p1), .val (.ref b1), .unset, .unset] [(.ref b1)])) _
      refine XS.bipush Xt7.here hx rfl (hb hby at_116) ?_
      refine XS.bipush Xt7.here hx rfl (hb hby at_118) ?_
      refine st36 _ ?_
      exact k
    exact ⟨T36, _, h36, c8, X36, e36, N36, (Nat.le_trans Zt7 (Keep.of_wr W36).1), hc8, V36, (Ot7.wr W36 g_b1), pre37⟩
  obtain ⟨Tt9, ot9, ht9, c9, Xt9, et9, Nt9, Zt9, hc9, Vt9, Ot9, pret9⟩ : ∃ (Tt : State) (ot : List Loc) (ht : Heap) (ct : Int32), (Stand p l e room_1 s m #[(.long q1), (.long q2), (.int p1)] below meth c Tt ot 1 36) ∧ (Tt.heap = ht) ∧ (Fr n0 ot) ∧ (n0 ≤ ht.size) ∧ (ct = nar .char (own_hx q1 (28 : Int32) p1 (8 : Int32))) ∧ (Arv Z ht b1 k1 .char (36 : Int32) [(.int c0), (.int c1), (.int c2), (.int c3), (.int c4), (.int c5), (.int c6), (.int c7), (.int c8), (.int ct), (.int (0 : Int32)), (.int (0 : Int32)), (.int (0 : Int32)), (.int (0 : Int32)), (.int (0 : Int32)), (.int (0 : Int32)), (.int (0 : Int32)), (.int (0 : Int32)), (.int (0 : Int32)), (.int (0 : Int32)), (.int (0 : Int32)), (.int (0 : Int32)), (.int (0 : Int32)), (.int (0 : Int32)), (.int (0 : Int32)), (.int (0 : Int32)), (.int (0 : Int32)), (.int (0 : Int32)), (.int (0 : Int32)), (.int (0 : Int32)), (.int (0 : Int32)), (.int (0 : Int32)), (.int (0 : Int32)), (.int (0 : Int32)), (.int (0 : Int32)), (.int (0 : Int32))] (.int (0 : Int32))) ∧ (Old Z n0 ht) ∧ (∀ t, Steps p.tables e below (Tt.setTop (mkF m 136 #[.val (.long q1), .second, .val (.long q2), .second, .val (.int p1), .val (.ref b1), .unset, .unset] [])) t → Steps p.tables e below (s₁.setTop (entryFrame m #[(.long q1), (.long q2), (.int p1)] maxLocals)) t) := by
    obtain ⟨_, _, ⟨T38, L38, k38, n38⟩, -, X38, ⟨Lc38, hQ38, l38, y38, z38⟩, st38⟩ := Jvm.LawKit.callS Xt8 hx (y := (⟨"com/example/nonce/nonce/id/UuidTextParsePinLaw", "hex", "(JIII)C"⟩ : MethodName)) hown (mvT hZ (hw _ (List.mem_of_getElem? (i := 1) rfl))) (mvT hZ (hw _ (List.mem_of_getElem? (i := 2) rfl))) (mvT hZ (hw _ (List.mem_of_getElem? (i := 3) rfl))) (mvT hZ (hw _ (List.mem_of_getElem? (i := 4) rfl))) (by decide) (backOf (W := 2) (rmX l Z a0 hw [] q1 (28 : Int32) p1 (8 : Int32)  ht8 n0 Zt8 ) hZ (hw _ (List.mem_of_getElem? (i := 4) rfl)) (hw _ (List.mem_of_getElem? (i := 3) rfl)) (by decide) (by decide)) (g := (mkF m 132 #[.val (.long q1), .second, .val (.long q2), .second, .val (.int p1), .val (.ref b1), .unset, .unset] [(.int (8 : Int32)), (.int p1), (.int (28 : Int32)), (.long q1), (.int (9 : Int32)), (.ref b1)])) rfl (by rw [hml]; rfl) (argsL := [(.long q1), (.int (28 : Int32)), (.int p1), (.int (8 : Int32))]) (rest := [(.int (9 : Int32)), (.ref b1)]) (lenOf pd_7 rfl) rfl (by show 2 * 0 + _ ≤ _; exact Nat.le_of_eq rfl) (hb hby at_132) (fun _ _ => ⟨rfl, et8, (by decide : 1 + 0 ≤ _), (by decide : 36 + 0 ≤ _)⟩)
    dsimp only [Pt.U, Pt.locs, Pt.cells, Pt.slots] at X38 l38 y38 z38 st38 hQ38
    subst l38 y38 z38
    obtain ⟨rfl, N38q, hq38⟩ := hQ38
    have N38 := Fr.app Nt8 N38q
    obtain ⟨cl39, Ar39, q39, S39, M39, H39, G39⟩ := id Vt8
    have hin39 : ¬ ((9 : Int32) < 0 ∨ cl39.slots.size ≤ ((9 : Int32)).toNatClampNeg) := inb_of S39 ⟨by decide, by decide⟩
    obtain ⟨T40, h40, X40, e40, W40, st40⟩ := stC X38 hx hZ hq38 Ar39 (j := (9 : Int32)) hin39 (g := (mkF m 135 #[.val (.long q1), .second, .val (.long q2), .second, .val (.int p1), .val (.ref b1), .unset, .unset] [(.int (own_hx q1 (28 : Int32) p1 (8 : Int32))), (.int (9 : Int32)), (.ref b1)])) rfl rfl (hb hby at_135)
    obtain ⟨c9, hc9⟩ : ∃ z : Int32, z = nar .char (own_hx q1 (28 : Int32) p1 (8 : Int32)) := ⟨_, rfl⟩
    rw [← hc9] at W40
    have V40 : Arv Z h40 b1 k1 .char (36 : Int32) [(.int c0), (.int c1), (.int c2), (.int c3), (.int c4), (.int c5), (.int c6), (.int c7), (.int c8), (.int c9), (.int (0 : Int32)), (.int (0 : Int32)), (.int (0 : Int32)), (.int (0 : Int32)), (.int (0 : Int32)), (.int (0 : Int32)), (.int (0 : Int32)), (.int (0 : Int32)), (.int (0 : Int32)), (.int (0 : Int32)), (.int (0 : Int32)), (.int (0 : Int32)), (.int (0 : Int32)), (.int (0 : Int32)), (.int (0 : Int32)), (.int (0 : Int32)), (.int (0 : Int32)), (.int (0 : Int32)), (.int (0 : Int32)), (.int (0 : Int32)), (.int (0 : Int32)), (.int (0 : Int32)), (.int (0 : Int32)), (.int (0 : Int32)), (.int (0 : Int32)), (.int (0 : Int32))] (.int (0 : Int32)) := Arv.set Ar39 q39 S39 M39 H39 G39 (by rw [hc9]; exact fits_nar_char _) W40 9 rfl (Nat.le_of_ble_eq_true rfl)
    have N40 := Fr.snoc X40 N38 g_b1
    have pre41 : ∀ t, Steps p.tables e below (T40.setTop (mkF m 136 #[.val (.long q1), .second, .val (.long q2), .second, .val (.int p1), .val (.ref b1), .unset, .unset] [])) t → Steps p.tables e below (s₁.setTop (entryFrame m #[(.long q1), (.long q2), (.int p1)] maxLocals)) t := by
      intro t k
      refine pret8 t ?_
      refine XS.aload Xt8.here hx rfl (hb hby at_121) rfl (rfl) ?_
      refine XS.bipush Xt8.here hx rfl (hb hby at_123) ?_
      show Steps p.tables e below (Tt8.setTop (mkF m 125 #[.val (.long q1), .second, .val (.long q2), .second, .val (.int p1), .val (.ref b1), .unset, .unset] [(.int (9 : Int32)), (.ref b1)])) _
      refine XS.lloadN Xt8.here hx rfl (hb hby at_125) rfl ?_
      refine XS.bipush Xt8.here hx rfl (hb hby at_126) ?_
      refine XS.iload Xt8.here hx rfl (hb hby at_128) rfl ?_
      refine XS.bipush Xt8.here hx rfl (hb hby at_130) ?_
      refine st38 _ ?_
      refine st40 _ ?_
      show Steps p.tables e below (T40.setTop (mkF m 136 #[.val (.long q1), .second, .val (.long q2), .second, .val (.int p1), .val (.ref b1), .unset, .unset] [])) _
      exact k
    exact ⟨T40, _, h40, c9, X40, e40, N40, (Nat.le_trans Zt8 (Keep.of_wr W40).1), hc9, V40, (Ot8.wr W40 g_b1), pre41⟩
  obtain ⟨Tt10, ot10, ht10, c10, Xt10, et10, Nt10, Zt10, hc10, Vt10, Ot10, pret10⟩ : ∃ (Tt : State) (ot : List Loc) (ht : Heap) (ct : Int32), (Stand p l e room_1 s m #[(.long q1), (.long q2), (.int p1)] below meth c Tt ot 1 36) ∧ (Tt.heap = ht) ∧ (Fr n0 ot) ∧ (n0 ≤ ht.size) ∧ (ct = nar .char (own_hx q1 (24 : Int32) p1 (9 : Int32))) ∧ (Arv Z ht b1 k1 .char (36 : Int32) [(.int c0), (.int c1), (.int c2), (.int c3), (.int c4), (.int c5), (.int c6), (.int c7), (.int c8), (.int c9), (.int ct), (.int (0 : Int32)), (.int (0 : Int32)), (.int (0 : Int32)), (.int (0 : Int32)), (.int (0 : Int32)), (.int (0 : Int32)), (.int (0 : Int32)), (.int (0 : Int32)), (.int (0 : Int32)), (.int (0 : Int32)), (.int (0 : Int32)), (.int (0 : Int32)), (.int (0 : Int32)), (.int (0 : Int32)), (.int (0 : Int32)), (.int (0 : Int32)), (.int (0 : Int32)), (.int (0 : Int32)), (.int (0 : Int32)), (.int (0 : Int32)), (.int (0 : Int32)), (.int (0 : Int32)), (.int (0 : Int32)), (.int (0 : Int32)), (.int (0 : Int32))] (.int (0 : Int32))) ∧ (Old Z n0 ht) ∧ (∀ t, Steps p.tables e below (Tt.setTop (mkF m 151 #[.val (.long q1), .second, .val (.long q2), .second, .val (.int p1), .val (.ref b1), .unset, .unset] [])) t → Steps p.tables e below (s₁.setTop (entryFrame m #[(.long q1), (.long q2), (.int p1)] maxLocals)) t) := by
    obtain ⟨_, _, ⟨T42, L42, k42, n42⟩, -, X42, ⟨Lc42, hQ42, l42, y42, z42⟩, st42⟩ := Jvm.LawKit.callS Xt9 hx (y := (⟨"com/example/nonce/nonce/id/UuidTextParsePinLaw", "hex", "(JIII)C"⟩ : MethodName)) hown (mvT hZ (hw _ (List.mem_of_getElem? (i := 1) rfl))) (mvT hZ (hw _ (List.mem_of_getElem? (i := 2) rfl))) (mvT hZ (hw _ (List.mem_of_getElem? (i := 3) rfl))) (mvT hZ (hw _ (List.mem_of_getElem? (i := 4) rfl))) (by decide) (backOf (W := 2) (rmX l Z a0 hw [] q1 (24 : Int32) p1 (9 : Int32)  ht9 n0 Zt9 ) hZ (hw _ (List.mem_of_getElem? (i := 4) rfl)) (hw _ (List.mem_of_getElem? (i := 3) rfl)) (by decide) (by decide)) (g := (mkF m 147 #[.val (.long q1), .second, .val (.long q2), .second, .val (.int p1), .val (.ref b1), .unset, .unset] [(.int (9 : Int32)), (.int p1), (.int (24 : Int32)), (.long q1), (.int (10 : Int32)), (.ref b1)])) rfl (by rw [hml]; rfl) (argsL := [(.long q1), (.int (24 : Int32)), (.int p1), (.int (9 : Int32))]) (rest := [(.int (10 : Int32)), (.ref b1)]) (lenOf pd_7 rfl) rfl (by show 2 * 0 + _ ≤ _; exact Nat.le_of_eq rfl) (hb hby at_147) (fun _ _ => ⟨rfl, et9, (by decide : 1 + 0 ≤ _), (by decide : 36 + 0 ≤ _)⟩)
    dsimp only [Pt.U, Pt.locs, Pt.cells, Pt.slots] at X42 l42 y42 z42 st42 hQ42
    subst l42 y42 z42
    obtain ⟨rfl, N42q, hq42⟩ := hQ42
    have N42 := Fr.app Nt9 N42q
    obtain ⟨cl43, Ar43, q43, S43, M43, H43, G43⟩ := id Vt9
    have hin43 : ¬ ((10 : Int32) < 0 ∨ cl43.slots.size ≤ ((10 : Int32)).toNatClampNeg) := inb_of S43 ⟨by decide, by decide⟩
    obtain ⟨T44, h44, X44, e44, W44, st44⟩ := stC X42 hx hZ hq42 Ar43 (j := (10 : Int32)) hin43 (g := (mkF m 150 #[.val (.long q1), .second, .val (.long q2), .second, .val (.int p1), .val (.ref b1), .unset, .unset] [(.int (own_hx q1 (24 : Int32) p1 (9 : Int32))), (.int (10 : Int32)), (.ref b1)])) rfl rfl (hb hby at_150)
    obtain ⟨c10, hc10⟩ : ∃ z : Int32, z = nar .char (own_hx q1 (24 : Int32) p1 (9 : Int32)) := ⟨_, rfl⟩
    rw [← hc10] at W44
    have V44 : Arv Z h44 b1 k1 .char (36 : Int32) [(.int c0), (.int c1), (.int c2), (.int c3), (.int c4), (.int c5), (.int c6), (.int c7), (.int c8), (.int c9), (.int c10), (.int (0 : Int32)), (.int (0 : Int32)), (.int (0 : Int32)), (.int (0 : Int32)), (.int (0 : Int32)), (.int (0 : Int32)), (.int (0 : Int32)), (.int (0 : Int32)), (.int (0 : Int32)), (.int (0 : Int32)), (.int (0 : Int32)), (.int (0 : Int32)), (.int (0 : Int32)), (.int (0 : Int32)), (.int (0 : Int32)), (.int (0 : Int32)), (.int (0 : Int32)), (.int (0 : Int32)), (.int (0 : Int32)), (.int (0 : Int32)), (.int (0 : Int32)), (.int (0 : Int32)), (.int (0 : Int32)), (.int (0 : Int32)), (.int (0 : Int32))] (.int (0 : Int32)) := Arv.set Ar43 q43 S43 M43 H43 G43 (by rw [hc10]; exact fits_nar_char _) W44 10 rfl (Nat.le_of_ble_eq_true rfl)
    have N44 := Fr.snoc X44 N42 g_b1
    have pre45 : ∀ t, Steps p.tables e below (T44.setTop (mkF m 151 #[.val (.long q1), .second, .val (.long q2), .second, .val (.int p1), .val (.ref b1), .unset, .unset] [])) t → Steps p.tables e below (s₁.setTop (entryFrame m #[(.long q1), (.long q2), (.int p1)] maxLocals)) t := by
      intro t k
      refine pret9 t ?_
      refine XS.aload Xt9.here hx rfl (hb hby at_136) rfl (rfl) ?_
      refine XS.bipush Xt9.here hx rfl (hb hby at_138) ?_
      refine XS.lloadN Xt9.here hx rfl (hb hby at_140) rfl ?_
      refine XS.bipush Xt9.here hx rfl (hb hby at_141) ?_
      refine XS.iload Xt9.here hx rfl (hb hby at_143) rfl ?_
      show Steps p.tables e below (Tt9.setTop (mkF m 145 #[.val (.long q1), .second, .val (.long q2), .second, .val (.int p1), .val (.ref b1), .unset, .unset] [(.int p1), (.int (24 : Int32)), (.long q1), (.int (10 : Int32)), (.ref b1)])) _
      refine XS.bipush Xt9.here hx rfl (hb hby at_145) ?_
      refine st42 _ ?_
      refine st44 _ ?_
      exact k
    exact ⟨T44, _, h44, c10, X44, e44, N44, (Nat.le_trans Zt9 (Keep.of_wr W44).1), hc10, V44, (Ot9.wr W44 g_b1), pre45⟩
  obtain ⟨Tt11, ot11, ht11, c11, Xt11, et11, Nt11, Zt11, hc11, Vt11, Ot11, pret11⟩ : ∃ (Tt : State) (ot : List Loc) (ht : Heap) (ct : Int32), (Stand p l e room_1 s m #[(.long q1), (.long q2), (.int p1)] below meth c Tt ot 1 36) ∧ (Tt.heap = ht) ∧ (Fr n0 ot) ∧ (n0 ≤ ht.size) ∧ (ct = nar .char (own_hx q1 (20 : Int32) p1 (10 : Int32))) ∧ (Arv Z ht b1 k1 .char (36 : Int32) [(.int c0), (.int c1), (.int c2), (.int c3), (.int c4), (.int c5), (.int c6), (.int c7), (.int c8), (.int c9), (.int c10), (.int ct), (.int (0 : Int32)), (.int (0 : Int32)), (.int (0 : Int32)), (.int (0 : Int32)), (.int (0 : Int32)), (.int (0 : Int32)), (.int (0 : Int32)), (.int (0 : Int32)), (.int (0 : Int32)), (.int (0 : Int32)), (.int (0 : Int32)), (.int (0 : Int32)), (.int (0 : Int32)), (.int (0 : Int32)), (.int (0 : Int32)), (.int (0 : Int32)), (.int (0 : Int32)), (.int (0 : Int32)), (.int (0 : Int32)), (.int (0 : Int32)), (.int (0 : Int32)), (.int (0 : Int32)), (.int (0 : Int32)), (.int (0 : Int32))] (.int (0 : Int32))) ∧ (Old Z n0 ht) ∧ (∀ t, Steps p.tables e below (Tt.setTop (mkF m 166 #[.val (.long q1), .second, .val (.long q2), .second, .val (.int p1), .val (.ref b1), .unset, .unset] [])) t → Steps p.tables e below (s₁.setTop (entryFrame m #[(.long q1), (.long q2), (.int p1)] maxLocals)) t) := by
    obtain ⟨_, _, ⟨T46, L46, k46, n46⟩, -, X46, ⟨Lc46, hQ46, l46, y46, z46⟩, st46⟩ := Jvm.LawKit.callS Xt10 hx (y := (⟨"com/example/nonce/nonce/id/UuidTextParsePinLaw", "hex", "(JIII)C"⟩ : MethodName)) hown (mvT hZ (hw _ (List.mem_of_getElem? (i := 1) rfl))) (mvT hZ (hw _ (List.mem_of_getElem? (i := 2) rfl))) (mvT hZ (hw _ (List.mem_of_getElem? (i := 3) rfl))) (mvT hZ (hw _ (List.mem_of_getElem? (i := 4) rfl))) (by decide) (backOf (W := 2) (rmX l Z a0 hw [] q1 (20 : Int32) p1 (10 : Int32)  ht10 n0 Zt10 ) hZ (hw _ (List.mem_of_getElem? (i := 4) rfl)) (hw _ (List.mem_of_getElem? (i := 3) rfl)) (by decide) (by decide)) (g := (mkF m 162 #[.val (.long q1), .second, .val (.long q2), .second, .val (.int p1), .val (.ref b1), .unset, .unset] [(.int (10 : Int32)), (.int p1), (.int (20 : Int32)), (.long q1), (.int (11 : Int32)), (.ref b1)])) rfl (by rw [hml]; rfl) (argsL := [(.long q1), (.int (20 : Int32)), (.int p1), (.int (10 : Int32))]) (rest := [(.int (11 : Int32)), (.ref b1)]) (lenOf pd_7 rfl) rfl (by show 2 * 0 + _ ≤ _; exact Nat.le_of_eq rfl) (hb hby at_162) (fun _ _ => ⟨rfl, et10, (by decide : 1 + 0 ≤ _), (by decide : 36 + 0 ≤ _)⟩)
    dsimp only [Pt.U, Pt.locs, Pt.cells, Pt.slots] at X46 l46 y46 z46 st46 hQ46
    subst l46 y46 z46
    obtain ⟨rfl, N46q, hq46⟩ := hQ46
    have N46 := Fr.app Nt10 N46q
    obtain ⟨cl47, Ar47, q47, S47, M47, H47, G47⟩ := id Vt10
    have hin47 : ¬ ((11 : Int32) < 0 ∨ cl47.slots.size ≤ ((11 : Int32)).toNatClampNeg) := inb_of S47 ⟨by decide, by decide⟩
    obtain ⟨T48, h48, X48, e48, W48, st48⟩ := stC X46 hx hZ hq46 Ar47 (j := (11 : Int32)) hin47 (g := (mkF m 165 #[.val (.long q1), .second, .val (.long q2), .second, .val (.int p1), .val (.ref b1), .unset, .unset] [(.int (own_hx q1 (20 : Int32) p1 (10 : Int32))), (.int (11 : Int32)), (.ref b1)])) rfl rfl (hb hby at_165)
    obtain ⟨c11, hc11⟩ : ∃ z : Int32, z = nar .char (own_hx q1 (20 : Int32) p1 (10 : Int32)) := ⟨_, rfl⟩
    rw [← hc11] at W48
    have V48 : Arv Z h48 b1 k1 .char (36 : Int32) [(.int c0), (.int c1), (.int c2), (.int c3), (.int c4), (.int c5), (.int c6), (.int c7), (.int c8), (.int c9), (.int c10), (.int c11), (.int (0 : Int32)), (.int (0 : Int32)), (.int (0 : Int32)), (.int (0 : Int32)), (.int (0 : Int32)), (.int (0 : Int32)), (.int (0 : Int32)), (.int (0 : Int32)), (.int (0 : Int32)), (.int (0 : Int32)), (.int (0 : Int32)), (.int (0 : Int32)), (.int (0 : Int32)), (.int (0 : Int32)), (.int (0 : Int32)), (.int (0 : Int32)), (.int (0 : Int32)), (.int (0 : Int32)), (.int (0 : Int32)), (.int (0 : Int32)), (.int (0 : Int32)), (.int (0 : Int32)), (.int (0 : Int32)), (.int (0 : Int32))] (.int (0 : Int32)) := Arv.set Ar47 q47 S47 M47 H47 G47 (by rw [hc11]; exact fits_nar_char _) W48 11 rfl (Nat.le_of_ble_eq_true rfl)
    have N48 := Fr.snoc X48 N46 g_b1
    have pre49 : ∀ t, Steps p.tables e below (T48.setTop (mkF m 166 #[.val (.long q1), .second, .val (.long q2), .second, .val (.int p1), .val (.ref b1), .unset, .unset] [])) t → Steps p.tables e below (s₁.setTop (entryFrame m #[(.long q1), (.long q2), (.int p1)] maxLocals)) t := by
      intro t k
      refine pret10 t ?_
      refine XS.aload Xt10.here hx rfl (hb hby at_151) rfl (rfl) ?_
      refine XS.bipush Xt10.here hx rfl (hb hby at_153) ?_
      show Steps p.tables e below (Tt10.setTop (mkF m 155 #[.val (.long q1), .second, .val (.long q2), .second, .val (.int p1), .val (.ref b1), .unset, .unset] [(.int (11 : Int32)), (.ref b1)])) _
      refine XS.lloadN Xt10.here hx rfl (hb hby at_155) rfl ?_
      refine XS.bipush Xt10.here hx rfl (hb hby at_156) ?_
      refine XS.iload Xt10.here hx rfl (hb hby at_158) rfl ?_
      refine XS.bipush Xt10.here hx rfl (hb hby at_160) ?_
      refine st46 _ ?_
      refine st48 _ ?_
      show Steps p.tables e below (T48.setTop (mkF m 166 #[.val (.long q1), .second, .val (.long q2), .second, .val (.int p1), .val (.ref b1), .unset, .unset] [])) _
      exact k
    exact ⟨T48, _, h48, c11, X48, e48, N48, (Nat.le_trans Zt10 (Keep.of_wr W48).1), hc11, V48, (Ot10.wr W48 g_b1), pre49⟩
  obtain ⟨Tt12, ot12, ht12, c12, Xt12, et12, Nt12, Zt12, hc12, Vt12, Ot12, pret12⟩ : ∃ (Tt : State) (ot : List Loc) (ht : Heap) (ct : Int32), (Stand p l e room_1 s m #[(.long q1), (.long q2), (.int p1)] below meth c Tt ot 1 36) ∧ (Tt.heap = ht) ∧ (Fr n0 ot) ∧ (n0 ≤ ht.size) ∧ (ct = nar .char (own_hx q1 (16 : Int32) p1 (11 : Int32))) ∧ (Arv Z ht b1 k1 .char (36 : Int32) [(.int c0), (.int c1), (.int c2), (.int c3), (.int c4), (.int c5), (.int c6), (.int c7), (.int c8), (.int c9), (.int c10), (.int c11), (.int ct), (.int (0 : Int32)), (.int (0 : Int32)), (.int (0 : Int32)), (.int (0 : Int32)), (.int (0 : Int32)), (.int (0 : Int32)), (.int (0 : Int32)), (.int (0 : Int32)), (.int (0 : Int32)), (.int (0 : Int32)), (.int (0 : Int32)), (.int (0 : Int32)), (.int (0 : Int32)), (.int (0 : Int32)), (.int (0 : Int32)), (.int (0 : Int32)), (.int (0 : Int32)), (.int (0 : Int32)), (.int (0 : Int32)), (.int (0 : Int32)), (.int (0 : Int32)), (.int (0 : Int32)), (.int (0 : Int32))] (.int (0 : Int32))) ∧ (Old Z n0 ht) ∧ (∀ t, Steps p.tables e below (Tt.setTop (mkF m 181 #[.val (.long q1), .second, .val (.long q2), .second, .val (.int p1), .val (.ref b1), .unset, .unset] [])) t → Steps p.tables e below (s₁.setTop (entryFrame m #[(.long q1), (.long q2), (.int p1)] maxLocals)) t) := by
    obtain ⟨_, _, ⟨T50, L50, k50, n50⟩, -, X50, ⟨Lc50, hQ50, l50, y50, z50⟩, st50⟩ := Jvm.LawKit.callS Xt11 hx (y := (⟨"com/example/nonce/nonce/id/UuidTextParsePinLaw", "hex", "(JIII)C"⟩ : MethodName)) hown (mvT hZ (hw _ (List.mem_of_getElem? (i := 1) rfl))) (mvT hZ (hw _ (List.mem_of_getElem? (i := 2) rfl))) (mvT hZ (hw _ (List.mem_of_getElem? (i := 3) rfl))) (mvT hZ (hw _ (List.mem_of_getElem? (i := 4) rfl))) (by decide) (backOf (W := 2) (rmX l Z a0 hw [] q1 (16 : Int32) p1 (11 : Int32)  ht11 n0 Zt11 ) hZ (hw _ (List.mem_of_getElem? (i := 4) rfl)) (hw _ (List.mem_of_getElem? (i := 3) rfl)) (by decide) (by decide)) (g := (mkF m 177 #[.val (.long q1), .second, .val (.long q2), .second, .val (.int p1), .val (.ref b1), .unset, .unset] [(.int (11 : Int32)), (.int p1), (.int (16 : Int32)), (.long q1), (.int (12 : Int32)), (.ref b1)])) rfl (by rw [hml]; rfl) (argsL := [(.long q1), (.int (16 : Int32)), (.int p1), (.int (11 : Int32))]) (rest := [(.int (12 : Int32)), (.ref b1)]) (lenOf pd_7 rfl) rfl (by show 2 * 0 + _ ≤ _; exact Nat.le_of_eq rfl) (hb hby at_177) (fun _ _ => ⟨rfl, et11, (by decide : 1 + 0 ≤ _), (by decide : 36 + 0 ≤ _)⟩)
    dsimp only [Pt.U, Pt.locs, Pt.cells, Pt.slots] at X50 l50 y50 z50 st50 hQ50
    subst l50 y50 z50
    obtain ⟨rfl, N50q, hq50⟩ := hQ50
    have N50 := Fr.app Nt11 N50q
    obtain ⟨cl51, Ar51, q51, S51, M51, H51, G51⟩ := id Vt11
    have hin51 : ¬ ((12 : Int32) < 0 ∨ cl51.slots.size ≤ ((12 : Int32)).toNatClampNeg) := inb_of S51 ⟨by decide, by decide⟩
    obtain ⟨T52, h52, X52, e52, W52, st52⟩ := stC X50 hx hZ hq50 Ar51 (j := (12 : Int32)) hin51 (g := (mkF m 180 #[.val (.long q1), .second, .val (.long q2), .second, .val (.int p1), .val (.ref b1), .unset, .unset] [(.int (own_hx q1 (16 : Int32) p1 (11 : Int32))), (.int (12 : Int32)), (.ref b1)])) rfl rfl (hb hby at_180)
    obtain ⟨c12, hc12⟩ : ∃ z : Int32, z = nar .char (own_hx q1 (16 : Int32) p1 (11 : Int32)) := ⟨_, rfl⟩
    rw [← hc12] at W52
    have V52 : Arv Z h52 b1 k1 .char (36 : Int32) [(.int c0), (.int c1), (.int c2), (.int c3), (.int c4), (.int c5), (.int c6), (.int c7), (.int c8), (.int c9), (.int c10), (.int c11), (.int c12), (.int (0 : Int32)), (.int (0 : Int32)), (.int (0 : Int32)), (.int (0 : Int32)), (.int (0 : Int32)), (.int (0 : Int32)), (.int (0 : Int32)), (.int (0 : Int32)), (.int (0 : Int32)), (.int (0 : Int32)), (.int (0 : Int32)), (.int (0 : Int32)), (.int (0 : Int32)), (.int (0 : Int32)), (.int (0 : Int32)), (.int (0 : Int32)), (.int (0 : Int32)), (.int (0 : Int32)), (.int (0 : Int32)), (.int (0 : Int32)), (.int (0 : Int32)), (.int (0 : Int32)), (.int (0 : Int32))] (.int (0 : Int32)) := Arv.set Ar51 q51 S51 M51 H51 G51 (by rw [hc12]; exact fits_nar_char _) W52 12 rfl (Nat.le_of_ble_eq_true rfl)
    have N52 := Fr.snoc X52 N50 g_b1
    have pre53 : ∀ t, Steps p.tables e below (T52.setTop (mkF m 181 #[.val (.long q1), .second, .val (.long q2), .second, .val (.int p1), .val (.ref b1), .unset, .unset] [])) t → Steps p.tables e below (s₁.setTop (entryFrame m #[(.long q1), (.long q2), (.int p1)] maxLocals)) t := by
      intro t k
      refine pret11 t ?_
      refine XS.aload Xt11.here hx rfl (hb hby at_166) rfl (rfl) ?_
      refine XS.bipush Xt11.here hx rfl (hb hby at_168) ?_
      refine XS.lloadN Xt11.here hx rfl (hb hby at_170) rfl ?_
      refine XS.bipush Xt11.here hx rfl (hb hby at_171) ?_
      refine XS.iload Xt11.here hx rfl (hb hby at_173) rfl ?_
      show Steps p.tables e below (Tt11.setTop (mkF m 175 #[.val (.long q1), .second, .val (.long q2), .second, .val (.int p1), .val (.ref b1), .unset, .unset] [(.int p1), (.int (16 : Int32)), (.long q1), (.int (12 : Int32)), (.ref b1)])) _
      refine XS.bipush Xt11.here hx rfl (hb hby at_175) ?_
      refine st50 _ ?_
      refine st52 _ ?_
      exact k
    exact ⟨T52, _, h52, c12, X52, e52, N52, (Nat.le_trans Zt11 (Keep.of_wr W52).1), hc12, V52, (Ot11.wr W52 g_b1), pre53⟩
  obtain ⟨Tt13, ot13, ht13, c13, Xt13, et13, Nt13, Zt13, hc13, Vt13, Ot13, pret13⟩ : ∃ (Tt : State) (ot : List Loc) (ht : Heap) (ct : Int32), (Stand p l e room_1 s m #[(.long q1), (.long q2), (.int p1)] below meth c Tt ot 1 36) ∧ (Tt.heap = ht) ∧ (Fr n0 ot) ∧ (n0 ≤ ht.size) ∧ (ct = nar .char (45 : Int32)) ∧ (Arv Z ht b1 k1 .char (36 : Int32) [(.int c0), (.int c1), (.int c2), (.int c3), (.int c4), (.int c5), (.int c6), (.int c7), (.int c8), (.int c9), (.int c10), (.int c11), (.int c12), (.int ct), (.int (0 : Int32)), (.int (0 : Int32)), (.int (0 : Int32)), (.int (0 : Int32)), (.int (0 : Int32)), (.int (0 : Int32)), (.int (0 : Int32)), (.int (0 : Int32)), (.int (0 : Int32)), (.int (0 : Int32)), (.int (0 : Int32)), (.int (0 : Int32)), (.int (0 : Int32)), (.int (0 : Int32)), (.int (0 : Int32)), (.int (0 : Int32)), (.int (0 : Int32)), (.int (0 : Int32)), (.int (0 : Int32)), (.int (0 : Int32)), (.int (0 : Int32)), (.int (0 : Int32))] (.int (0 : Int32))) ∧ (Old Z n0 ht) ∧ (∀ t, Steps p.tables e below (Tt.setTop (mkF m 188 #[.val (.long q1), .second, .val (.long q2), .second, .val (.int p1), .val (.ref b1), .unset, .unset] [])) t → Steps p.tables e below (s₁.setTop (entryFrame m #[(.long q1), (.long q2), (.int p1)] maxLocals)) t) := by
    obtain ⟨cl54, Ar54, q54, S54, M54, H54, G54⟩ := id Vt12
    have hin54 : ¬ ((13 : Int32) < 0 ∨ cl54.slots.size ≤ ((13 : Int32)).toNatClampNeg) := inb_of S54 ⟨by decide, by decide⟩
    obtain ⟨T55, h55, X55, e55, W55, st55⟩ := stC Xt12 hx hZ et12 Ar54 (j := (13 : Int32)) hin54 (g := (mkF m 187 #[.val (.long q1), .second, .val (.long q2), .second, .val (.int p1), .val (.ref b1), .unset, .unset] [(.int (45 : Int32)), (.int (13 : Int32)), (.ref b1)])) rfl rfl (hb hby at_187)
    obtain ⟨c13, hc13⟩ : ∃ z : Int32, z = nar .char (45 : Int32) := ⟨_, rfl⟩
    rw [← hc13] at W55
    have V55 : Arv Z h55 b1 k1 .char (36 : Int32) [(.int c0), (.int c1), (.int c2), (.int c3), (.int c4), (.int c5), (.int c6), (.int c7), (.int c8), (.int c9), (.int c10), (.int c11), (.int c12), (.int c13), (.int (0 : Int32)), (.int (0 : Int32)), (.int (0 : Int32)), (.int (0 : Int32)), (.int (0 : Int32)), (.int (0 : Int32)), (.int (0 : Int32)), (.int (0 : Int32)), (.int (0 : Int32)), (.int (0 : Int32)), (.int (0 : Int32)), (.int (0 : Int32)), (.int (0 : Int32)), (.int (0 : Int32)), (.int (0 : Int32)), (.int (0 : Int32)), (.int (0 : Int32)), (.int (0 : Int32)), (.int (0 : Int32)), (.int (0 : Int32)), (.int (0 : Int32)), (.int (0 : Int32))] (.int (0 : Int32)) := Arv.set Ar54 q54 S54 M54 H54 G54 (by rw [hc13]; exact fits_nar_char _) W55 13 rfl (Nat.le_of_ble_eq_true rfl)
    have N55 := Fr.snoc X55 Nt12 g_b1
    have pre56 : ∀ t, Steps p.tables e below (T55.setTop (mkF m 188 #[.val (.long q1), .second, .val (.long q2), .second, .val (.int p1), .val (.ref b1), .unset, .unset] [])) t → Steps p.tables e below (s₁.setTop (entryFrame m #[(.long q1), (.long q2), (.int p1)] maxLocals)) t := by
      intro t k
      refine pret12 t ?_
      refine XS.aload Xt12.here hx rfl (hb hby at_181) rfl (rfl) ?_
      refine XS.bipush Xt12.here hx rfl (hb hby at_183) ?_
      show Steps p.tables e below (Tt12.setTop (mkF m 185 #[.val (.long q1), .second, .val (.long q2), .second, .val (.int p1), .val (.ref b1), .unset, .unset] [(.int (13 : Int32)), (.ref b1)])) _
      refine XS.bipush Xt12.here hx rfl (hb hby at_185) ?_
      refine st55 _ ?_
      exact k
    exact ⟨T55, _, h55, c13, X55, e55, N55, (Nat.le_trans Zt12 (Keep.of_wr W55).1), hc13, V55, (Ot12.wr W55 g_b1), pre56⟩
  obtain ⟨Tt14, ot14, ht14, c14, Xt14, et14, Nt14, Zt14, hc14, Vt14, Ot14, pret14⟩ : ∃ (Tt : State) (ot : List Loc) (ht : Heap) (ct : Int32), (Stand p l e room_1 s m #[(.long q1), (.long q2), (.int p1)] below meth c Tt ot 1 36) ∧ (Tt.heap = ht) ∧ (Fr n0 ot) ∧ (n0 ≤ ht.size) ∧ (ct = nar .char (own_hx q1 (12 : Int32) p1 (12 : Int32))) ∧ (Arv Z ht b1 k1 .char (36 : Int32) [(.int c0), (.int c1), (.int c2), (.int c3), (.int c4), (.int c5), (.int c6), (.int c7), (.int c8), (.int c9), (.int c10), (.int c11), (.int c12), (.int c13), (.int ct), (.int (0 : Int32)), (.int (0 : Int32)), (.int (0 : Int32)), (.int (0 : Int32)), (.int (0 : Int32)), (.int (0 : Int32)), (.int (0 : Int32)), (.int (0 : Int32)), (.int (0 : Int32)), (.int (0 : Int32)), (.int (0 : Int32)), (.int (0 : Int32)), (.int (0 : Int32)), (.int (0 : Int32)), (.int (0 : Int32)), (.int (0 : Int32)), (.int (0 : Int32)), (.int (0 : Int32)), (.int (0 : Int32)), (.int (0 : Int32)), (.int (0 : Int32))] (.int (0 : Int32))) ∧ (Old Z n0 ht) ∧ (∀ t, Steps p.tables e below (Tt.setTop (mkF m 203 #[.val (.long q1), .second, .val (.long q2), .second, .val (.int p1), .val (.ref b1), .unset, .unset] [])) t → Steps p.tables e below (s₁.setTop (entryFrame m #[(.long q1), (.long q2), (.int p1)] maxLocals)) t) := by
    obtain ⟨_, _, ⟨T57, L57, k57, n57⟩, -, X57, ⟨Lc57, hQ57, l57, y57, z57⟩, st57⟩ := Jvm.LawKit.callS Xt13 hx (y := (⟨"com/example/nonce/nonce/id/UuidTextParsePinLaw", "hex", "(JIII)C"⟩ : MethodName)) hown (mvT hZ (hw _ (List.mem_of_getElem? (i := 1) rfl))) (mvT hZ (hw _ (List.mem_of_getElem? (i := 2) rfl))) (mvT hZ (hw _ (List.mem_of_getElem? (i := 3) rfl))) (mvT hZ (hw _ (List.mem_of_getElem? (i := 4) rfl))) (by decide) (backOf (W := 2) (rmX l Z a0 hw [] q1 (12 : Int32) p1 (12 : Int32)  ht13 n0 Zt13 ) hZ (hw _ (List.mem_of_getElem? (i := 4) rfl)) (hw _ (List.mem_of_getElem? (i := 3) rfl)) (by decide) (by decide)) (g := (mkF m 199 #[.val (.long q1), .second, .val (.long q2), .second, .val (.int p1), .val (.ref b1), .unset, .unset] [(.int (12 : Int32)), (.int p1), (.int (12 : Int32)), (.long q1), (.int (14 : Int32)), (.ref b1)])) rfl (by rw [hml]; rfl) (argsL := [(.long q1), (.int (12 : Int32)), (.int p1), (.int (12 : Int32))]) (rest := [(.int (14 : Int32)), (.ref b1)]) (lenOf pd_7 rfl) rfl (by show 2 * 0 + _ ≤ _; exact Nat.le_of_eq rfl) (hb hby at_199) (fun _ _ => ⟨rfl, et13, (by decide : 1 + 0 ≤ _), (by decide : 36 + 0 ≤ _)⟩)
    dsimp only [Pt.U, Pt.locs, Pt.cells, Pt.slots] at X57 l57 y57 z57 st57 hQ57
    subst l57 y57 z57
    obtain ⟨rfl, N57q, hq57⟩ := hQ57
    have N57 := Fr.app Nt13 N57q
    obtain ⟨cl58, Ar58, q58, S58, M58, H58, G58⟩ := id Vt13
    have hin58 : ¬ ((14 : Int32) < 0 ∨ cl58.slots.size ≤ ((14 : Int32)).toNatClampNeg) := inb_of S58 ⟨by decide, by decide⟩
    obtain ⟨T59, h59, X59, e59, W59, st59⟩ := stC X57 hx hZ hq57 Ar58 (j := (14 : Int32)) hin58 (g := (mkF m 202 #[.val (.long q1), .second, .val (.long q2), .second, .val (.int p1), .val (.ref b1), .unset, .unset] [(.int (own_hx q1 (12 : Int32) p1 (12 : Int32))), (.int (14 : Int32)), (.ref b1)])) rfl rfl (hb hby at_202)
    obtain ⟨c14, hc14⟩ : ∃ z : Int32, z = nar .char (own_hx q1 (12 : Int32) p1 (12 : Int32)) := ⟨_, rfl⟩
    rw [← hc14] at W59
    have V59 : Arv Z h59 b1 k1 .char (36 : Int32) [(.int c0), (.int c1), (.int c2), (.int c3), (.int c4), (.int c5), (.int c6), (.int c7), (.int c8), (.int c9), (.int c10), (.int c11), (.int c12), (.int c13), (.int c14), (.int (0 : Int32)), (.int (0 : Int32)), (.int (0 : Int32)), (.int (0 : Int32)), (.int (0 : Int32)), (.int (0 : Int32)), (.int (0 : Int32)), (.int (0 : Int32)), (.int (0 : Int32)), (.int (0 : Int32)), (.int (0 : Int32)), (.int (0 : Int32)), (.int (0 : Int32)), (.int (0 : Int32)), (.int (0 : Int32)), (.int (0 : Int32)), (.int (0 : Int32)), (.int (0 : Int32)), (.int (0 : Int32)), (.int (0 : Int32)), (.int (0 : Int32))] (.int (0 : Int32)) := Arv.set Ar58 q58 S58 M58 H58 G58 (by rw [hc14]; exact fits_nar_char _) W59 14 rfl (Nat.le_of_ble_eq_true rfl)
    have N59 := Fr.snoc X59 N57 g_b1
    have pre60 : ∀ t, Steps p.tables e below (T59.setTop (mkF m 203 #[.val (.long q1), .second, .val (.long q2), .second, .val (.int p1), .val (.ref b1), .unset, .unset] [])) t → Steps p.tables e below (s₁.setTop (entryFrame m #[(.long q1), (.long q2), (.int p1)] maxLocals)) t := by
      intro t k
      refine pret13 t ?_
      refine XS.aload Xt13.here hx rfl (hb hby at_188) rfl (rfl) ?_
      refine XS.bipush Xt13.here hx rfl (hb hby at_190) ?_
      refine XS.lloadN Xt13.here hx rfl (hb hby at_192) rfl ?_
      show Steps p.tables e below (Tt13.setTop (mkF m 193 #[.val (.long q1), .second, .val (.long q2), .second, .val (.int p1), .val (.ref b1), .unset, .unset] [(.long q1), (.int (14 : Int32)), (.ref b1)])) _
      refine XS.bipush Xt13.here hx rfl (hb hby at_193) ?_
      refine XS.iload Xt13.here hx rfl (hb hby at_195) rfl ?_
      refine XS.bipush Xt13.here hx rfl (hb hby at_197) ?_
      refine st57 _ ?_
      refine st59 _ ?_
      exact k
    exact ⟨T59, _, h59, c14, X59, e59, N59, (Nat.le_trans Zt13 (Keep.of_wr W59).1), hc14, V59, (Ot13.wr W59 g_b1), pre60⟩
  obtain ⟨Tt15, ot15, ht15, c15, Xt15, et15, Nt15, Zt15, hc15, Vt15, Ot15, pret15⟩ : ∃ (Tt : State) (ot : List Loc) (ht : Heap) (ct : Int32), (Stand p l e room_1 s m #[(.long q1), (.long q2), (.int p1)] below meth c Tt ot 1 36) ∧ (Tt.heap = ht) ∧ (Fr n0 ot) ∧ (n0 ≤ ht.size) ∧ (ct = nar .char (own_hx q1 (8 : Int32) p1 (13 : Int32))) ∧ (Arv Z ht b1 k1 .char (36 : Int32) [(.int c0), (.int c1), (.int c2), (.int c3), (.int c4), (.int c5), (.int c6), (.int c7), (.int c8), (.int c9), (.int c10), (.int c11), (.int c12), (.int c13), (.int c14), (.int ct), (.int (0 : Int32)), (.int (0 : Int32)), (.int (0 : Int32)), (.int (0 : Int32)), (.int (0 : Int32)), (.int (0 : Int32)), (.int (0 : Int32)), (.int (0 : Int32)), (.int (0 : Int32)), (.int (0 : Int32)), (.int (0 : Int32)), (.int (0 : Int32)), (.int (0 : Int32)), (.int (0 : Int32)), (.int (0 : Int32)), (.int (0 : Int32)), (.int (0 : Int32)), (.int (0 : Int32)), (.int (0 : Int32)), (.int (0 : Int32))] (.int (0 : Int32))) ∧ (Old Z n0 ht) ∧ (∀ t, Steps p.tables e below (Tt.setTop (mkF m 218 #[.val (.long q1), .second, .val (.long q2), .second, .val (.int p1), .val (.ref b1), .unset, .unset] [])) t → Steps p.tables e below (s₁.setTop (entryFrame m #[(.long q1), (.long q2), (.int p1)] maxLocals)) t) := by
    obtain ⟨_, _, ⟨T61, L61, k61, n61⟩, -, X61, ⟨Lc61, hQ61, l61, y61, z61⟩, st61⟩ := Jvm.LawKit.callS Xt14 hx (y := (⟨"com/example/nonce/nonce/id/UuidTextParsePinLaw", "hex", "(JIII)C"⟩ : MethodName)) hown (mvT hZ (hw _ (List.mem_of_getElem? (i := 1) rfl))) (mvT hZ (hw _ (List.mem_of_getElem? (i := 2) rfl))) (mvT hZ (hw _ (List.mem_of_getElem? (i := 3) rfl))) (mvT hZ (hw _ (List.mem_of_getElem? (i := 4) rfl))) (by decide) (backOf (W := 2) (rmX l Z a0 hw [] q1 (8 : Int32) p1 (13 : Int32)  ht14 n0 Zt14 ) hZ (hw _ (List.mem_of_getElem? (i := 4) rfl)) (hw _ (List.mem_of_getElem? (i := 3) rfl)) (by decide) (by decide)) (g := (mkF m 214 #[.val (.long q1), .second, .val (.long q2), .second, .val (.int p1), .val (.ref b1), .unset, .unset] [(.int (13 : Int32)), (.int p1), (.int (8 : Int32)), (.long q1), (.int (15 : Int32)), (.ref b1)])) rfl (by rw [hml]; rfl) (argsL := [(.long q1), (.int (8 : Int32)), (.int p1), (.int (13 : Int32))]) (rest := [(.int (15 : Int32)), (.ref b1)]) (lenOf pd_7 rfl) rfl (by show 2 * 0 + _ ≤ _; exact Nat.le_of_eq rfl) (hb hby at_214) (fun _ _ => ⟨rfl, et14, (by decide : 1 + 0 ≤ _), (by decide : 36 + 0 ≤ _)⟩)
    dsimp only [Pt.U, Pt.locs, Pt.cells, Pt.slots] at X61 l61 y61 z61 st61 hQ61
    subst l61 y61 z61
    obtain ⟨rfl, N61q, hq61⟩ := hQ61
    have N61 := Fr.app Nt14 N61q
    obtain ⟨cl62, Ar62, q62, S62, M62, H62, G62⟩ := id Vt14
    have hin62 : ¬ ((15 : Int32) < 0 ∨ cl62.slots.size ≤ ((15 : Int32)).toNatClampNeg) := inb_of S62 ⟨by decide, by decide⟩
    obtain ⟨T63, h63, X63, e63, W63, st63⟩ := stC X61 hx hZ hq61 Ar62 (j := (15 : Int32)) hin62 (g := (mkF m 217 #[.val (.long q1), .second, .val (.long q2), .second, .val (.int p1), .val (.ref b1), .unset, .unset] [(.int (own_hx q1 (8 : Int32) p1 (13 : Int32))), (.int (15 : Int32)), (.ref b1)])) rfl rfl (hb hby at_217)
    obtain ⟨c15, hc15⟩ : ∃ z : Int32, z = nar .char (own_hx q1 (8 : Int32) p1 (13 : Int32)) := ⟨_, rfl⟩
    rw [← hc15] at W63
    have V63 : Arv Z h63 b1 k1 .char (36 : Int32) [(.int c0), (.int c1), (.int c2), (.int c3), (.int c4), (.int c5), (.int c6), (.int c7), (.int c8), (.int c9), (.int c10), (.int c11), (.int c12), (.int c13), (.int c14), (.int c15), (.int (0 : Int32)), (.int (0 : Int32)), (.int (0 : Int32)), (.int (0 : Int32)), (.int (0 : Int32)), (.int (0 : Int32)), (.int (0 : Int32)), (.int (0 : Int32)), (.int (0 : Int32)), (.int (0 : Int32)), (.int (0 : Int32)), (.int (0 : Int32)), (.int (0 : Int32)), (.int (0 : Int32)), (.int (0 : Int32)), (.int (0 : Int32)), (.int (0 : Int32)), (.int (0 : Int32)), (.int (0 : Int32)), (.int (0 : Int32))] (.int (0 : Int32)) := Arv.set Ar62 q62 S62 M62 H62 G62 (by rw [hc15]; exact fits_nar_char _) W63 15 rfl (Nat.le_of_ble_eq_true rfl)
    have N63 := Fr.snoc X63 N61 g_b1
    have pre64 : ∀ t, Steps p.tables e below (T63.setTop (mkF m 218 #[.val (.long q1), .second, .val (.long q2), .second, .val (.int p1), .val (.ref b1), .unset, .unset] [])) t → Steps p.tables e below (s₁.setTop (entryFrame m #[(.long q1), (.long q2), (.int p1)] maxLocals)) t := by
      intro t k
      refine pret14 t ?_
      show Steps p.tables e below (Tt14.setTop (mkF m 203 #[.val (.long q1), .second, .val (.long q2), .second, .val (.int p1), .val (.ref b1), .unset, .unset] [])) _
      refine XS.aload Xt14.here hx rfl (hb hby at_203) rfl (rfl) ?_
      refine XS.bipush Xt14.here hx rfl (hb hby at_205) ?_
      refine XS.lloadN Xt14.here hx rfl (hb hby at_207) rfl ?_
      refine XS.bipush Xt14.here hx rfl (hb hby at_208) ?_
      refine XS.iload Xt14.here hx rfl (hb hby at_210) rfl ?_
      refine XS.bipush Xt14.here hx rfl (hb hby at_212) ?_
      show Steps p.tables e below (Tt14.setTop (mkF m 214 #[.val (.long q1), .second, .val (.long q2), .second, .val (.int p1), .val (.ref b1), .unset, .unset] [(.int (13 : Int32)), (.int p1), (.int (8 : Int32)), (.long q1), (.int (15 : Int32)), (.ref b1)])) _
      refine st61 _ ?_
      refine st63 _ ?_
      exact k
    exact ⟨T63, _, h63, c15, X63, e63, N63, (Nat.le_trans Zt14 (Keep.of_wr W63).1), hc15, V63, (Ot14.wr W63 g_b1), pre64⟩
  obtain ⟨Tt16, ot16, ht16, c16, Xt16, et16, Nt16, Zt16, hc16, Vt16, Ot16, pret16⟩ : ∃ (Tt : State) (ot : List Loc) (ht : Heap) (ct : Int32), (Stand p l e room_1 s m #[(.long q1), (.long q2), (.int p1)] below meth c Tt ot 1 36) ∧ (Tt.heap = ht) ∧ (Fr n0 ot) ∧ (n0 ≤ ht.size) ∧ (ct = nar .char (own_hx q1 (4 : Int32) p1 (14 : Int32))) ∧ (Arv Z ht b1 k1 .char (36 : Int32) [(.int c0), (.int c1), (.int c2), (.int c3), (.int c4), (.int c5), (.int c6), (.int c7), (.int c8), (.int c9), (.int c10), (.int c11), (.int c12), (.int c13), (.int c14), (.int c15), (.int ct), (.int (0 : Int32)), (.int (0 : Int32)), (.int (0 : Int32)), (.int (0 : Int32)), (.int (0 : Int32)), (.int (0 : Int32)), (.int (0 : Int32)), (.int (0 : Int32)), (.int (0 : Int32)), (.int (0 : Int32)), (.int (0 : Int32)), (.int (0 : Int32)), (.int (0 : Int32)), (.int (0 : Int32)), (.int (0 : Int32)), (.int (0 : Int32)), (.int (0 : Int32)), (.int (0 : Int32)), (.int (0 : Int32))] (.int (0 : Int32))) ∧ (Old Z n0 ht) ∧ (∀ t, Steps p.tables e below (Tt.setTop (mkF m 232 #[.val (.long q1), .second, .val (.long q2), .second, .val (.int p1), .val (.ref b1), .unset, .unset] [])) t → Steps p.tables e below (s₁.setTop (entryFrame m #[(.long q1), (.long q2), (.int p1)] maxLocals)) t) := by
    obtain ⟨_, _, ⟨T65, L65, k65, n65⟩, -, X65, ⟨Lc65, hQ65, l65, y65, z65⟩, st65⟩ := Jvm.LawKit.callS Xt15 hx (y := (⟨"com/example/nonce/nonce/id/UuidTextParsePinLaw", "hex", "(JIII)C"⟩ : MethodName)) hown (mvT hZ (hw _ (List.mem_of_getElem? (i := 1) rfl))) (mvT hZ (hw _ (List.mem_of_getElem? (i := 2) rfl))) (mvT hZ (hw _ (List.mem_of_getElem? (i := 3) rfl))) (mvT hZ (hw _ (List.mem_of_getElem? (i := 4) rfl))) (by decide) (backOf (W := 2) (rmX l Z a0 hw [] q1 (4 : Int32) p1 (14 : Int32)  ht15 n0 Zt15 ) hZ (hw _ (List.mem_of_getElem? (i := 4) rfl)) (hw _ (List.mem_of_getElem? (i := 3) rfl)) (by decide) (by decide)) (g := (mkF m 228 #[.val (.long q1), .second, .val (.long q2), .second, .val (.int p1), .val (.ref b1), .unset, .unset] [(.int (14 : Int32)), (.int p1), (.int (4 : Int32)), (.long q1), (.int (16 : Int32)), (.ref b1)])) rfl (by rw [hml]; rfl) (argsL := [(.long q1), (.int (4 : Int32)), (.int p1), (.int (14 : Int32))]) (rest := [(.int (16 : Int32)), (.ref b1)]) (lenOf pd_7 rfl) rfl (by show 2 * 0 + _ ≤ _; exact Nat.le_of_eq rfl) (hb hby at_228) (fun _ _ => ⟨rfl, et15, (by decide : 1 + 0 ≤ _), (by decide : 36 + 0 ≤ _)⟩)
    dsimp only [Pt.U, Pt.locs, Pt.cells, Pt.slots] at X65 l65 y65 z65 st65 hQ65
    subst l65 y65 z65
    obtain ⟨rfl, N65q, hq65⟩ := hQ65
    have N65 := Fr.app Nt15 N65q
    obtain ⟨cl66, Ar66, q66, S66, M66, H66, G66⟩ := id Vt15
    have hin66 : ¬ ((16 : Int32) < 0 ∨ cl66.slots.size ≤ ((16 : Int32)).toNatClampNeg) := inb_of S66 ⟨by decide, by decide⟩
    obtain ⟨T67, h67, X67, e67, W67, st67⟩ := stC X65 hx hZ hq65 Ar66 (j := (16 : Int32)) hin66 (g := (mkF m 231 #[.val (.long q1), .second, .val (.long q2), .second, .val (.int p1), .val (.ref b1), .unset, .unset] [(.int (own_hx q1 (4 : Int32) p1 (14 : Int32))), (.int (16 : Int32)), (.ref b1)])) rfl rfl (hb hby at_231)
    obtain ⟨c16, hc16⟩ : ∃ z : Int32, z = nar .char (own_hx q1 (4 : Int32) p1 (14 : Int32)) := ⟨_, rfl⟩
    rw [← hc16] at W67
    have V67 : Arv Z h67 b1 k1 .char (36 : Int32) [(.int c0), (.int c1), (.int c2), (.int c3), (.int c4), (.int c5), (.int c6), (.int c7), (.int c8), (.int c9), (.int c10), (.int c11), (.int c12), (.int c13), (.int c14), (.int c15), (.int c16), (.int (0 : Int32)), (.int (0 : Int32)), (.int (0 : Int32)), (.int (0 : Int32)), (.int (0 : Int32)), (.int (0 : Int32)), (.int (0 : Int32)), (.int (0 : Int32)), (.int (0 : Int32)), (.int (0 : Int32)), (.int (0 : Int32)), (.int (0 : Int32)), (.int (0 : Int32)), (.int (0 : Int32)), (.int (0 : Int32)), (.int (0 : Int32)), (.int (0 : Int32)), (.int (0 : Int32)), (.int (0 : Int32))] (.int (0 : Int32)) := Arv.set Ar66 q66 S66 M66 H66 G66 (by rw [hc16]; exact fits_nar_char _) W67 16 rfl (Nat.le_of_ble_eq_true rfl)
    have N67 := Fr.snoc X67 N65 g_b1
    have pre68 : ∀ t, Steps p.tables e below (T67.setTop (mkF m 232 #[.val (.long q1), .second, .val (.long q2), .second, .val (.int p1), .val (.ref b1), .unset, .unset] [])) t → Steps p.tables e below (s₁.setTop (entryFrame m #[(.long q1), (.long q2), (.int p1)] maxLocals)) t := by
      intro t k
      refine pret15 t ?_
      refine XS.aload Xt15.here hx rfl (hb hby at_218) rfl (rfl) ?_
      refine XS.bipush Xt15.here hx rfl (hb hby at_220) ?_
      refine XS.lloadN Xt15.here hx rfl (hb hby at_222) rfl ?_
      show Steps p.tables e below (Tt15.setTop (mkF m 223 #[.val (.long q1), .second, .val (.long q2), .second, .val (.int p1), .val (.ref b1), .unset, .unset] [(.long q1), (.int (16 : Int32)), (.ref b1)])) _
      refine XS.iconst Xt15.here hx rfl (hb hby at_223) ?_
      refine XS.iload Xt15.here hx rfl (hb hby at_224) rfl ?_
      refine XS.bipush Xt15.here hx rfl (hb hby at_226) ?_
      refine st65 _ ?_
      refine st67 _ ?_
      exact k
    exact ⟨T67, _, h67, c16, X67, e67, N67, (Nat.le_trans Zt15 (Keep.of_wr W67).1), hc16, V67, (Ot15.wr W67 g_b1), pre68⟩
  obtain ⟨Tt17, ot17, ht17, c17, Xt17, et17, Nt17, Zt17, hc17, Vt17, Ot17, pret17⟩ : ∃ (Tt : State) (ot : List Loc) (ht : Heap) (ct : Int32), (Stand p l e room_1 s m #[(.long q1), (.long q2), (.int p1)] below meth c Tt ot 1 36) ∧ (Tt.heap = ht) ∧ (Fr n0 ot) ∧ (n0 ≤ ht.size) ∧ (ct = nar .char (own_hx q1 (0 : Int32) p1 (15 : Int32))) ∧ (Arv Z ht b1 k1 .char (36 : Int32) [(.int c0), (.int c1), (.int c2), (.int c3), (.int c4), (.int c5), (.int c6), (.int c7), (.int c8), (.int c9), (.int c10), (.int c11), (.int c12), (.int c13), (.int c14), (.int c15), (.int c16), (.int ct), (.int (0 : Int32)), (.int (0 : Int32)), (.int (0 : Int32)), (.int (0 : Int32)), (.int (0 : Int32)), (.int (0 : Int32)), (.int (0 : Int32)), (.int (0 : Int32)), (.int (0 : Int32)), (.int (0 : Int32)), (.int (0 : Int32)), (.int (0 : Int32)), (.int (0 : Int32)), (.int (0 : Int32)), (.int (0 : Int32)), (.int (0 : Int32)), (.int (0 : Int32)), (.int (0 : Int32))] (.int (0 : Int32))) ∧ (Old Z n0 ht) ∧ (∀ t, Steps p.tables e below (Tt.setTop (mkF m 246 #[.val (.long q1), .second, .val (.long q2), .second, .val (.int p1), .val (.ref b1), .unset, .unset] [])) t → Steps p.tables e below (s₁.setTop (entryFrame m #[(.long q1), (.long q2), (.int p1)] maxLocals)) t) := by
    obtain ⟨_, _, ⟨T69, L69, k69, n69⟩, -, X69, ⟨Lc69, hQ69, l69, y69, z69⟩, st69⟩ := Jvm.LawKit.callS Xt16 hx (y := (⟨"com/example/nonce/nonce/id/UuidTextParsePinLaw", "hex", "(JIII)C"⟩ : MethodName)) hown (mvT hZ (hw _ (List.mem_of_getElem? (i := 1) rfl))) (mvT hZ (hw _ (List.mem_of_getElem? (i := 2) rfl))) (mvT hZ (hw _ (List.mem_of_getElem? (i := 3) rfl))) (mvT hZ (hw _ (List.mem_of_getElem? (i := 4) rfl))) (by decide) (backOf (W := 2) (rmX l Z a0 hw [] q1 (0 : Int32) p1 (15 : Int32)  ht16 n0 Zt16 ) hZ (hw _ (List.mem_of_getElem? (i := 4) rfl)) (hw _ (List.mem_of_getElem? (i := 3) rfl)) (by decide) (by decide)) (g := (mkF m 242 #[.val (.long q1), .second, .val (.long q2), .second, .val (.int p1), .val (.ref b1), .unset, .unset] [(.int (15 : Int32)), (.int p1), (.int (0 : Int32)), (.long q1), (.int (17 : Int32)), (.ref b1)])) rfl (by rw [hml]; rfl) (argsL := [(.long q1), (.int (0 : Int32)), (.int p1), (.int (15 : Int32))]) (rest := [(.int (17 : Int32)), (.ref b1)]) (lenOf pd_7 rfl) rfl (by show 2 * 0 + _ ≤ _; exact Nat.le_of_eq rfl) (hb hby at_242) (fun _ _ => ⟨rfl, et16, (by decide : 1 + 0 ≤ _), (by decide : 36 + 0 ≤ _)⟩)
    dsimp only [Pt.U, Pt.locs, Pt.cells, Pt.slots] at X69 l69 y69 z69 st69 hQ69
    subst l69 y69 z69
    obtain ⟨rfl, N69q, hq69⟩ := hQ69
    have N69 := Fr.app Nt16 N69q
    obtain ⟨cl70, Ar70, q70, S70, M70, H70, G70⟩ := id Vt16
    have hin70 : ¬ ((17 : Int32) < 0 ∨ cl70.slots.size ≤ ((17 : Int32)).toNatClampNeg) := inb_of S70 ⟨by decide, by decide⟩
    obtain ⟨T71, h71, X71, e71, W71, st71⟩ := stC X69 hx hZ hq69 Ar70 (j := (17 : Int32)) hin70 (g := (mkF m 245 #[.val (.long q1), .second, .val (.long q2), .second, .val (.int p1), .val (.ref b1), .unset, .unset] [(.int (own_hx q1 (0 : Int32) p1 (15 : Int32))), (.int (17 : Int32)), (.ref b1)])) rfl rfl (hb hby at_245)
    obtain ⟨c17, hc17⟩ : ∃ z : Int32, z = nar .char (own_hx q1 (0 : Int32) p1 (15 : Int32)) := ⟨_, rfl⟩
    rw [← hc17] at W71
    have V71 : Arv Z h71 b1 k1 .char (36 : Int32) [(.int c0), (.int c1), (.int c2), (.int c3), (.int c4), (.int c5), (.int c6), (.int c7), (.int c8), (.int c9), (.int c10), (.int c11), (.int c12), (.int c13), (.int c14), (.int c15), (.int c16), (.int c17), (.int (0 : Int32)), (.int (0 : Int32)), (.int (0 : Int32)), (.int (0 : Int32)), (.int (0 : Int32)), (.int (0 : Int32)), (.int (0 : Int32)), (.int (0 : Int32)), (.int (0 : Int32)), (.int (0 : Int32)), (.int (0 : Int32)), (.int (0 : Int32)), (.int (0 : Int32)), (.int (0 : Int32)), (.int (0 : Int32)), (.int (0 : Int32)), (.int (0 : Int32)), (.int (0 : Int32))] (.int (0 : Int32)) := Arv.set Ar70 q70 S70 M70 H70 G70 (by rw [hc17]; exact fits_nar_char _) W71 17 rfl (Nat.le_of_ble_eq_true rfl)
    have N71 := Fr.snoc X71 N69 g_b1
    have pre72 : ∀ t, Steps p.tables e below (T71.setTop (mkF m 246 #[.val (.long q1), .second, .val (.long q2), .second, .val (.int p1), .val (.ref b1), .unset, .unset] [])) t → Steps p.tables e below (s₁.setTop (entryFrame m #[(.long q1), (.long q2), (.int p1)] maxLocals)) t := by
      intro t k
      refine pret16 t ?_
      show Steps p.tables e below (Tt16.setTop (mkF m 232 #[.val (.long q1), .second, .val (.long q2), .second, .val (.int p1), .val (.ref b1), .unset, .unset] [])) _
      refine XS.aload Xt16.here hx rfl (hb hby at_232) rfl (rfl) ?_
      refine XS.bipush Xt16.here hx rfl (hb hby at_234) ?_
      refine XS.lloadN Xt16.here hx rfl (hb hby at_236) rfl ?_
      refine XS.iconst Xt16.here hx rfl (hb hby at_237) ?_
      refine XS.iload Xt16.here hx rfl (hb hby at_238) rfl ?_
      refine XS.bipush Xt16.here hx rfl (hb hby at_240) ?_
      show Steps p.tables e below (Tt16.setTop (mkF m 242 #[.val (.long q1), .second, .val (.long q2), .second, .val (.int p1), .val (.ref b1), .unset, .unset] [(.int (15 : Int32)), (.int p1), (.int (0 : Int32)), (.long q1), (.int (17 : Int32)), (.ref b1)])) _
      refine st69 _ ?_
      refine st71 _ ?_
      exact k
    exact ⟨T71, _, h71, c17, X71, e71, N71, (Nat.le_trans Zt16 (Keep.of_wr W71).1), hc17, V71, (Ot16.wr W71 g_b1), pre72⟩
  obtain ⟨Tt18, ot18, ht18, c18, Xt18, et18, Nt18, Zt18, hc18, Vt18, Ot18, pret18⟩ : ∃ (Tt : State) (ot : List Loc) (ht : Heap) (ct : Int32), (Stand p l e room_1 s m #[(.long q1), (.long q2), (.int p1)] below meth c Tt ot 1 36) ∧ (Tt.heap = ht) ∧ (Fr n0 ot) ∧ (n0 ≤ ht.size) ∧ (ct = nar .char (45 : Int32)) ∧ (Arv Z ht b1 k1 .char (36 : Int32) [(.int c0), (.int c1), (.int c2), (.int c3), (.int c4), (.int c5), (.int c6), (.int c7), (.int c8), (.int c9), (.int c10), (.int c11), (.int c12), (.int c13), (.int c14), (.int c15), (.int c16), (.int c17), (.int ct), (.int (0 : Int32)), (.int (0 : Int32)), (.int (0 : Int32)), (.int (0 : Int32)), (.int (0 : Int32)), (.int (0 : Int32)), (.int (0 : Int32)), (.int (0 : Int32)), (.int (0 : Int32)), (.int (0 : Int32)), (.int (0 : Int32)), (.int (0 : Int32)), (.int (0 : Int32)), (.int (0 : Int32)), (.int (0 : Int32)), (.int (0 : Int32)), (.int (0 : Int32))] (.int (0 : Int32))) ∧ (Old Z n0 ht) ∧ (∀ t, Steps p.tables e below (Tt.setTop (mkF m 253 #[.val (.long q1), .second, .val (.long q2), .second, .val (.int p1), .val (.ref b1), .unset, .unset] [])) t → Steps p.tables e below (s₁.setTop (entryFrame m #[(.long q1), (.long q2), (.int p1)] maxLocals)) t) := by
    obtain ⟨cl73, Ar73, q73, S73, M73, H73, G73⟩ := id Vt17
    have hin73 : ¬ ((18 : Int32) < 0 ∨ cl73.slots.size ≤ ((18 : Int32)).toNatClampNeg) := inb_of S73 ⟨by decide, by decide⟩
    obtain ⟨T74, h74, X74, e74, W74, st74⟩ := stC Xt17 hx hZ et17 Ar73 (j := (18 : Int32)) hin73 (g := (mkF m 252 #[.val (.long q1), .second, .val (.long q2), .second, .val (.int p1), .val (.ref b1), .unset, .unset] [(.int (45 : Int32)), (.int (18 : Int32)), (.ref b1)])) rfl rfl (hb hby at_252)
    obtain ⟨c18, hc18⟩ : ∃ z : Int32, z = nar .char (45 : Int32) := ⟨_, rfl⟩
    rw [← hc18] at W74
    have V74 : Arv Z h74 b1 k1 .char (36 : Int32) [(.int c0), (.int c1), (.int c2), (.int c3), (.int c4), (.int c5), (.int c6), (.int c7), (.int c8), (.int c9), (.int c10), (.int c11), (.int c12), (.int c13), (.int c14), (.int c15), (.int c16), (.int c17), (.int c18), (.int (0 : Int32)), (.int (0 : Int32)), (.int (0 : Int32)), (.int (0 : Int32)), (.int (0 : Int32)), (.int (0 : Int32)), (.int (0 : Int32)), (.int (0 : Int32)), (.int (0 : Int32)), (.int (0 : Int32)), (.int (0 : Int32)), (.int (0 : Int32)), (.int (0 : Int32)), (.int (0 : Int32)), (.int (0 : Int32)), (.int (0 : Int32)), (.int (0 : Int32))] (.int (0 : Int32)) := Arv.set Ar73 q73 S73 M73 H73 G73 (by rw [hc18]; exact fits_nar_char _) W74 18 rfl (Nat.le_of_ble_eq_true rfl)
    have N74 := Fr.snoc X74 Nt17 g_b1
    have pre75 : ∀ t, Steps p.tables e below (T74.setTop (mkF m 253 #[.val (.long q1), .second, .val (.long q2), .second, .val (.int p1), .val (.ref b1), .unset, .unset] [])) t → Steps p.tables e below (s₁.setTop (entryFrame m #[(.long q1), (.long q2), (.int p1)] maxLocals)) t := by
      intro t k
      refine pret17 t ?_
      refine XS.aload Xt17.here hx rfl (hb hby at_246) rfl (rfl) ?_
      refine XS.bipush Xt17.here hx rfl (hb hby at_248) ?_
      refine XS.bipush Xt17.here hx rfl (hb hby at_250) ?_
      show Steps p.tables e below (Tt17.setTop (mkF m 252 #[.val (.long q1), .second, .val (.long q2), .second, .val (.int p1), .val (.ref b1), .unset, .unset] [(.int (45 : Int32)), (.int (18 : Int32)), (.ref b1)])) _
      refine st74 _ ?_
      exact k
    exact ⟨T74, _, h74, c18, X74, e74, N74, (Nat.le_trans Zt17 (Keep.of_wr W74).1), hc18, V74, (Ot17.wr W74 g_b1), pre75⟩
  obtain ⟨Tt19, ot19, ht19, c19, Xt19, et19, Nt19, Zt19, hc19, Vt19, Ot19, pret19⟩ : ∃ (Tt : State) (ot : List Loc) (ht : Heap) (ct : Int32), (Stand p l e room_1 s m #[(.long q1), (.long q2), (.int p1)] below meth c Tt ot 1 36) ∧ (Tt.heap = ht) ∧ (Fr n0 ot) ∧ (n0 ≤ ht.size) ∧ (ct = nar .char (own_hx q2 (60 : Int32) p1 (16 : Int32))) ∧ (Arv Z ht b1 k1 .char (36 : Int32) [(.int c0), (.int c1), (.int c2), (.int c3), (.int c4), (.int c5), (.int c6), (.int c7), (.int c8), (.int c9), (.int c10), (.int c11), (.int c12), (.int c13), (.int c14), (.int c15), (.int c16), (.int c17), (.int c18), (.int ct), (.int (0 : Int32)), (.int (0 : Int32)), (.int (0 : Int32)), (.int (0 : Int32)), (.int (0 : Int32)), (.int (0 : Int32)), (.int (0 : Int32)), (.int (0 : Int32)), (.int (0 : Int32)), (.int (0 : Int32)), (.int (0 : Int32)), (.int (0 : Int32)), (.int (0 : Int32)), (.int (0 : Int32)), (.int (0 : Int32)), (.int (0 : Int32))] (.int (0 : Int32))) ∧ (Old Z n0 ht) ∧ (∀ t, Steps p.tables e below (Tt.setTop (mkF m 268 #[.val (.long q1), .second, .val (.long q2), .second, .val (.int p1), .val (.ref b1), .unset, .unset] [])) t → Steps p.tables e below (s₁.setTop (entryFrame m #[(.long q1), (.long q2), (.int p1)] maxLocals)) t) := by
    obtain ⟨_, _, ⟨T76, L76, k76, n76⟩, -, X76, ⟨Lc76, hQ76, l76, y76, z76⟩, st76⟩ := Jvm.LawKit.callS Xt18 hx (y := (⟨"com/example/nonce/nonce/id/UuidTextParsePinLaw", "hex", "(JIII)C"⟩ : MethodName)) hown (mvT hZ (hw _ (List.mem_of_getElem? (i := 1) rfl))) (mvT hZ (hw _ (List.mem_of_getElem? (i := 2) rfl))) (mvT hZ (hw _ (List.mem_of_getElem? (i := 3) rfl))) (mvT hZ (hw _ (List.mem_of_getElem? (i := 4) rfl))) (by decide) (backOf (W := 2) (rmX l Z a0 hw [] q2 (60 : Int32) p1 (16 : Int32)  ht18 n0 Zt18 ) hZ (hw _ (List.mem_of_getElem? (i := 4) rfl)) (hw _ (List.mem_of_getElem? (i := 3) rfl)) (by decide) (by decide)) (g := (mkF m 264 #[.val (.long q1), .second, .val (.long q2), .second, .val (.int p1), .val (.ref b1), .unset, .unset] [(.int (16 : Int32)), (.int p1), (.int (60 : Int32)), (.long q2), (.int (19 : Int32)), (.ref b1)])) rfl (by rw [hml]; rfl) (argsL := [(.long q2), (.int (60 : Int32)), (.int p1), (.int (16 : Int32))]) (rest := [(.int (19 : Int32)), (.ref b1)]) (lenOf pd_7 rfl) rfl (by show 2 * 0 + _ ≤ _; exact Nat.le_of_eq rfl) (hb hby at_264) (fun _ _ => ⟨rfl, et18, (by decide : 1 + 0 ≤ _), (by decide : 36 + 0 ≤ _)⟩)
    dsimp only [Pt.U, Pt.locs, Pt.cells, Pt.slots] at X76 l76 y76 z76 st76 hQ76
    subst l76 y76 z76
    obtain ⟨rfl, N76q, hq76⟩ := hQ76
    have N76 := Fr.app Nt18 N76q
    obtain ⟨cl77, Ar77, q77, S77, M77, H77, G77⟩ := id Vt18
    have hin77 : ¬ ((19 : Int32) < 0 ∨ cl77.slots.size ≤ ((19 : Int32)).toNatClampNeg) := inb_of S77 ⟨by decide, by decide⟩
    obtain ⟨T78, h78, X78, e78, W78, st78⟩ := stC X76 hx hZ hq76 Ar77 (j := (19 : Int32)) hin77 (g := (mkF m 267 #[.val (.long q1), .second, .val (.long q2), .second, .val (.int p1), .val (.ref b1), .unset, .unset] [(.int (own_hx q2 (60 : Int32) p1 (16 : Int32))), (.int (19 : Int32)), (.ref b1)])) rfl rfl (hb hby at_267)
    obtain ⟨c19, hc19⟩ : ∃ z : Int32, z = nar .char (own_hx q2 (60 : Int32) p1 (16 : Int32)) := ⟨_, rfl⟩
    rw [← hc19] at W78
    have V78 : Arv Z h78 b1 k1 .char (36 : Int32) [(.int c0), (.int c1), (.int c2), (.int c3), (.int c4), (.int c5), (.int c6), (.int c7), (.int c8), (.int c9), (.int c10), (.int c11), (.int c12), (.int c13), (.int c14), (.int c15), (.int c16), (.int c17), (.int c18), (.int c19), (.int (0 : Int32)), (.int (0 : Int32)), (.int (0 : Int32)), (.int (0 : Int32)), (.int (0 : Int32)), (.int (0 : Int32)), (.int (0 : Int32)), (.int (0 : Int32)), (.int (0 : Int32)), (.int (0 : Int32)), (.int (0 : Int32)), (.int (0 : Int32)), (.int (0 : Int32)), (.int (0 : Int32)), (.int (0 : Int32)), (.int (0 : Int32))] (.int (0 : Int32)) := Arv.set Ar77 q77 S77 M77 H77 G77 (by rw [hc19]; exact fits_nar_char _) W78 19 rfl (Nat.le_of_ble_eq_true rfl)
    have N78 := Fr.snoc X78 N76 g_b1
    have pre79 : ∀ t, Steps p.tables e below (T78.setTop (mkF m 268 #[.val (.long q1), .second, .val (.long q2), .second, .val (.int p1), .val (.ref b1), .unset, .unset] [])) t → Steps p.tables e below (s₁.setTop (entryFrame m #[(.long q1), (.long q2), (.int p1)] maxLocals)) t := by
      intro t k
      refine pret18 t ?_
      refine XS.aload Xt18.here hx rfl (hb hby at_253) rfl (rfl) ?_
      refine XS.bipush Xt18.here hx rfl (hb hby at_255) ?_
      refine XS.lloadN Xt18.here hx rfl (hb hby at_257) rfl ?_
      refine XS.bipush Xt18.here hx rfl (hb hby at_258) ?_
      show Steps p.tables e below (Tt18.setTop (mkF m 260 #[.val (.long q1), .second, .val (.long q2), .second, .val (.int p1), .val (.ref b1), .unset, .unset] [(.int (60 : Int32)), (.long q2), (.int (19 : Int32)), (.ref b1)])) _
      refine XS.iload Xt18.here hx rfl (hb hby at_260) rfl ?_
      refine XS.bipush Xt18.here hx rfl (hb hby at_262) ?_
      refine st76 _ ?_
      refine st78 _ ?_
      exact k
    exact ⟨T78, _, h78, c19, X78, e78, N78, (Nat.le_trans Zt18 (Keep.of_wr W78).1), hc19, V78, (Ot18.wr W78 g_b1), pre79⟩
  obtain ⟨Tt20, ot20, ht20, c20, Xt20, et20, Nt20, Zt20, hc20, Vt20, Ot20, pret20⟩ : ∃ (Tt : State) (ot : List Loc) (ht : Heap) (ct : Int32), (Stand p l e room_1 s m #[(.long q1), (.long q2), (.int p1)] below meth c Tt ot 1 36) ∧ (Tt.heap = ht) ∧ (Fr n0 ot) ∧ (n0 ≤ ht.size) ∧ (ct = nar .char (own_hx q2 (56 : Int32) p1 (17 : Int32))) ∧ (Arv Z ht b1 k1 .char (36 : Int32) [(.int c0), (.int c1), (.int c2), (.int c3), (.int c4), (.int c5), (.int c6), (.int c7), (.int c8), (.int c9), (.int c10), (.int c11), (.int c12), (.int c13), (.int c14), (.int c15), (.int c16), (.int c17), (.int c18), (.int c19), (.int ct), (.int (0 : Int32)), (.int (0 : Int32)), (.int (0 : Int32)), (.int (0 : Int32)), (.int (0 : Int32)), (.int (0 : Int32)), (.int (0 : Int32)), (.int (0 : Int32)), (.int (0 : Int32)), (.int (0 : Int32)), (.int (0 : Int32)), (.int (0 : Int32)), (.int (0 : Int32)), (.int (0 : Int32)), (.int (0 : Int32))] (.int (0 : Int32))) ∧ (Old Z n0 ht) ∧ (∀ t, Steps p.tables e below (Tt.setTop (mkF m 283 #[.val (.long q1), .second, .val (.long q2), .second, .val (.int p1), .val (.ref b1), .unset, .unset] [])) t → Steps p.tables e below (s₁.setTop (entryFrame m #[(.long q1), (.long q2), (.int p1)] maxLocals)) t) := by
    obtain ⟨_, _, ⟨T80, L80, k80, n80⟩, -, X80, ⟨Lc80, hQ80, l80, y80, z80⟩, st80⟩ := Jvm.LawKit.callS Xt19 hx (y := (⟨"com/example/nonce/nonce/id/UuidTextParsePinLaw", "hex", "(JIII)C"⟩ : MethodName)) hown (mvT hZ (hw _ (List.mem_of_getElem? (i := 1) rfl))) (mvT hZ (hw _ (List.mem_of_getElem? (i := 2) rfl))) (mvT hZ (hw _ (List.mem_of_getElem? (i := 3) rfl))) (mvT hZ (hw _ (List.mem_of_getElem? (i := 4) rfl))) (by decide) (backOf (W := 2) (rmX l Z a0 hw [] q2 (56 : Int32) p1 (17 : Int32)  ht19 n0 Zt19 ) hZ (hw _ (List.mem_of_getElem? (i := 4) rfl)) (hw _ (List.mem_of_getElem? (i := 3) rfl)) (by decide) (by decide)) (g := (mkF m 279 #[.val (.long q1), .second, .val (.long q2), .second, .val (.int p1), .val (.ref b1), .unset, .unset] [(.int (17 : Int32)), (.int p1), (.int (56 : Int32)), (.long q2), (.int (20 : Int32)), (.ref b1)])) rfl (by rw [hml]; rfl) (argsL := [(.long q2), (.int (56 : Int32)), (.int p1), (.int (17 : Int32))]) (rest := [(.int (20 : Int32)), (.ref b1)]) (lenOf pd_7 rfl) rfl (by show 2 * 0 + _ ≤ _; exact Nat.le_of_eq rfl) (hb hby at_279) (fun _ _ => ⟨rfl, et19, (by decide : 1 + 0 ≤ _), (by decide : 36 + 0 ≤ _)⟩)
    dsimp only [Pt.U, Pt.locs, Pt.cells, Pt.slots] at X80 l80 y80 z80 st80 hQ80
    subst l80 y80 z80
    obtain ⟨rfl, N80q, hq80⟩ := hQ80
    have N80 := Fr.app Nt19 N80q
    obtain ⟨cl81, Ar81, q81, S81, M81, H81, G81⟩ := id Vt19
    have hin81 : ¬ ((20 : Int32) < 0 ∨ cl81.slots.size ≤ ((20 : Int32)).toNatClampNeg) := inb_of S81 ⟨by decide, by decide⟩
    obtain ⟨T82, h82, X82, e82, W82, st82⟩ := stC X80 hx hZ hq80 Ar81 (j := (20 : Int32)) hin81 (g := (mkF m 282 #[.val (.long q1), .second, .val (.long q2), .second, .val (.int p1), .val (.ref b1), .unset, .unset] [(.int (own_hx q2 (56 : Int32) p1 (17 : Int32))), (.int (20 : Int32)), (.ref b1)])) rfl rfl (hb hby at_282)
    obtain ⟨c20, hc20⟩ : ∃ z : Int32, z = nar .char (own_hx q2 (56 : Int32) p1 (17 : Int32)) := ⟨_, rfl⟩
    rw [← hc20] at W82
    have V82 : Arv Z h82 b1 k1 .char (36 : Int32) [(.int c0), (.int c1), (.int c2), (.int c3), (.int c4), (.int c5), (.int c6), (.int c7), (.int c8), (.int c9), (.int c10), (.int c11), (.int c12), (.int c13), (.int c14), (.int c15), (.int c16), (.int c17), (.int c18), (.int c19), (.int c20), (.int (0 : Int32)), (.int (0 : Int32)), (.int (0 : Int32)), (.int (0 : Int32)), (.int (0 : Int32)), (.int (0 : Int32)), (.int (0 : Int32)), (.int (0 : Int32)), (.int (0 : Int32)), (.int (0 : Int32)), (.int (0 : Int32)), (.int (0 : Int32)), (.int (0 : Int32)), (.int (0 : Int32)), (.int (0 : Int32))] (.int (0 : Int32)) := Arv.set Ar81 q81 S81 M81 H81 G81 (by rw [hc20]; exact fits_nar_char _) W82 20 rfl (Nat.le_of_ble_eq_true rfl)
    have N82 := Fr.snoc X82 N80 g_b1
    have pre83 : ∀ t, Steps p.tables e below (T82.setTop (mkF m 283 #[.val (.long q1), .second, .val (.long q2), .second, .val (.int p1), .val (.ref b1), .unset, .unset] [])) t → Steps p.tables e below (s₁.setTop (entryFrame m #[(.long q1), (.long q2), (.int p1)] maxLocals)) t := by
      intro t k
      refine pret19 t ?_
      refine XS.aload Xt19.here hx rfl (hb hby at_268) rfl (rfl) ?_
      show Steps p.tables e below (Tt19.setTop (mkF m 270 #[.val (.long q1), .second, .val (.long q2), .second, .val (.int p1), .val (.ref b1), .unset, .unset] [(.ref b1)])) _
      refine XS.bipush Xt19.here hx rfl (hb hby at_270) ?_
      refine XS.lloadN Xt19.here hx rfl (hb hby at_272) rfl ?_
      refine XS.bipush Xt19.here hx rfl (hb hby at_273) ?_
      refine XS.iload Xt19.here hx rfl (hb hby at_275) rfl ?_
      refine XS.bipush Xt19.here hx rfl (hb hby at_277) ?_
      refine st80 _ ?_
      show Steps p.tables e below (T80.setTop (mkF m 282 #[.val (.long q1), .second, .val (.long q2), .second, .val (.int p1), .val (.ref b1), .unset, .unset] [(.int (own_hx q2 (56 : Int32) p1 (17 : Int32))), (.int (20 : Int32)), (.ref b1)])) _
      refine st82 _ ?_
      exact k
    exact ⟨T82, _, h82, c20, X82, e82, N82, (Nat.le_trans Zt19 (Keep.of_wr W82).1), hc20, V82, (Ot19.wr W82 g_b1), pre83⟩
  obtain ⟨Tt21, ot21, ht21, c21, Xt21, et21, Nt21, Zt21, hc21, Vt21, Ot21, pret21⟩ : ∃ (Tt : State) (ot : List Loc) (ht : Heap) (ct : Int32), (Stand p l e room_1 s m #[(.long q1), (.long q2), (.int p1)] below meth c Tt ot 1 36) ∧ (Tt.heap = ht) ∧ (Fr n0 ot) ∧ (n0 ≤ ht.size) ∧ (ct = nar .char (own_hx q2 (52 : Int32) p1 (18 : Int32))) ∧ (Arv Z ht b1 k1 .char (36 : Int32) [(.int c0), (.int c1), (.int c2), (.int c3), (.int c4), (.int c5), (.int c6), (.int c7), (.int c8), (.int c9), (.int c10), (.int c11), (.int c12), (.int c13), (.int c14), (.int c15), (.int c16), (.int c17), (.int c18), (.int c19), (.int c20), (.int ct), (.int (0 : Int32)), (.int (0 : Int32)), (.int (0 : Int32)), (.int (0 : Int32)), (.int (0 : Int32)), (.int (0 : Int32)), (.int (0 : Int32)), (.int (0 : Int32)), (.int (0 : Int32)), (.int (0 : Int32)), (.int (0 : Int32)), (.int (0 : Int32)), (.int (0 : Int32)), (.int (0 : Int32))] (.int (0 : Int32))) ∧ (Old Z n0 ht) ∧ (∀ t, Steps p.tables e below (Tt.setTop (mkF m 298 #[.val (.long q1), .second, .val (.long q2), .second, .val (.int p1), .val (.ref b1), .unset, .unset] [])) t → Steps p.tables e below (s₁.setTop (entryFrame m #[(.long q1), (.long q2), (.int p1)] maxLocals)) t) := by
    obtain ⟨_, _, ⟨T84, L84, k84, n84⟩, -, X84, ⟨Lc84, hQ84, l84, y84, z84⟩, st84⟩ := Jvm.LawKit.callS Xt20 hx (y := (⟨"com/example/nonce/nonce/id/UuidTextParsePinLaw", "hex", "(JIII)C"⟩ : MethodName)) hown (mvT hZ (hw _ (List.mem_of_getElem? (i := 1) rfl))) (mvT hZ (hw _ (List.mem_of_getElem? (i := 2) rfl))) (mvT hZ (hw _ (List.mem_of_getElem? (i := 3) rfl))) (mvT hZ (hw _ (List.mem_of_getElem? (i := 4) rfl))) (by decide) (backOf (W := 2) (rmX l Z a0 hw [] q2 (52 : Int32) p1 (18 : Int32)  ht20 n0 Zt20 ) hZ (hw _ (List.mem_of_getElem? (i := 4) rfl)) (hw _ (List.mem_of_getElem? (i := 3) rfl)) (by decide) (by decide)) (g := (mkF m 294 #[.val (.long q1), .second, .val (.long q2), .second, .val (.int p1), .val (.ref b1), .unset, .unset] [(.int (18 : Int32)), (.int p1), (.int (52 : Int32)), (.long q2), (.int (21 : Int32)), (.ref b1)])) rfl (by rw [hml]; rfl) (argsL := [(.long q2), (.int (52 : Int32)), (.int p1), (.int (18 : Int32))]) (rest := [(.int (21 : Int32)), (.ref b1)]) (lenOf pd_7 rfl) rfl (by show 2 * 0 + _ ≤ _; exact Nat.le_of_eq rfl) (hb hby at_294) (fun _ _ => ⟨rfl, et20, (by decide : 1 + 0 ≤ _), (by decide : 36 + 0 ≤ _)⟩)
    dsimp only [Pt.U, Pt.locs, Pt.cells, Pt.slots] at X84 l84 y84 z84 st84 hQ84
    subst l84 y84 z84
    obtain ⟨rfl, N84q, hq84⟩ := hQ84
    have N84 := Fr.app Nt20 N84q
    obtain ⟨cl85, Ar85, q85, S85, M85, H85, G85⟩ := id Vt20
    have hin85 : ¬ ((21 : Int32) < 0 ∨ cl85.slots.size ≤ ((21 : Int32)).toNatClampNeg) := inb_of S85 ⟨by decide, by decide⟩
    obtain ⟨T86, h86, X86, e86, W86, st86⟩ := stC X84 hx hZ hq84 Ar85 (j := (21 : Int32)) hin85 (g := (mkF m 297 #[.val (.long q1), .second, .val (.long q2), .second, .val (.int p1), .val (.ref b1), .unset, .unset] [(.int (own_hx q2 (52 : Int32) p1 (18 : Int32))), (.int (21 : Int32)), (.ref b1)])) rfl rfl (hb hby at_297)
    obtain ⟨c21, hc21⟩ : ∃ z : Int32, z = nar .char (own_hx q2 (52 : Int32) p1 (18 : Int32)) := ⟨_, rfl⟩
    rw [← hc21] at W86
    have V86 : Arv Z h86 b1 k1 .char (36 : Int32) [(.int c0), (.int c1), (.int c2), (.int c3), (.int c4), (.int c5), (.int c6), (.int c7), (.int c8), (.int c9), (.int c10), (.int c11), (.int c12), (.int c13), (.int c14), (.int c15), (.int c16), (.int c17), (.int c18), (.int c19), (.int c20), (.int c21), (.int (0 : Int32)), (.int (0 : Int32)), (.int (0 : Int32)), (.int (0 : Int32)), (.int (0 : Int32)), (.int (0 : Int32)), (.int (0 : Int32)), (.int (0 : Int32)), (.int (0 : Int32)), (.int (0 : Int32)), (.int (0 : Int32)), (.int (0 : Int32)), (.int (0 : Int32)), (.int (0 : Int32))] (.int (0 : Int32)) := Arv.set Ar85 q85 S85 M85 H85 G85 (by rw [hc21]; exact fits_nar_char _) W86 21 rfl (Nat.le_of_ble_eq_true rfl)
    have N86 := Fr.snoc X86 N84 g_b1
    have pre87 : ∀ t, Steps p.tables e below (T86.setTop (mkF m 298 #[.val (.long q1), .second, .val (.long q2), .second, .val (.int p1), .val (.ref b1), .unset, .unset] [])) t → Steps p.tables e below (s₁.setTop (entryFrame m #[(.long q1), (.long q2), (.int p1)] maxLocals)) t := by
      intro t k
      refine pret20 t ?_
      refine XS.aload Xt20.here hx rfl (hb hby at_283) rfl (rfl) ?_
      refine XS.bipush Xt20.here hx rfl (hb hby at_285) ?_
      refine XS.lloadN Xt20.here hx rfl (hb hby at_287) rfl ?_
      refine XS.bipush Xt20.here hx rfl (hb hby at_288) ?_
      show Steps p.tables e below (Tt20.setTop (mkF m 290 #[.val (.long q1), .second, .val (.long q2), .second, .val (.int p1), .val (.ref b1), .unset, .unset] [(.int (52 : Int32)), (.long q2), (.int (21 : Int32)), (.ref b1)])) _
      refine XS.iload Xt20.here hx rfl (hb hby at_290) rfl ?_
      refine XS.bipush Xt20.here hx rfl (hb hby at_292) ?_
      refine st84 _ ?_
      refine st86 _ ?_
      exact k
    exact ⟨T86, _, h86, c21, X86, e86, N86, (Nat.le_trans Zt20 (Keep.of_wr W86).1), hc21, V86, (Ot20.wr W86 g_b1), pre87⟩
  obtain ⟨Tt22, ot22, ht22, c22, Xt22, et22, Nt22, Zt22, hc22, Vt22, Ot22, pret22⟩ : ∃ (Tt : State) (ot : List Loc) (ht : Heap) (ct : Int32), (Stand p l e room_1 s m #[(.long q1), (.long q2), (.int p1)] below meth c Tt ot 1 36) ∧ (Tt.heap = ht) ∧ (Fr n0 ot) ∧ (n0 ≤ ht.size) ∧ (ct = nar .char (own_hx q2 (48 : Int32) p1 (19 : Int32))) ∧ (Arv Z ht b1 k1 .char (36 : Int32) [(.int c0), (.int c1), (.int c2), (.int c3), (.int c4), (.int c5), (.int c6), (.int c7), (.int c8), (.int c9), (.int c10), (.int c11), (.int c12), (.int c13), (.int c14), (.int c15), (.int c16), (.int c17), (.int c18), (.int c19), (.int c20), (.int c21), (.int ct), (.int (0 : Int32)), (.int (0 : Int32)), (.int (0 : Int32)), (.int (0 : Int32)), (.int (0 : Int32)), (.int (0 : Int32)), (.int (0 : Int32)), (.int (0 : Int32)), (.int (0 : Int32)), (.int (0 : Int32)), (.int (0 : Int32)), (.int (0 : Int32)), (.int (0 : Int32))] (.int (0 : Int32))) ∧ (Old Z n0 ht) ∧ (∀ t, Steps p.tables e below (Tt.setTop (mkF m 313 #[.val (.long q1), .second, .val (.long q2), .second, .val (.int p1), .val (.ref b1), .unset, .unset] [])) t → Steps p.tables e below (s₁.setTop (entryFrame m #[(.long q1), (.long q2), (.int p1)] maxLocals)) t) := by
    obtain ⟨_, _, ⟨T88, L88, k88, n88⟩, -, X88, ⟨Lc88, hQ88, l88, y88, z88⟩, st88⟩ := Jvm.LawKit.callS Xt21 hx (y := (⟨"com/example/nonce/nonce/id/UuidTextParsePinLaw", "hex", "(JIII)C"⟩ : MethodName)) hown (mvT hZ (hw _ (List.mem_of_getElem? (i := 1) rfl))) (mvT hZ (hw _ (List.mem_of_getElem? (i := 2) rfl))) (mvT hZ (hw _ (List.mem_of_getElem? (i := 3) rfl))) (mvT hZ (hw _ (List.mem_of_getElem? (i := 4) rfl))) (by decide) (backOf (W := 2) (rmX l Z a0 hw [] q2 (48 : Int32) p1 (19 : Int32)  ht21 n0 Zt21 ) hZ (hw _ (List.mem_of_getElem? (i := 4) rfl)) (hw _ (List.mem_of_getElem? (i := 3) rfl)) (by decide) (by decide)) (g := (mkF m 309 #[.val (.long q1), .second, .val (.long q2), .second, .val (.int p1), .val (.ref b1), .unset, .unset] [(.int (19 : Int32)), (.int p1), (.int (48 : Int32)), (.long q2), (.int (22 : Int32)), (.ref b1)])) rfl (by rw [hml]; rfl) (argsL := [(.long q2), (.int (48 : Int32)), (.int p1), (.int (19 : Int32))]) (rest := [(.int (22 : Int32)), (.ref b1)]) (lenOf pd_7 rfl) rfl (by show 2 * 0 + _ ≤ _; exact Nat.le_of_eq rfl) (hb hby at_309) (fun _ _ => ⟨rfl, et21, (by decide : 1 + 0 ≤ _), (by decide : 36 + 0 ≤ _)⟩)
    dsimp only [Pt.U, Pt.locs, Pt.cells, Pt.slots] at X88 l88 y88 z88 st88 hQ88
    subst l88 y88 z88
    obtain ⟨rfl, N88q, hq88⟩ := hQ88
    have N88 := Fr.app Nt21 N88q
    obtain ⟨cl89, Ar89, q89, S89, M89, H89, G89⟩ := id Vt21
    have hin89 : ¬ ((22 : Int32) < 0 ∨ cl89.slots.size ≤ ((22 : Int32)).toNatClampNeg) := inb_of S89 ⟨by decide, by decide⟩
    obtain ⟨T90, h90, X90, e90, W90, st90⟩ := stC X88 hx hZ hq88 Ar89 (j := (22 : Int32)) hin89 (g := (mkF m 312 #[.val (.long q1), .second, .val (.long q2), .second, .val (.int p1), .val (.ref b1), .unset, .unset] [(.int (own_hx q2 (48 : Int32) p1 (19 : Int32))), (.int (22 : Int32)), (.ref b1)])) rfl rfl (hb hby at_312)
    obtain ⟨c22, hc22⟩ : ∃ z : Int32, z = nar .char (own_hx q2 (48 : Int32) p1 (19 : Int32)) := ⟨_, rfl⟩
    rw [← hc22] at W90
    have V90 : Arv Z h90 b1 k1 .char (36 : Int32) [(.int c0), (.int c1), (.int c2), (.int c3), (.int c4), (.int c5), (.int c6), (.int c7), (.int c8), (.int c9), (.int c10), (.int c11), (.int c12), (.int c13), (.int c14), (.int c15), (.int c16), (.int c17), (.int c18), (.int c19), (.int c20), (.int c21), (.int c22), (.int (0 : Int32)), (.int (0 : Int32)), (.int (0 : Int32)), (.int (0 : Int32)), (.int (0 : Int32)), (.int (0 : Int32)), (.int (0 : Int32)), (.int (0 : Int32)), (.int (0 : Int32)), (.int (0 : Int32)), (.int (0 : Int32)), (.int (0 : Int32)), (.int (0 : Int32))] (.int (0 : Int32)) := Arv.set Ar89 q89 S89 M89 H89 G89 (by rw [hc22]; exact fits_nar_char _) W90 22 rfl (Nat.le_of_ble_eq_true rfl)
    have N90 := Fr.snoc X90 N88 g_b1
    have pre91 : ∀ t, Steps p.tables e below (T90.setTop (mkF m 313 #[.val (.long q1), .second, .val (.long q2), .second, .val (.int p1), .val (.ref b1), .unset, .unset] [])) t → Steps p.tables e below (s₁.setTop (entryFrame m #[(.long q1), (.long q2), (.int p1)] maxLocals)) t := by
      intro t k
      refine pret21 t ?_
      refine XS.aload Xt21.here hx rfl (hb hby at_298) rfl (rfl) ?_
      show Steps p.tables e below (Tt21.setTop (mkF m 300 #[.val (.long q1), .second, .val (.long q2), .second, .val (.int p1), .val (.ref b1), .unset, .unset] [(.ref b1)])) _
      refine XS.bipush Xt21.here hx rfl (hb hby at_300) ?_
      refine XS.lloadN Xt21.here hx rfl (hb hby at_302) rfl ?_
      refine XS.bipush Xt21.here hx rfl (hb hby at_303) ?_
      refine XS.iload Xt21.here hx rfl (hb hby at_305) rfl ?_
      refine XS.bipush Xt21.here hx rfl (hb hby at_307) ?_
      refine st88 _ ?_
      show Steps p.tables e below (T88.setTop (mkF m 312 #[.val (.long q1), .second, .val (.long q2), .second, .val (.int p1), .val (.ref b1), .unset, .unset] [(.int (own_hx q2 (48 : Int32) p1 (19 : Int32))), (.int (22 : Int32)), (.ref b1)])) _
      refine st90 _ ?_
      exact k
    exact ⟨T90, _, h90, c22, X90, e90, N90, (Nat.le_trans Zt21 (Keep.of_wr W90).1), hc22, V90, (Ot21.wr W90 g_b1), pre91⟩
  obtain ⟨Tt23, ot23, ht23, c23, Xt23, et23, Nt23, Zt23, hc23, Vt23, Ot23, pret23⟩ : ∃ (Tt : State) (ot : List Loc) (ht : Heap) (ct : Int32), (Stand p l e room_1 s m #[(.long q1), (.long q2), (.int p1)] below meth c Tt ot 1 36) ∧ (Tt.heap = ht) ∧ (Fr n0 ot) ∧ (n0 ≤ ht.size) ∧ (ct = nar .char (45 : Int32)) ∧ (Arv Z ht b1 k1 .char (36 : Int32) [(.int c0), (.int c1), (.int c2), (.int c3), (.int c4), (.int c5), (.int c6), (.int c7), (.int c8), (.int c9), (.int c10), (.int c11), (.int c12), (.int c13), (.int c14), (.int c15), (.int c16), (.int c17), (.int c18), (.int c19), (.int c20), (.int c21), (.int c22), (.int ct), (.int (0 : Int32)), (.int (0 : Int32)), (.int (0 : Int32)), (.int (0 : Int32)), (.int (0 : Int32)), (.int (0 : Int32)), (.int (0 : Int32)), (.int (0 : Int32)), (.int (0 : Int32)), (.int (0 : Int32)), (.int (0 : Int32)), (.int (0 : Int32))] (.int (0 : Int32))) ∧ (Old Z n0 ht) ∧ (∀ t, Steps p.tables e below (Tt.setTop (mkF m 320 #[.val (.long q1), .second, .val (.long q2), .second, .val (.int p1), .val (.ref b1), .unset, .unset] [])) t → Steps p.tables e below (s₁.setTop (entryFrame m #[(.long q1), (.long q2), (.int p1)] maxLocals)) t) := by
    obtain ⟨cl92, Ar92, q92, S92, M92, H92, G92⟩ := id Vt22
    have hin92 : ¬ ((23 : Int32) < 0 ∨ cl92.slots.size ≤ ((23 : Int32)).toNatClampNeg) := inb_of S92 ⟨by decide, by decide⟩
    obtain ⟨T93, h93, X93, e93, W93, st93⟩ := stC Xt22 hx hZ et22 Ar92 (j := (23 : Int32)) hin92 (g := (mkF m 319 #[.val (.long q1), .second, .val (.long q2), .second, .val (.int p1), .val (.ref b1), .unset, .unset] [(.int (45 : Int32)), (.int (23 : Int32)), (.ref b1)])) rfl rfl (hb hby at_319)
    obtain ⟨c23, hc23⟩ : ∃ z : Int32, z = nar .char (45 : Int32) := ⟨_, rfl⟩
    rw [← hc23] at W93
    have V93 : Arv Z h93 b1 k1 .char (36 : Int32) [(.int c0), (.int c1), (.int c2), (.int c3), (.int c4), (.int c5), (.int c6), (.int c7), (.int c8), (.int c9), (.int c10), (.int c11), (.int c12), (.int c13), (.int c14), (.int c15), (.int c16), (.int c17), (.int c18), (.int c19), (.int c20), (.int c21), (.int c22), (.int c23), (.int (0 : Int32)), (.int (0 : Int32)), (.int (0 : Int32)), (.int (0 : Int32)), (.int (0 : Int32)), (.int (0 : Int32)), (.int (0 : Int32)), (.int (0 : Int32)), (.int (0 : Int32)), (.int (0 : Int32)), (.int (0 : Int32)), (.int (0 : Int32))] (.int (0 : Int32)) := Arv.set Ar92 q92 S92 M92 H92 G92 (by rw [hc23]; exact fits_nar_char _) W93 23 rfl (Nat.le_of_ble_eq_true rfl)
    have N93 := Fr.snoc X93 Nt22 g_b1
    have pre94 : ∀ t, Steps p.tables e below (T93.setTop (mkF m 320 #[.val (.long q1), .second, .val (.long q2), .second, .val (.int p1), .val (.ref b1), .unset, .unset] [])) t → Steps p.tables e below (s₁.setTop (entryFrame m #[(.long q1), (.long q2), (.int p1)] maxLocals)) t := by
      intro t k
      refine pret22 t ?_
      refine XS.aload Xt22.here hx rfl (hb hby at_313) rfl (rfl) ?_
      refine XS.bipush Xt22.here hx rfl (hb hby at_315) ?_
      refine XS.bipush Xt22.here hx rfl (hb hby at_317) ?_
      refine st93 _ ?_
      show Steps p.tables e below (T93.setTop (mkF m 320 #[.val (.long q1), .second, .val (.long q2), .second, .val (.int p1), .val (.ref b1), .unset, .unset] [])) _
      exact k
    exact ⟨T93, _, h93, c23, X93, e93, N93, (Nat.le_trans Zt22 (Keep.of_wr W93).1), hc23, V93, (Ot22.wr W93 g_b1), pre94⟩
  obtain ⟨Tt24, ot24, ht24, c24, Xt24, et24, Nt24, Zt24, hc24, Vt24, Ot24, pret24⟩ : ∃ (Tt : State) (ot : List Loc) (ht : Heap) (ct : Int32), (Stand p l e room_1 s m #[(.long q1), (.long q2), (.int p1)] below meth c Tt ot 1 36) ∧ (Tt.heap = ht) ∧ (Fr n0 ot) ∧ (n0 ≤ ht.size) ∧ (ct = nar .char (own_hx q2 (44 : Int32) p1 (20 : Int32))) ∧ (Arv Z ht b1 k1 .char (36 : Int32) [(.int c0), (.int c1), (.int c2), (.int c3), (.int c4), (.int c5), (.int c6), (.int c7), (.int c8), (.int c9), (.int c10), (.int c11), (.int c12), (.int c13), (.int c14), (.int c15), (.int c16), (.int c17), (.int c18), (.int c19), (.int c20), (.int c21), (.int c22), (.int c23), (.int ct), (.int (0 : Int32)), (.int (0 : Int32)), (.int (0 : Int32)), (.int (0 : Int32)), (.int (0 : Int32)), (.int (0 : Int32)), (.int (0 : Int32)), (.int (0 : Int32)), (.int (0 : Int32)), (.int (0 : Int32)), (.int (0 : Int32))] (.int (0 : Int32))) ∧ (Old Z n0 ht) ∧ (∀ t, Steps p.tables e below (Tt.setTop (mkF m 335 #[.val (.long q1), .second, .val (.long q2), .second, .val (.int p1), .val (.ref b1), .unset, .unset] [])) t → Steps p.tables e below (s₁.setTop (entryFrame m #[(.long q1), (.long q2), (.int p1)] maxLocals)) t) := by
    obtain ⟨_, _, ⟨T95, L95, k95, n95⟩, -, X95, ⟨Lc95, hQ95, l95, y95, z95⟩, st95⟩ := Jvm.LawKit.callS Xt23 hx (y := (⟨"com/example/nonce/nonce/id/UuidTextParsePinLaw", "hex", "(JIII)C"⟩ : MethodName)) hown (mvT hZ (hw _ (List.mem_of_getElem? (i := 1) rfl))) (mvT hZ (hw _ (List.mem_of_getElem? (i := 2) rfl))) (mvT hZ (hw _ (List.mem_of_getElem? (i := 3) rfl))) (mvT hZ (hw _ (List.mem_of_getElem? (i := 4) rfl))) (by decide) (backOf (W := 2) (rmX l Z a0 hw [] q2 (44 : Int32) p1 (20 : Int32)  ht23 n0 Zt23 ) hZ (hw _ (List.mem_of_getElem? (i := 4) rfl)) (hw _ (List.mem_of_getElem? (i := 3) rfl)) (by decide) (by decide)) (g := (mkF m 331 #[.val (.long q1), .second, .val (.long q2), .second, .val (.int p1), .val (.ref b1), .unset, .unset] [(.int (20 : Int32)), (.int p1), (.int (44 : Int32)), (.long q2), (.int (24 : Int32)), (.ref b1)])) rfl (by rw [hml]; rfl) (argsL := [(.long q2), (.int (44 : Int32)), (.int p1), (.int (20 : Int32))]) (rest := [(.int (24 : Int32)), (.ref b1)]) (lenOf pd_7 rfl) rfl (by show 2 * 0 + _ ≤ _; exact Nat.le_of_eq rfl) (hb hby at_331) (fun _ _ => ⟨rfl, et23, (by decide : 1 + 0 ≤ _), (by decide : 36 + 0 ≤ _)⟩)
    dsimp only [Pt.U, Pt.locs, Pt.cells, Pt.slots] at X95 l95 y95 z95 st95 hQ95
    subst l95 y95 z95
    obtain ⟨rfl, N95q, hq95⟩ := hQ95
    have N95 := Fr.app Nt23 N95q
    obtain ⟨cl96, Ar96, q96, S96, M96, H96, G96⟩ := id Vt23
    have hin96 : ¬ ((24 : Int32) < 0 ∨ cl96.slots.size ≤ ((24 : Int32)).toNatClampNeg) := inb_of S96 ⟨by decide, by decide⟩
    obtain ⟨T97, h97, X97, e97, W97, st97⟩ := stC X95 hx hZ hq95 Ar96 (j := (24 : Int32)) hin96 (g := (mkF m 334 #[.val (.long q1), .second, .val (.long q2), .second, .val (.int p1), .val (.ref b1), .unset, .unset] [(.int (own_hx q2 (44 : Int32) p1 (20 : Int32))), (.int (24 : Int32)), (.ref b1)])) rfl rfl (hb hby at_334)
    obtain ⟨c24, hc24⟩ : ∃ z : Int32, z = nar .char (own_hx q2 (44 : Int32) p1 (20 : Int32)) := ⟨_, rfl⟩
    rw [← hc24] at W97
    have V97 : Arv Z h97 b1 k1 .char (36 : Int32) [(.int c0), (.int c1), (.int c2), (.int c3), (.int c4), (.int c5), (.int c6), (.int c7), (.int c8), (.int c9), (.int c10), (.int c11), (.int c12), (.int c13), (.int c14), (.int c15), (.int c16), (.int c17), (.int c18), (.int c19), (.int c20), (.int c21), (.int c22), (.int c23), (.int c24), (.int (0 : Int32)), (.int (0 : Int32)), (.int (0 : Int32)), (.int (0 : Int32)), (.int (0 : Int32)), (.int (0 : Int32)), (.int (0 : Int32)), (.int (0 : Int32)), (.int (0 : Int32)), (.int (0 : Int32)), (.int (0 : Int32))] (.int (0 : Int32)) := Arv.set Ar96 q96 S96 M96 H96 G96 (by rw [hc24]; exact fits_nar_char _) W97 24 rfl (Nat.le_of_ble_eq_true rfl)
    have N97 := Fr.snoc X97 N95 g_b1
    have pre98 : ∀ t, Steps p.tables e below (T97.setTop (mkF m 335 #[.val (.long q1), .second, .val (.long q2), .second, .val (.int p1), .val (.ref b1), .unset, .unset] [])) t → Steps p.tables e below (s₁.setTop (entryFrame m #[(.long q1), (.long q2), (.int p1)] maxLocals)) t := by
      intro t k
      refine pret23 t ?_
      refine XS.aload Xt23.here hx rfl (hb hby at_320) rfl (rfl) ?_
      refine XS.bipush Xt23.here hx rfl (hb hby at_322) ?_
      refine XS.lloadN Xt23.here hx rfl (hb hby at_324) rfl ?_
      refine XS.bipush Xt23.here hx rfl (hb hby at_325) ?_
      refine XS.iload Xt23.here hx rfl (hb hby at_327) rfl ?_
      show Steps p.tables e below (Tt23.setTop (mkF m 329 #[.val (.long q1), .second, .val (.long q2), .second, .val (.int p1), .val (.ref b1), .unset, .unset] [(.int p1), (.int (44 : Int32)), (.long q2), (.int (24 : Int32)), (.ref b1)])) _
      refine XS.bipush Xt23.here hx rfl (hb hby at_329) ?_
      refine st95 _ ?_
      refine st97 _ ?_
      exact k
    exact ⟨T97, _, h97, c24, X97, e97, N97, (Nat.le_trans Zt23 (Keep.of_wr W97).1), hc24, V97, (Ot23.wr W97 g_b1), pre98⟩
  obtain ⟨Tt25, ot25, ht25, c25, Xt25, et25, Nt25, Zt25, hc25, Vt25, Ot25, pret25⟩ : ∃ (Tt : State) (ot : List Loc) (ht : Heap) (ct : Int32), (Stand p l e room_1 s m #[(.long q1), (.long q2), (.int p1)] below meth c Tt ot 1 36) ∧ (Tt.heap = ht) ∧ (Fr n0 ot) ∧ (n0 ≤ ht.size) ∧ (ct = nar .char (own_hx q2 (40 : Int32) p1 (21 : Int32))) ∧ (Arv Z ht b1 k1 .char (36 : Int32) [(.int c0), (.int c1), (.int c2), (.int c3), (.int c4), (.int c5), (.int c6), (.int c7), (.int c8), (.int c9), (.int c10), (.int c11), (.int c12), (.int c13), (.int c14), (.int c15), (.int c16), (.int c17), (.int c18), (.int c19), (.int c20), (.int c21), (.int c22), (.int c23), (.int c24), (.int ct), (.int (0 : Int32)), (.int (0 : Int32)), (.int (0 : Int32)), (.int (0 : Int32)), (.int (0 : Int32)), (.int (0 : Int32)), (.int (0 : Int32)), (.int (0 : Int32)), (.int (0 : Int32)), (.int (0 : Int32))] (.int (0 : Int32))) ∧ (Old Z n0 ht) ∧ (∀ t, Steps p.tables e below (Tt.setTop (mkF m 350 #[.val (.long q1), .second, .val (.long q2), .second, .val (.int p1), .val (.ref b1), .unset, .unset] [])) t → Steps p.tables e below (s₁.setTop (entryFrame m #[(.long q1), (.long q2), (.int p1)] maxLocals)) t) := by
    obtain ⟨_, _, ⟨T99, L99, k99, n99⟩, -, X99, ⟨Lc99, hQ99, l99, y99, z99⟩, st99⟩ := Jvm.LawKit.callS Xt24 hx (y := (⟨"com/example/nonce/nonce/id/UuidTextParsePinLaw", "hex", "(JIII)C"⟩ : MethodName)) hown (mvT hZ (hw _ (List.mem_of_getElem? (i := 1) rfl))) (mvT hZ (hw _ (List.mem_of_getElem? (i := 2) rfl))) (mvT hZ (hw _ (List.mem_of_getElem? (i := 3) rfl))) (mvT hZ (hw _ (List.mem_of_getElem? (i := 4) rfl))) (by decide) (backOf (W := 2) (rmX l Z a0 hw [] q2 (40 : Int32) p1 (21 : Int32)  ht24 n0 Zt24 ) hZ (hw _ (List.mem_of_getElem? (i := 4) rfl)) (hw _ (List.mem_of_getElem? (i := 3) rfl)) (by decide) (by decide)) (g := (mkF m 346 #[.val (.long q1), .second, .val (.long q2), .second, .val (.int p1), .val (.ref b1), .unset, .unset] [(.int (21 : Int32)), (.int p1), (.int (40 : Int32)), (.long q2), (.int (25 : Int32)), (.ref b1)])) rfl (by rw [hml]; rfl) (argsL := [(.long q2), (.int (40 : Int32)), (.int p1), (.int (21 : Int32))]) (rest := [(.int (25 : Int32)), (.ref b1)]) (lenOf pd_7 rfl) rfl (by show 2 * 0 + _ ≤ _; exact Nat.le_of_eq rfl) (hb hby at_346) (fun _ _ => ⟨rfl, et24, (by decide : 1 + 0 ≤ _), (by decide : 36 + 0 ≤ _)⟩)
    dsimp only [Pt.U, Pt.locs, Pt.cells, Pt.slots] at X99 l99 y99 z99 st99 hQ99
    subst l99 y99 z99
    obtain ⟨rfl, N99q, hq99⟩ := hQ99
    have N99 := Fr.app Nt24 N99q
    obtain ⟨cl100, Ar100, q100, S100, M100, H100, G100⟩ := id Vt24
    have hin100 : ¬ ((25 : Int32) < 0 ∨ cl100.slots.size ≤ ((25 : Int32)).toNatClampNeg) := inb_of S100 ⟨by decide, by decide⟩
    obtain ⟨T101, h101, X101, e101, W101, st101⟩ := stC X99 hx hZ hq99 Ar100 (j := (25 : Int32)) hin100 (g := (mkF m 349 #[.val (.long q1), .second, .val (.long q2), .second, .val (.int p1), .val (.ref b1), .unset, .unset] [(.int (own_hx q2 (40 : Int32) p1 (21 : Int32))), (.int (25 : Int32)), (.ref b1)])) rfl rfl (hb hby at_349)
    obtain ⟨c25, hc25⟩ : ∃ z : Int32, z = nar .char (own_hx q2 (40 : Int32) p1 (21 : Int32)) := ⟨_, rfl⟩
    rw [← hc25] at W101
    have V101 : Arv Z h101 b1 k1 .char (36 : Int32) [(.int c0), (.int c1), (.int c2), (.int c3), (.int c4), (.int c5), (.int c6), (.int c7), (.int c8), (.int c9), (.int c10), (.int c11), (.int c12), (.int c13), (.int c14), (.int c15), (.int c16), (.int c17), (.int c18), (.int c19), (.int c20), (.int c21), (.int c22), (.int c23), (.int c24), (.int c25), (.int (0 : Int32)), (.int (0 : Int32)), (.int (0 : Int32)), (.int (0 : Int32)), (.int (0 : Int32)), (.int (0 : Int32)), (.int (0 : Int32)), (.int (0 : Int32)), (.int (0 : Int32)), (.int (0 : Int32))] (.int (0 : Int32)) := Arv.set Ar100 q100 S100 M100 H100 G100 (by rw [hc25]; exact fits_nar_char _) W101 25 rfl (Nat.le_of_ble_eq_true rfl)
    have N101 := Fr.snoc X101 N99 g_b1
    have pre102 : ∀ t, Steps p.tables e below (T101.setTop (mkF m 350 #[.val (.long q1), .second, .val (.long q2), .second, .val (.int p1), .val (.ref b1), .unset, .unset] [])) t → Steps p.tables e below (s₁.setTop (entryFrame m #[(.long q1), (.long q2), (.int p1)] maxLocals)) t := by
      intro t k
      refine pret24 t ?_
      refine XS.aload Xt24.here hx rfl (hb hby at_335) rfl (rfl) ?_
      refine XS.bipush Xt24.here hx rfl (hb hby at_337) ?_
      show Steps p.tables e below (Tt24.setTop (mkF m 339 #[.val (.long q1), .second, .val (.long q2), .second, .val (.int p1), .val (.ref b1), .unset, .unset] [(.int (25 : Int32)), (.ref b1)])) _
      refine XS.lloadN Xt24.here hx rfl (hb hby at_339) rfl ?_
      refine XS.bipush Xt24.here hx rfl (hb hby at_340) ?_
      refine XS.iload Xt24.here hx rfl (hb hby at_342) rfl ?_
      refine XS.bipush Xt24.here hx rfl (hb hby at_344) ?_
      refine st99 _ ?_
      refine st101 _ ?_
      show Steps p.tables e below (T101.setTop (mkF m 350 #[.val (.long q1), .second, .val (.long q2), .second, .val (.int p1), .val (.ref b1), .unset, .unset] [])) _
      exact k
    exact ⟨T101, _, h101, c25, X101, e101, N101, (Nat.le_trans Zt24 (Keep.of_wr W101).1), hc25, V101, (Ot24.wr W101 g_b1), pre102⟩
  obtain ⟨Tt26, ot26, ht26, c26, Xt26, et26, Nt26, Zt26, hc26, Vt26, Ot26, pret26⟩ : ∃ (Tt : State) (ot : List Loc) (ht : Heap) (ct : Int32), (Stand p l e room_1 s m #[(.long q1), (.long q2), (.int p1)] below meth c Tt ot 1 36) ∧ (Tt.heap = ht) ∧ (Fr n0 ot) ∧ (n0 ≤ ht.size) ∧ (ct = nar .char (own_hx q2 (36 : Int32) p1 (22 : Int32))) ∧ (Arv Z ht b1 k1 .char (36 : Int32) [(.int c0), (.int c1), (.int c2), (.int c3), (.int c4), (.int c5), (.int c6), (.int c7), (.int c8), (.int c9), (.int c10), (.int c11), (.int c12), (.int c13), (.int c14), (.int c15), (.int c16), (.int c17), (.int c18), (.int c19), (.int c20), (.int c21), (.int c22), (.int c23), (.int c24), (.int c25), (.int ct), (.int (0 : Int32)), (.int (0 : Int32)), (.int (0 : Int32)), (.int (0 : Int32)), (.int (0 : Int32)), (.int (0 : Int32)), (.int (0 : Int32)), (.int (0 : Int32)), (.int (0 : Int32))] (.int (0 : Int32))) ∧ (Old Z n0 ht) ∧ (∀ t, Steps p.tables e below (Tt.setTop (mkF m 365 #[.val (.long q1), .second, .val (.long q2), .second, .val (.int p1), .val (.ref b1), .unset, .unset] [])) t → Steps p.tables e below (s₁.setTop (entryFrame m #[(.long q1), (.long q2), (.int p1)] maxLocals)) t) := by
    obtain ⟨_, _, ⟨T103, L103, k103, n103⟩, -, X103, ⟨Lc103, hQ103, l103, y103, z103⟩, st103⟩ := Jvm.LawKit.callS Xt25 hx (y := (⟨"com/example/nonce/nonce/id/UuidTextParsePinLaw", "hex", "(JIII)C"⟩ : MethodName)) hown (mvT hZ (hw _ (List.mem_of_getElem? (i := 1) rfl))) (mvT hZ (hw _ (List.mem_of_getElem? (i := 2) rfl))) (mvT hZ (hw _ (List.mem_of_getElem? (i := 3) rfl))) (mvT hZ (hw _ (List.mem_of_getElem? (i := 4) rfl))) (by decide) (backOf (W := 2) (rmX l Z a0 hw [] q2 (36 : Int32) p1 (22 : Int32)  ht25 n0 Zt25 ) hZ (hw _ (List.mem_of_getElem? (i := 4) rfl)) (hw _ (List.mem_of_getElem? (i := 3) rfl)) (by decide) (by decide)) (g := (mkF m 361 #[.val (.long q1), .second, .val (.long q2), .second, .val (.int p1), .val (.ref b1), .unset, .unset] [(.int (22 : Int32)), (.int p1), (.int (36 : Int32)), (.long q2), (.int (26 : Int32)), (.ref b1)])) rfl (by rw [hml]; rfl) (argsL := [(.long q2), (.int (36 : Int32)), (.int p1), (.int (22 : Int32))]) (rest := [(.int (26 : Int32)), (.ref b1)]) (lenOf pd_7 rfl) rfl (by show 2 * 0 + _ ≤ _; exact Nat.le_of_eq rfl) (hb hby at_361) (fun _ _ => ⟨rfl, et25, (by decide : 1 + 0 ≤ _), (by decide : 36 + 0 ≤ _)⟩)
    dsimp only [Pt.U, Pt.locs, Pt.cells, Pt.slots] at X103 l103 y103 z103 st103 hQ103
    subst l103 y103 z103
    obtain ⟨rfl, N103q, hq103⟩ := hQ103
    have N103 := Fr.app Nt25 N103q
    obtain ⟨cl104, Ar104, q104, S104, M104, H104, G104⟩ := id Vt25
    have hin104 : ¬ ((26 : Int32) < 0 ∨ cl104.slots.size ≤ ((26 : Int32)).toNatClampNeg) := inb_of S104 ⟨by decide, by decide⟩
    obtain ⟨T105, h105, X105, e105, W105, st105⟩ := stC X103 hx hZ hq103 Ar104 (j := (26 : Int32)) hin104 (g := (mkF m 364 #[.val (.long q1), .second, .val (.long q2), .second, .val (.int p1), .val (.ref b1), .unset, .unset] [(.int (own_hx q2 (36 : Int32) p1 (22 : Int32))), (.int (26 : Int32)), (.ref b1)])) rfl rfl (hb hby at_364)
    obtain ⟨c26, hc26⟩ : ∃ z : Int32, z = nar .char (own_hx q2 (36 : Int32) p1 (22 : Int32)) := ⟨_, rfl⟩
    rw [← hc26] at W105
    have V105 : Arv Z h105 b1 k1 .char (36 : Int32) [(.int c0), (.int c1), (.int c2), (.int c3), (.int c4), (.int c5), (.int c6), (.int c7), (.int c8), (.int c9), (.int c10), (.int c11), (.int c12), (.int c13), (.int c14), (.int c15), (.int c16), (.int c17), (.int c18), (.int c19), (.int c20), (.int c21), (.int c22), (.int c23), (.int c24), (.int c25), (.int c26), (.int (0 : Int32)), (.int (0 : Int32)), (.int (0 : Int32)), (.int (0 : Int32)), (.int (0 : Int32)), (.int (0 : Int32)), (.int (0 : Int32)), (.int (0 : Int32)), (.int (0 : Int32))] (.int (0 : Int32)) := Arv.set Ar104 q104 S104 M104 H104 G104 (by rw [hc26]; exact fits_nar_char _) W105 26 rfl (Nat.le_of_ble_eq_true rfl)
    have N105 := Fr.snoc X105 N103 g_b1
    have pre106 : ∀ t, Steps p.tables e below (T105.setTop (mkF m 365 #[.val (.long q1), .second, .val (.long q2), .second, .val (.int p1), .val (.ref b1), .unset, .unset] [])) t → Steps p.tables e below (s₁.setTop (entryFrame m #[(.long q1), (.long q2), (.int p1)] maxLocals)) t := by
      intro t k
      refine pret25 t ?_
      refine XS.aload Xt25.here hx rfl (hb hby at_350) rfl (rfl) ?_
      refine XS.bipush Xt25.here hx rfl (hb hby at_352) ?_
      refine XS.lloadN Xt25.here hx rfl (hb hby at_354) rfl ?_
      refine XS.bipush Xt25.here hx rfl (hb hby at_355) ?_
      refine XS.iload Xt25.here hx rfl (hb hby at_357) rfl ?_
      show Steps p.tables e below (Tt25.setTop (mkF m 359 #[.val (.long q1), .second, .val (.long q2), .second, .val (.int p1), .val (.ref b1), .unset, .unset] [(.int p1), (.int (36 : Int32)), (.long q2), (.int (26 : Int32)), (.ref b1)])) _
      refine XS.bipush Xt25.here hx rfl (hb hby at_359) ?_
      refine st103 _ ?_
      refine st105 _ ?_
      exact k
    exact ⟨T105, _, h105, c26, X105, e105, N105, (Nat.le_trans Zt25 (Keep.of_wr W105).1), hc26, V105, (Ot25.wr W105 g_b1), pre106⟩
  obtain ⟨Tt27, ot27, ht27, c27, Xt27, et27, Nt27, Zt27, hc27, Vt27, Ot27, pret27⟩ : ∃ (Tt : State) (ot : List Loc) (ht : Heap) (ct : Int32), (Stand p l e room_1 s m #[(.long q1), (.long q2), (.int p1)] below meth c Tt ot 1 36) ∧ (Tt.heap = ht) ∧ (Fr n0 ot) ∧ (n0 ≤ ht.size) ∧ (ct = nar .char (own_hx q2 (32 : Int32) p1 (23 : Int32))) ∧ (Arv Z ht b1 k1 .char (36 : Int32) [(.int c0), (.int c1), (.int c2), (.int c3), (.int c4), (.int c5), (.int c6), (.int c7), (.int c8), (.int c9), (.int c10), (.int c11), (.int c12), (.int c13), (.int c14), (.int c15), (.int c16), (.int c17), (.int c18), (.int c19), (.int c20), (.int c21), (.int c22), (.int c23), (.int c24), (.int c25), (.int c26), (.int ct), (.int (0 : Int32)), (.int (0 : Int32)), (.int (0 : Int32)), (.int (0 : Int32)), (.int (0 : Int32)), (.int (0 : Int32)), (.int (0 : Int32)), (.int (0 : Int32))] (.int (0 : Int32))) ∧ (Old Z n0 ht) ∧ (∀ t, Steps p.tables e below (Tt.setTop (mkF m 380 #[.val (.long q1), .second, .val (.long q2), .second, .val (.int p1), .val (.ref b1), .unset, .unset] [])) t → Steps p.tables e below (s₁.setTop (entryFrame m #[(.long q1), (.long q2), (.int p1)] maxLocals)) t) := by
    obtain ⟨_, _, ⟨T107, L107, k107, n107⟩, -, X107, ⟨Lc107, hQ107, l107, y107, z107⟩, st107⟩ := Jvm.LawKit.callS Xt26 hx (y := (⟨"com/example/nonce/nonce/id/UuidTextParsePinLaw", "hex", "(JIII)C"⟩ : MethodName)) hown (mvT hZ (hw _ (List.mem_of_getElem? (i := 1) rfl))) (mvT hZ (hw _ (List.mem_of_getElem? (i := 2) rfl))) (mvT hZ (hw _ (List.mem_of_getElem? (i := 3) rfl))) (mvT hZ (hw _ (List.mem_of_getElem? (i := 4) rfl))) (by decide) (backOf (W := 2) (rmX l Z a0 hw [] q2 (32 : Int32) p1 (23 : Int32)  ht26 n0 Zt26 ) hZ (hw _ (List.mem_of_getElem? (i := 4) rfl)) (hw _ (List.mem_of_getElem? (i := 3) rfl)) (by decide) (by decide)) (g := (mkF m 376 #[.val (.long q1), .second, .val (.long q2), .second, .val (.int p1), .val (.ref b1), .unset, .unset] [(.int (23 : Int32)), (.int p1), (.int (32 : Int32)), (.long q2), (.int (27 : Int32)), (.ref b1)])) rfl (by rw [hml]; rfl) (argsL := [(.long q2), (.int (32 : Int32)), (.int p1), (.int (23 : Int32))]) (rest := [(.int (27 : Int32)), (.ref b1)]) (lenOf pd_7 rfl) rfl (by show 2 * 0 + _ ≤ _; exact Nat.le_of_eq rfl) (hb hby at_376) (fun _ _ => ⟨rfl, et26, (by decide : 1 + 0 ≤ _), (by decide : 36 + 0 ≤ _)⟩)
    dsimp only [Pt.U, Pt.locs, Pt.cells, Pt.slots] at X107 l107 y107 z107 st107 hQ107
    subst l107 y107 z107
    obtain ⟨rfl, N107q, hq107⟩ := hQ107
    have N107 := Fr.app Nt26 N107q
    obtain ⟨cl108, Ar108, q108, S108, M108, H108, G108⟩ := id Vt26
    have hin108 : ¬ ((27 : Int32) < 0 ∨ cl108.slots.size ≤ ((27 : Int32)).toNatClampNeg) := inb_of S108 ⟨by decide, by decide⟩
    obtain ⟨T109, h109, X109, e109, W109, st109⟩ := stC X107 hx hZ hq107 Ar108 (j := (27 : Int32)) hin108 (g := (mkF m 379 #[.val (.long q1), .second, .val (.long q2), .second, .val (.int p1), .val (.ref b1), .unset, .unset] [(.int (own_hx q2 (32 : Int32) p1 (23 : Int32))), (.int (27 : Int32)), (.ref b1)])) rfl rfl (hb hby at_379)
    obtain ⟨c27, hc27⟩ : ∃ z : Int32, z = nar .char (own_hx q2 (32 : Int32) p1 (23 : Int32)) := ⟨_, rfl⟩
    rw [← hc27] at W109
    have V109 : Arv Z h109 b1 k1 .char (36 : Int32) [(.int c0), (.int c1), (.int c2), (.int c3), (.int c4), (.int c5), (.int c6), (.int c7), (.int c8), (.int c9), (.int c10), (.int c11), (.int c12), (.int c13), (.int c14), (.int c15), (.int c16), (.int c17), (.int c18), (.int c19), (.int c20), (.int c21), (.int c22), (.int c23), (.int c24), (.int c25), (.int c26), (.int c27), (.int (0 : Int32)), (.int (0 : Int32)), (.int (0 : Int32)), (.int (0 : Int32)), (.int (0 : Int32)), (.int (0 : Int32)), (.int (0 : Int32)), (.int (0 : Int32))] (.int (0 : Int32)) := Arv.set Ar108 q108 S108 M108 H108 G108 (by rw [hc27]; exact fits_nar_char _) W109 27 rfl (Nat.le_of_ble_eq_true rfl)
    have N109 := Fr.snoc X109 N107 g_b1
    have pre110 : ∀ t, Steps p.tables e below (T109.setTop (mkF m 380 #[.val (.long q1), .second, .val (.long q2), .second, .val (.int p1), .val (.ref b1), .unset, .unset] [])) t → Steps p.tables e below (s₁.setTop (entryFrame m #[(.long q1), (.long q2), (.int p1)] maxLocals)) t := by
      intro t k
      refine pret26 t ?_
      refine XS.aload Xt26.here hx rfl (hb hby at_365) rfl (rfl) ?_
      refine XS.bipush Xt26.here hx rfl (hb hby at_367) ?_
      show Steps p.tables e below (Tt26.setTop (mkF m 369 #[.val (.long q1), .second, .val (.long q2), .second, .val (.int p1), .val (.ref b1), .unset, .unset] [(.int (27 : Int32)), (.ref b1)])) _
      refine XS.lloadN Xt26.here hx rfl (hb hby at_369) rfl ?_
      refine XS.bipush Xt26.here hx rfl (hb hby at_370) ?_
      refine XS.iload Xt26.here hx rfl (hb hby at_372) rfl ?_
      refine XS.bipush Xt26.here hx rfl (hb hby at_374) ?_
      refine st107 _ ?_
      refine st109 _ ?_
      show Steps p.tables e below (T109.setTop (mkF m 380 #[.val (.long q1), .second, .val (.long q2), .second, .val (.int p1), .val (.ref b1), .unset, .unset] [])) _
      exact k
    exact ⟨T109, _, h109, c27, X109, e109, N109, (Nat.le_trans Zt26 (Keep.of_wr W109).1), hc27, V109, (Ot26.wr W109 g_b1), pre110⟩
  obtain ⟨Tt28, ot28, ht28, c28, Xt28, et28, Nt28, Zt28, hc28, Vt28, Ot28, pret28⟩ : ∃ (Tt : State) (ot : List Loc) (ht : Heap) (ct : Int32), (Stand p l e room_1 s m #[(.long q1), (.long q2), (.int p1)] below meth c Tt ot 1 36) ∧ (Tt.heap = ht) ∧ (Fr n0 ot) ∧ (n0 ≤ ht.size) ∧ (ct = nar .char (own_hx q2 (28 : Int32) p1 (24 : Int32))) ∧ (Arv Z ht b1 k1 .char (36 : Int32) [(.int c0), (.int c1), (.int c2), (.int c3), (.int c4), (.int c5), (.int c6), (.int c7), (.int c8), (.int c9), (.int c10), (.int c11), (.int c12), (.int c13), (.int c14), (.int c15), (.int c16), (.int c17), (.int c18), (.int c19), (.int c20), (.int c21), (.int c22), (.int c23), (.int c24), (.int c25), (.int c26), (.int c27), (.int ct), (.int (0 : Int32)), (.int (0 : Int32)), (.int (0 : Int32)), (.int (0 : Int32)), (.int (0 : Int32)), (.int (0 : Int32)), (.int (0 : Int32))] (.int (0 : Int32))) ∧ (Old Z n0 ht) ∧ (∀ t, Steps p.tables e below (Tt.setTop (mkF m 395 #[.val (.long q1), .second, .val (.long q2), .second, .val (.int p1), .val (.ref b1), .unset, .unset] [])) t → Steps p.tables e below (s₁.setTop (entryFrame m #[(.long q1), (.long q2), (.int p1)] maxLocals)) t) := by
    obtain ⟨_, _, ⟨T111, L111, k111, n111⟩, -, X111, ⟨Lc111, hQ111, l111, y111, z111⟩, st111⟩ := Jvm.LawKit.callS Xt27 hx (y := (⟨"com/example/nonce/nonce/id/UuidTextParsePinLaw", "hex", "(JIII)C"⟩ : MethodName)) hown (mvT hZ (hw _ (List.mem_of_getElem? (i := 1) rfl))) (mvT hZ (hw _ (List.mem_of_getElem? (i := 2) rfl))) (mvT hZ (hw _ (List.mem_of_getElem? (i := 3) rfl))) (mvT hZ (hw _ (List.mem_of_getElem? (i := 4) rfl))) (by decide) (backOf (W := 2) (rmX l Z a0 hw [] q2 (28 : Int32) p1 (24 : Int32)  ht27 n0 Zt27 ) hZ (hw _ (List.mem_of_getElem? (i := 4) rfl)) (hw _ (List.mem_of_getElem? (i := 3) rfl)) (by decide) (by decide)) (g := (mkF m 391 #[.val (.long q1), .second, .val (.long q2), .second, .val (.int p1), .val (.ref b1), .unset, .unset] [(.int (24 : Int32)), (.int p1), (.int (28 : Int32)), (.long q2), (.int (28 : Int32)), (.ref b1)])) rfl (by rw [hml]; rfl) (argsL := [(.long q2), (.int (28 : Int32)), (.int p1), (.int (24 : Int32))]) (rest := [(.int (28 : Int32)), (.ref b1)]) (lenOf pd_7 rfl) rfl (by show 2 * 0 + _ ≤ _; exact Nat.le_of_eq rfl) (hb hby at_391) (fun _ _ => ⟨rfl, et27, (by decide : 1 + 0 ≤ _), (by decide : 36 + 0 ≤ _)⟩)
    dsimp only [Pt.U, Pt.locs, Pt.cells, Pt.slots] at X111 l111 y111 z111 st111 hQ111
    subst l111 y111 z111
    obtain ⟨rfl, N111q, hq111⟩ := hQ111
    have N111 := Fr.app Nt27 N111q
    obtain ⟨cl112, Ar112, q112, S112, M112, H112, G112⟩ := id Vt27
    have hin112 : ¬ ((28 : Int32) < 0 ∨ cl112.slots.size ≤ ((28 : Int32)).toNatClampNeg) := inb_of S112 ⟨by decide, by decide⟩
    obtain ⟨T113, h113, X113, e113, W113, st113⟩ := stC X111 hx hZ hq111 Ar112 (j := (28 : Int32)) hin112 (g := (mkF m 394 #[.val (.long q1), .second, .val (.long q2), .second, .val (.int p1), .val (.ref b1), .unset, .unset] [(.int (own_hx q2 (28 : Int32) p1 (24 : Int32))), (.int (28 : Int32)), (.ref b1)])) rfl rfl (hb hby at_394)
    obtain ⟨c28, hc28⟩ : ∃ z : Int32, z = nar .char (own_hx q2 (28 : Int32) p1 (24 : Int32)) := ⟨_, rfl⟩
    rw [← hc28] at W113
    have V113 : Arv Z h113 b1 k1 .char (36 : Int32) [(.int c0), (.int c1), (.int c2), (.int c3), (.int c4), (.int c5), (.int c6), (.int c7), (.int c8), (.int c9), (.int c10), (.int c11), (.int c12), (.int c13), (.int c14), (.int c15), (.int c16), (.int c17), (.int c18), (.int c19), (.int c20), (.int c21), (.int c22), (.int c23), (.int c24), (.int c25), (.int c26), (.int c27), (.int c28), (.int (0 : Int32)), (.int (0 : Int32)), (.int (0 : Int32)), (.int (0 : Int32)), (.int (0 : Int32)), (.int (0 : Int32)), (.int (0 : Int32))] (.int (0 : Int32)) := Arv.set Ar112 q112 S112 M112 H112 G112 (by rw [hc28]; exact fits_nar_char _) W113 28 rfl (Nat.le_of_ble_eq_true rfl)
    have N113 := Fr.snoc X113 N111 g_b1
    have pre114 : ∀ t, Steps p.tables e below (T113.setTop (mkF m 395 #[.val (.long q1), .second, .val (.long q2), .second, .val (.int p1), .val (.ref b1), .unset, .unset] [])) t → Steps p.tables e below (s₁.setTop (entryFrame m #[(.long q1), (.long q2), (.int p1)] maxLocals)) t := by
      intro t k
      refine pret27 t ?_
      refine XS.aload Xt27.here hx rfl (hb hby at_380) rfl (rfl) ?_
      refine XS.bipush Xt27.here hx rfl (hb hby at_382) ?_
      refine XS.lloadN Xt27.here hx rfl (hb hby at_384) rfl ?_
      refine XS.bipush Xt27.here hx rfl (hb hby at_385) ?_
      refine XS.iload Xt27.here hx rfl (hb hby at_387) rfl ?_
      show Steps p.tables e below (Tt27.setTop (mkF m 389 #[.val (.long q1), .second, .val (.long q2), .second, .val (.int p1), .val (.ref b1), .unset, .unset] [(.int p1), (.int (28 : Int32)), (.long q2), (.int (28 : Int32)), (.ref b1)])) _
      refine XS.bipush Xt27.here hx rfl (hb hby at_389) ?_
      refine st111 _ ?_
      refine st113 _ ?_
      exact k
    exact ⟨T113, _, h113, c28, X113, e113, N113, (Nat.le_trans Zt27 (Keep.of_wr W113).1), hc28, V113, (Ot27.wr W113 g_b1), pre114⟩
  obtain ⟨Tt29, ot29, ht29, c29, Xt29, et29, Nt29, Zt29, hc29, Vt29, Ot29, pret29⟩ : ∃ (Tt : State) (ot : List Loc) (ht : Heap) (ct : Int32), (Stand p l e room_1 s m #[(.long q1), (.long q2), (.int p1)] below meth c Tt ot 1 36) ∧ (Tt.heap = ht) ∧ (Fr n0 ot) ∧ (n0 ≤ ht.size) ∧ (ct = nar .char (own_hx q2 (24 : Int32) p1 (25 : Int32))) ∧ (Arv Z ht b1 k1 .char (36 : Int32) [(.int c0), (.int c1), (.int c2), (.int c3), (.int c4), (.int c5), (.int c6), (.int c7), (.int c8), (.int c9), (.int c10), (.int c11), (.int c12), (.int c13), (.int c14), (.int c15), (.int c16), (.int c17), (.int c18), (.int c19), (.int c20), (.int c21), (.int c22), (.int c23), (.int c24), (.int c25), (.int c26), (.int c27), (.int c28), (.int ct), (.int (0 : Int32)), (.int (0 : Int32)), (.int (0 : Int32)), (.int (0 : Int32)), (.int (0 : Int32)), (.int (0 : Int32))] (.int (0 : Int32))) ∧ (Old Z n0 ht) ∧ (∀ t, Steps p.tables e below (Tt.setTop (mkF m 410 #[.val (.long q1), .second, .val (.long q2), .second, .val (.int p1), .val (.ref b1), .unset, .unset] [])) t → Steps p.tables e below (s₁.setTop (entryFrame m #[(.long q1), (.long q2), (.int p1)] maxLocals)) t) := by
    obtain ⟨_, _, ⟨T115, L115, k115, n115⟩, -, X115, ⟨Lc115, hQ115, l115, y115, z115⟩, st115⟩ := Jvm.LawKit.callS Xt28 hx (y := (⟨"com/example/nonce/nonce/id/UuidTextParsePinLaw", "hex", "(JIII)C"⟩ : MethodName)) hown (mvT hZ (hw _ (List.mem_of_getElem? (i := 1) rfl))) (mvT hZ (hw _ (List.mem_of_getElem? (i := 2) rfl))) (mvT hZ (hw _ (List.mem_of_getElem? (i := 3) rfl))) (mvT hZ (hw _ (List.mem_of_getElem? (i := 4) rfl))) (by decide) (backOf (W := 2) (rmX l Z a0 hw [] q2 (24 : Int32) p1 (25 : Int32)  ht28 n0 Zt28 ) hZ (hw _ (List.mem_of_getElem? (i := 4) rfl)) (hw _ (List.mem_of_getElem? (i := 3) rfl)) (by decide) (by decide)) (g := (mkF m 406 #[.val (.long q1), .second, .val (.long q2), .second, .val (.int p1), .val (.ref b1), .unset, .unset] [(.int (25 : Int32)), (.int p1), (.int (24 : Int32)), (.long q2), (.int (29 : Int32)), (.ref b1)])) rfl (by rw [hml]; rfl) (argsL := [(.long q2), (.int (24 : Int32)), (.int p1), (.int (25 : Int32))]) (rest := [(.int (29 : Int32)), (.ref b1)]) (lenOf pd_7 rfl) rfl (by show 2 * 0 + _ ≤ _; exact Nat.le_of_eq rfl) (hb hby at_406) (fun _ _ => ⟨rfl, et28, (by decide : 1 + 0 ≤ _), (by decide : 36 + 0 ≤ _)⟩)
    dsimp only [Pt.U, Pt.locs, Pt.cells, Pt.slots] at X115 l115 y115 z115 st115 hQ115
    subst l115 y115 z115
    obtain ⟨rfl, N115q, hq115⟩ := hQ115
    have N115 := Fr.app Nt28 N115q
    obtain ⟨cl116, Ar116, q116, S116, M116, H116, G116⟩ := id Vt28
    have hin116 : ¬ ((29 : Int32) < 0 ∨ cl116.slots.size ≤ ((29 : Int32)).toNatClampNeg) := inb_of S116 ⟨by decide, by decide⟩
    obtain ⟨T117, h117, X117, e117, W117, st117⟩ := stC X115 hx hZ hq115 Ar116 (j := (29 : Int32)) hin116 (g := (mkF m 409 #[.val (.long q1), .second, .val (.long q2), .second, .val (.int p1), .val (.ref b1), .unset, .unset] [(.int (own_hx q2 (24 : Int32) p1 (25 : Int32))), (.int (29 : Int32)), (.ref b1)])) rfl rfl (hb hby at_409)
    obtain ⟨c29, hc29⟩ : ∃ z : Int32, z = nar .char (own_hx q2 (24 : Int32) p1 (25 : Int32)) := ⟨_, rfl⟩
    rw [← hc29] at W117
    have V117 : Arv Z h117 b1 k1 .char (36 : Int32) [(.int c0), (.int c1), (.int c2), (.int c3), (.int c4), (.int c5), (.int c6), (.int c7), (.int c8), (.int c9), (.int c10), (.int c11), (.int c12), (.int c13), (.int c14), (.int c15), (.int c16), (.int c17), (.int c18), (.int c19), (.int c20), (.int c21), (.int c22), (.int c23), (.int c24), (.int c25), (.int c26), (.int c27), (.int c28), (.int c29), (.int (0 : Int32)), (.int (0 : Int32)), (.int (0 : Int32)), (.int (0 : Int32)), (.int (0 : Int32)), (.int (0 : Int32))] (.int (0 : Int32)) := Arv.set Ar116 q116 S116 M116 H116 G116 (by rw [hc29]; exact fits_nar_char _) W117 29 rfl (Nat.le_of_ble_eq_true rfl)
    have N117 := Fr.snoc X117 N115 g_b1
    have pre118 : ∀ t, Steps p.tables e below (T117.setTop (mkF m 410 #[.val (.long q1), .second, .val (.long q2), .second, .val (.int p1), .val (.ref b1), .unset, .unset] [])) t → Steps p.tables e below (s₁.setTop (entryFrame m #[(.long q1), (.long q2), (.int p1)] maxLocals)) t := by
      intro t k
      refine pret28 t ?_
      refine XS.aload Xt28.here hx rfl (hb hby at_395) rfl (rfl) ?_
      refine XS.bipush Xt28.here hx rfl (hb hby at_397) ?_
      show Steps p.tables e below (Tt28.setTop (mkF m 399 #[.val (.long q1), .second, .val (.long q2), .second, .val (.int p1), .val (.ref b1), .unset, .unset] [(.int (29 : Int32)), (.ref b1)])) _
      refine XS.lloadN Xt28.here hx rfl (hb hby at_399) rfl ?_
      refine XS.bipush Xt28.here hx rfl (hb hby at_400) ?_
      refine XS.iload Xt28.here hx rfl (hb hby at_402) rfl ?_
      refine XS.bipush Xt28.here hx rfl (hb hby at_404) ?_
      refine st115 _ ?_
      refine st117 _ ?_
      show Steps p.tables e below (T117.setTop (mkF m 410 #[.val (.long q1), .second, .val (.long q2), .second, .val (.int p1), .val (.ref b1), .unset, .unset] [])) _
      exact k
    exact ⟨T117, _, h117, c29, X117, e117, N117, (Nat.le_trans Zt28 (Keep.of_wr W117).1), hc29, V117, (Ot28.wr W117 g_b1), pre118⟩
  obtain ⟨Tt30, ot30, ht30, c30, Xt30, et30, Nt30, Zt30, hc30, Vt30, Ot30, pret30⟩ : ∃ (Tt : State) (ot : List Loc) (ht : Heap) (ct : Int32), (Stand p l e room_1 s m #[(.long q1), (.long q2), (.int p1)] below meth c Tt ot 1 36) ∧ (Tt.heap = ht) ∧ (Fr n0 ot) ∧ (n0 ≤ ht.size) ∧ (ct = nar .char (own_hx q2 (20 : Int32) p1 (26 : Int32))) ∧ (Arv Z ht b1 k1 .char (36 : Int32) [(.int c0), (.int c1), (.int c2), (.int c3), (.int c4), (.int c5), (.int c6), (.int c7), (.int c8), (.int c9), (.int c10), (.int c11), (.int c12), (.int c13), (.int c14), (.int c15), (.int c16), (.int c17), (.int c18), (.int c19), (.int c20), (.int c21), (.int c22), (.int c23), (.int c24), (.int c25), (.int c26), (.int c27), (.int c28), (.int c29), (.int ct), (.int (0 : Int32)), (.int (0 : Int32)), (.int (0 : Int32)), (.int (0 : Int32)), (.int (0 : Int32))] (.int (0 : Int32))) ∧ (Old Z n0 ht) ∧ (∀ t, Steps p.tables e below (Tt.setTop (mkF m 425 #[.val (.long q1), .second, .val (.long q2), .second, .val (.int p1), .val (.ref b1), .unset, .unset] [])) t → Steps p.tables e below (s₁.setTop (entryFrame m #[(.long q1), (.long q2), (.int p1)] maxLocals)) t) := by
    obtain ⟨_, _, ⟨T119, L119, k119, n119⟩, -, X119, ⟨Lc119, hQ119, l119, y119, z119⟩, st119⟩ := Jvm.LawKit.callS Xt29 hx (y := (⟨"com/example/nonce/nonce/id/UuidTextParsePinLaw", "hex", "(JIII)C"⟩ : MethodName)) hown (mvT hZ (hw _ (List.mem_of_getElem? (i := 1) rfl))) (mvT hZ (hw _ (List.mem_of_getElem? (i := 2) rfl))) (mvT hZ (hw _ (List.mem_of_getElem? (i := 3) rfl))) (mvT hZ (hw _ (List.mem_of_getElem? (i := 4) rfl))) (by decide) (backOf (W := 2) (rmX l Z a0 hw [] q2 (20 : Int32) p1 (26 : Int32)  ht29 n0 Zt29 ) hZ (hw _ (List.mem_of_getElem? (i := 4) rfl)) (hw _ (List.mem_of_getElem? (i := 3) rfl)) (by decide) (by decide)) (g := (mkF m 421 #[.val (.long q1), .second, .val (.long q2), .second, .val (.int p1), .val (.ref b1), .unset, .unset] [(.int (26 : Int32)), (.int p1), (.int (20 : Int32)), (.long q2), (.int (30 : Int32)), (.ref b1)])) rfl (by rw [hml]; rfl) (argsL := [(.long q2), (.int (20 : Int32)), (.int p1), (.int (26 : Int32))]) (rest := [(.int (30 : Int32)), (.ref b1)]) (lenOf pd_7 rfl) rfl (by show 2 * 0 + _ ≤ _; exact Nat.le_of_eq rfl) (hb hby at_421) (fun _ _ => ⟨rfl, et29, (by decide : 1 + 0 ≤ _), (by decide : 36 + 0 ≤ _)⟩)
    dsimp only [Pt.U, Pt.locs, Pt.cells, Pt.slots] at X119 l119 y119 z119 st119 hQ119
    subst l119 y119 z119
    obtain ⟨rfl, N119q, hq119⟩ := hQ119
    have N119 := Fr.app Nt29 N119q
    obtain ⟨cl120, Ar120, q120, S120, M120, H120, G120⟩ := id Vt29
    have hin120 : ¬ ((30 : Int32) < 0 ∨ cl120.slots.size ≤ ((30 : Int32)).toNatClampNeg) := inb_of S120 ⟨by decide, by decide⟩
    obtain ⟨T121, h121, X121, e121, W121, st121⟩ := stC X119 hx hZ hq119 Ar120 (j := (30 : Int32)) hin120 (g := (mkF m 424 #[.val (.long q1), .second, .val (.long q2), .second, .val (.int p1), .val (.ref b1), .unset, .unset] [(.int (own_hx q2 (20 : Int32) p1 (26 : Int32))), (.int (30 : Int32)), (.ref b1)])) rfl rfl (hb hby at_424)
    obtain ⟨c30, hc30⟩ : ∃ z : Int32, z = nar .char (own_hx q2 (20 : Int32) p1 (26 : Int32)) := ⟨_, rfl⟩
    rw [← hc30] at W121
    have V121 : Arv Z h121 b1 k1 .char (36 : Int32) [(.int c0), (.int c1), (.int c2), (.int c3), (.int c4), (.int c5), (.int c6), (.int c7), (.int c8), (.int c9), (.int c10), (.int c11), (.int c12), (.int c13), (.int c14), (.int c15), (.int c16), (.int c17), (.int c18), (.int c19), (.int c20), (.int c21), (.int c22), (.int c23), (.int c24), (.int c25), (.int c26), (.int c27), (.int c28), (.int c29), (.int c30), (.int (0 : Int32)), (.int (0 : Int32)), (.int (0 : Int32)), (.int (0 : Int32)), (.int (0 : Int32))] (.int (0 : Int32)) := Arv.set Ar120 q120 S120 M120 H120 G120 (by rw [hc30]; exact fits_nar_char _) W121 30 rfl (Nat.le_of_ble_eq_true rfl)
    have N121 := Fr.snoc X121 N119 g_b1
    have pre122 : ∀ t, Steps p.tables e below (T121.setTop (mkF m 425 #[.val (.long q1), .second, .val (.long q2), .second, .val (.int p1), .val (.ref b1), .unset, .unset] [])) t → Steps p.tables e below (s₁.setTop (entryFrame m #[(.long q1), (.long q2), (.int p1)] maxLocals)) t := by
      intro t k
      refine pret29 t ?_
      refine XS.aload Xt29.here hx rfl (hb hby at_410) rfl (rfl) ?_
      refine XS.bipush Xt29.here hx rfl (hb hby at_412) ?_
      refine XS.lloadN Xt29.here hx rfl (hb hby at_414) rfl ?_
      refine XS.bipush Xt29.here hx rfl (hb hby at_415) ?_
      refine XS.iload Xt29.here hx rfl (hb hby at_417) rfl ?_
      show Steps p.tables e below (Tt29.setTop (mkF m 419 #[.val (.long q1), .second, .val (.long q2), .second, .val (.int p1), .val (.ref b1), .unset, .unset] [(.int p1), (.int (20 : Int32)), (.long q2), (.int (30 : Int32)), (.ref b1)])) _
      refine XS.bipush Xt29.here hx rfl (hb hby at_419) ?_
      refine st119 _ ?_
      refine st121 _ ?_
      exact k
    exact ⟨T121, _, h121, c30, X121, e121, N121, (Nat.le_trans Zt29 (Keep.of_wr W121).1), hc30, V121, (Ot29.wr W121 g_b1), pre122⟩
  obtain ⟨Tt31, ot31, ht31, c31, Xt31, et31, Nt31, Zt31, hc31, Vt31, Ot31, pret31⟩ : ∃ (Tt : State) (ot : List Loc) (ht : Heap) (ct : Int32), (Stand p l e room_1 s m #[(.long q1), (.long q2), (.int p1)] below meth c Tt ot 1 36) ∧ (Tt.heap = ht) ∧ (Fr n0 ot) ∧ (n0 ≤ ht.size) ∧ (ct = nar .char (own_hx q2 (16 : Int32) p1 (27 : Int32))) ∧ (Arv Z ht b1 k1 .char (36 : Int32) [(.int c0), (.int c1), (.int c2), (.int c3), (.int c4), (.int c5), (.int c6), (.int c7), (.int c8), (.int c9), (.int c10), (.int c11), (.int c12), (.int c13), (.int c14), (.int c15), (.int c16), (.int c17), (.int c18), (.int c19), (.int c20), (.int c21), (.int c22), (.int c23), (.int c24), (.int c25), (.int c26), (.int c27), (.int c28), (.int c29), (.int c30), (.int ct), (.int (0 : Int32)), (.int (0 : Int32)), (.int (0 : Int32)), (.int (0 : Int32))] (.int (0 : Int32))) ∧ (Old Z n0 ht) ∧ (∀ t, Steps p.tables e below (Tt.setTop (mkF m 440 #[.val (.long q1), .second, .val (.long q2), .second, .val (.int p1), .val (.ref b1), .unset, .unset] [])) t → Steps p.tables e below (s₁.setTop (entryFrame m #[(.long q1), (.long q2), (.int p1)] maxLocals)) t) := by
    obtain ⟨_, _, ⟨T123, L123, k123, n123⟩, -, X123, ⟨Lc123, hQ123, l123, y123, z123⟩, st123⟩ := Jvm.LawKit.callS Xt30 hx (y := (⟨"com/example/nonce/nonce/id/UuidTextParsePinLaw", "hex", "(JIII)C"⟩ : MethodName)) hown (mvT hZ (hw _ (List.mem_of_getElem? (i := 1) rfl))) (mvT hZ (hw _ (List.mem_of_getElem? (i := 2) rfl))) (mvT hZ (hw _ (List.mem_of_getElem? (i := 3) rfl))) (mvT hZ (hw _ (List.mem_of_getElem? (i := 4) rfl))) (by decide) (backOf (W := 2) (rmX l Z a0 hw [] q2 (16 : Int32) p1 (27 : Int32)  ht30 n0 Zt30 ) hZ (hw _ (List.mem_of_getElem? (i := 4) rfl)) (hw _ (List.mem_of_getElem? (i := 3) rfl)) (by decide) (by decide)) (g := (mkF m 436 #[.val (.long q1), .second, .val (.long q2), .second, .val (.int p1), .val (.ref b1), .unset, .unset] [(.int (27 : Int32)), (.int p1), (.int (16 : Int32)), (.long q2), (.int (31 : Int32)), (.ref b1)])) rfl (by rw [hml]; rfl) (argsL := [(.long q2), (.int (16 : Int32)), (.int p1), (.int (27 : Int32))]) (rest := [(.int (31 : Int32)), (.ref b1)]) (lenOf pd_7 rfl) rfl (by show 2 * 0 + _ ≤ _; exact Nat.le_of_eq rfl) (hb hby at_436) (fun _ _ => ⟨rfl, et30, (by decide : 1 + 0 ≤ _), (by decide : 36 + 0 ≤ _)⟩)
    dsimp only [Pt.U, Pt.locs, Pt.cells, Pt.slots] at X123 l123 y123 z123 st123 hQ123
    subst l123 y123 z123
    obtain ⟨rfl, N123q, hq123⟩ := hQ123
    have N123 := Fr.app Nt30 N123q
    obtain ⟨cl124, Ar124, q124, S124, M124, H124, G124⟩ := id Vt30
    have hin124 : ¬ ((31 : Int32) < 0 ∨ cl124.slots.size ≤ ((31 : Int32)).toNatClampNeg) := inb_of S124 ⟨by decide, by decide⟩
    obtain ⟨T125, h125, X125, e125, W125, st125⟩ := stC X123 hx hZ hq123 Ar124 (j := (31 : Int32)) hin124 (g := (mkF m 439 #[.val (.long q1), .second, .val (.long q2), .second, .val (.int p1), .val (.ref b1), .unset, .unset] [(.int (own_hx q2 (16 : Int32) p1 (27 : Int32))), (.int (31 : Int32)), (.ref b1)])) rfl rfl (hb hby at_439)
    obtain ⟨c31, hc31⟩ : ∃ z : Int32, z = nar .char (own_hx q2 (16 : Int32) p1 (27 : Int32)) := ⟨_, rfl⟩
    rw [← hc31] at W125
    have V125 : Arv Z h125 b1 k1 .char (36 : Int32) [(.int c0), (.int c1), (.int c2), (.int c3), (.int c4), (.int c5), (.int c6), (.int c7), (.int c8), (.int c9), (.int c10), (.int c11), (.int c12), (.int c13), (.int c14), (.int c15), (.int c16), (.int c17), (.int c18), (.int c19), (.int c20), (.int c21), (.int c22), (.int c23), (.int c24), (.int c25), (.int c26), (.int c27), (.int c28), (.int c29), (.int c30), (.int c31), (.int (0 : Int32)), (.int (0 : Int32)), (.int (0 : Int32)), (.int (0 : Int32))] (.int (0 : Int32)) := Arv.set Ar124 q124 S124 M124 H124 G124 (by rw [hc31]; exact fits_nar_char _) W125 31 rfl (Nat.le_of_ble_eq_true rfl)
    have N125 := Fr.snoc X125 N123 g_b1
    have pre126 : ∀ t, Steps p.tables e below (T125.setTop (mkF m 440 #[.val (.long q1), .second, .val (.long q2), .second, .val (.int p1), .val (.ref b1), .unset, .unset] [])) t → Steps p.tables e below (s₁.setTop (entryFrame m #[(.long q1), (.long q2), (.int p1)] maxLocals)) t := by
      intro t k
      refine pret30 t ?_
      refine XS.aload Xt30.here hx rfl (hb hby at_425) rfl (rfl) ?_
      refine XS.bipush Xt30.here hx rfl (hb hby at_427) ?_
      show Steps p.tables e below (Tt30.setTop (mkF m 429 #[.val (.long q1), .second, .val (.long q2), .second, .val (.int p1), .val (.ref b1), .unset, .unset] [(.int (31 : Int32)), (.ref b1)])) _
      refine XS.lloadN Xt30.here hx rfl (hb hby at_429) rfl ?_
      refine XS.bipush Xt30.here hx rfl (hb hby at_430) ?_
      refine XS.iload Xt30.here hx rfl (hb hby at_432) rfl ?_
      refine XS.bipush Xt30.here hx rfl (hb hby at_434) ?_
      refine st123 _ ?_
      refine st125 _ ?_
      show Steps p.tables e below (T125.setTop (mkF m 440 #[.val (.long q1), .second, .val (.long q2), .second, .val (.int p1), .val (.ref b1), .unset, .unset] [])) _
      exact k
    exact ⟨T125, _, h125, c31, X125, e125, N125, (Nat.le_trans Zt30 (Keep.of_wr W125).1), hc31, V125, (Ot30.wr W125 g_b1), pre126⟩
  obtain ⟨Tt32, ot32, ht32, c32, Xt32, et32, Nt32, Zt32, hc32, Vt32, Ot32, pret32⟩ : ∃ (Tt : State) (ot : List Loc) (ht : Heap) (ct : Int32), (Stand p l e room_1 s m #[(.long q1), (.long q2), (.int p1)] below meth c Tt ot 1 36) ∧ (Tt.heap = ht) ∧ (Fr n0 ot) ∧ (n0 ≤ ht.size) ∧ (ct = nar .char (own_hx q2 (12 : Int32) p1 (28 : Int32))) ∧ (Arv Z ht b1 k1 .char (36 : Int32) [(.int c0), (.int c1), (.int c2), (.int c3), (.int c4), (.int c5), (.int c6), (.int c7), (.int c8), (.int c9), (.int c10), (.int c11), (.int c12), (.int c13), (.int c14), (.int c15), (.int c16), (.int c17), (.int c18), (.int c19), (.int c20), (.int c21), (.int c22), (.int c23), (.int c24), (.int c25), (.int c26), (.int c27), (.int c28), (.int c29), (.int c30), (.int c31), (.int ct), (.int (0 : Int32)), (.int (0 : Int32)), (.int (0 : Int32))] (.int (0 : Int32))) ∧ (Old Z n0 ht) ∧ (∀ t, Steps p.tables e below (Tt.setTop (mkF m 455 #[.val (.long q1), .second, .val (.long q2), .second, .val (.int p1), .val (.ref b1), .unset, .unset] [])) t → Steps p.tables e below (s₁.setTop (entryFrame m #[(.long q1), (.long q2), (.int p1)] maxLocals)) t) := by
    obtain ⟨_, _, ⟨T127, L127, k127, n127⟩, -, X127, ⟨Lc127, hQ127, l127, y127, z127⟩, st127⟩ := Jvm.LawKit.callS Xt31 hx (y := (⟨"com/example/nonce/nonce/id/UuidTextParsePinLaw", "hex", "(JIII)C"⟩ : MethodName)) hown (mvT hZ (hw _ (List.mem_of_getElem? (i := 1) rfl))) (mvT hZ (hw _ (List.mem_of_getElem? (i := 2) rfl))) (mvT hZ (hw _ (List.mem_of_getElem? (i := 3) rfl))) (mvT hZ (hw _ (List.mem_of_getElem? (i := 4) rfl))) (by decide) (backOf (W := 2) (rmX l Z a0 hw [] q2 (12 : Int32) p1 (28 : Int32)  ht31 n0 Zt31 ) hZ (hw _ (List.mem_of_getElem? (i := 4) rfl)) (hw _ (List.mem_of_getElem? (i := 3) rfl)) (by decide) (by decide)) (g := (mkF m 451 #[.val (.long q1), .second, .val (.long q2), .second, .val (.int p1), .val (.ref b1), .unset, .unset] [(.int (28 : Int32)), (.int p1), (.int (12 : Int32)), (.long q2), (.int (32 : Int32)), (.ref b1)])) rfl (by rw [hml]; rfl) (argsL := [(.long q2), (.int (12 : Int32)), (.int p1), (.int (28 : Int32))]) (rest := [(.int (32 : Int32)), (.ref b1)]) (lenOf pd_7 rfl) rfl (by show 2 * 0 + _ ≤ _; exact Nat.le_of_eq rfl) (hb hby at_451) (fun _ _ => ⟨rfl, et31, (by decide : 1 + 0 ≤ _), (by decide : 36 + 0 ≤ _)⟩)
    dsimp only [Pt.U, Pt.locs, Pt.cells, Pt.slots] at X127 l127 y127 z127 st127 hQ127
    subst l127 y127 z127
    obtain ⟨rfl, N127q, hq127⟩ := hQ127
    have N127 := Fr.app Nt31 N127q
    obtain ⟨cl128, Ar128, q128, S128, M128, H128, G128⟩ := id Vt31
    have hin128 : ¬ ((32 : Int32) < 0 ∨ cl128.slots.size ≤ ((32 : Int32)).toNatClampNeg) := inb_of S128 ⟨by decide, by decide⟩
    obtain ⟨T129, h129, X129, e129, W129, st129⟩ := stC X127 hx hZ hq127 Ar128 (j := (32 : Int32)) hin128 (g := (mkF m 454 #[.val (.long q1), .second, .val (.long q2), .second, .val (.int p1), .val (.ref b1), .unset, .unset] [(.int (own_hx q2 (12 : Int32) p1 (28 : Int32))), (.int (32 : Int32)), (.ref b1)])) rfl rfl (hb hby at_454)
    obtain ⟨c32, hc32⟩ : ∃ z : Int32, z = nar .char (own_hx q2 (12 : Int32) p1 (28 : Int32)) := ⟨_, rfl⟩
    rw [← hc32] at W129
    have V129 : Arv Z h129 b1 k1 .char (36 : Int32) [(.int c0), (.int c1), (.int c2), (.int c3), (.int c4), (.int c5), (.int c6), (.int c7), (.int c8), (.int c9), (.int c10), (.int c11), (.int c12), (.int c13), (.int c14), (.int c15), (.int c16), (.int c17), (.int c18), (.int c19), (.int c20), (.int c21), (.int c22), (.int c23), (.int c24), (.int c25), (.int c26), (.int c27), (.int c28), (.int c29), (.int c30), (.int c31), (.int c32), (.int (0 : Int32)), (.int (0 : Int32)), (.int (0 : Int32))] (.int (0 : Int32)) := Arv.set Ar128 q128 S128 M128 H128 G128 (by rw [hc32]; exact fits_nar_char _) W129 32 rfl (Nat.le_of_ble_eq_true rfl)
    have N129 := Fr.snoc X129 N127 g_b1
    have pre130 : ∀ t, Steps p.tables e below (T129.setTop (mkF m 455 #[.val (.long q1), .second, .val (.long q2), .second, .val (.int p1), .val (.ref b1), .unset, .unset] [])) t → Steps p.tables e below (s₁.setTop (entryFrame m #[(.long q1), (.long q2), (.int p1)] maxLocals)) t := by
      intro t k
      refine pret31 t ?_
      refine XS.aload Xt31.here hx rfl (hb hby at_440) rfl (rfl) ?_
      refine XS.bipush Xt31.here hx rfl (hb hby at_442) ?_
      refine XS.lloadN Xt31.here hx rfl (hb hby at_444) rfl ?_
      refine XS.bipush Xt31.here hx rfl (hb hby at_445) ?_
      refine XS.iload Xt31.here hx rfl (hb hby at_447) rfl ?_
      show Steps p.tables e below (Tt31.setTop (mkF m 449 #[.val (.long q1), .second, .val (.long q2), .second, .val (.int p1), .val (.ref b1), .unset, .unset] [(.int p1), (.int (12 : Int32)), (.long q2), (.int (32 : Int32)), (.ref b1)])) _
      refine XS.bipush Xt31.here hx rfl (hb hby at_449) ?_
      refine st127 _ ?_
      refine st129 _ ?_
      exact k
    exact ⟨T129, _, h129, c32, X129, e129, N129, (Nat.le_trans Zt31 (Keep.of_wr W129).1), hc32, V129, (Ot31.wr W129 g_b1), pre130⟩
  obtain ⟨Tt33, ot33, ht33, c33, Xt33, et33, Nt33, Zt33, hc33, Vt33, Ot33, pret33⟩ : ∃ (Tt : State) (ot : List Loc) (ht : Heap) (ct : Int32), (Stand p l e room_1 s m #[(.long q1), (.long q2), (.int p1)] below meth c Tt ot 1 36) ∧ (Tt.heap = ht) ∧ (Fr n0 ot) ∧ (n0 ≤ ht.size) ∧ (ct = nar .char (own_hx q2 (8 : Int32) p1 (29 : Int32))) ∧ (Arv Z ht b1 k1 .char (36 : Int32) [(.int c0), (.int c1), (.int c2), (.int c3), (.int c4), (.int c5), (.int c6), (.int c7), (.int c8), (.int c9), (.int c10), (.int c11), (.int c12), (.int c13), (.int c14), (.int c15), (.int c16), (.int c17), (.int c18), (.int c19), (.int c20), (.int c21), (.int c22), (.int c23), (.int c24), (.int c25), (.int c26), (.int c27), (.int c28), (.int c29), (.int c30), (.int c31), (.int c32), (.int ct), (.int (0 : Int32)), (.int (0 : Int32))] (.int (0 : Int32))) ∧ (Old Z n0 ht) ∧ (∀ t, Steps p.tables e below (Tt.setTop (mkF m 470 #[.val (.long q1), .second, .val (.long q2), .second, .val (.int p1), .val (.ref b1), .unset, .unset] [])) t → Steps p.tables e below (s₁.setTop (entryFrame m #[(.long q1), (.long q2), (.int p1)] maxLocals)) t) := by
    obtain ⟨_, _, ⟨T131, L131, k131, n131⟩, -, X131, ⟨Lc131, hQ131, l131, y131, z131⟩, st131⟩ := Jvm.LawKit.callS Xt32 hx (y := (⟨"com/example/nonce/nonce/id/UuidTextParsePinLaw", "hex", "(JIII)C"⟩ : MethodName)) hown (mvT hZ (hw _ (List.mem_of_getElem? (i := 1) rfl))) (mvT hZ (hw _ (List.mem_of_getElem? (i := 2) rfl))) (mvT hZ (hw _ (List.mem_of_getElem? (i := 3) rfl))) (mvT hZ (hw _ (List.mem_of_getElem? (i := 4) rfl))) (by decide) (backOf (W := 2) (rmX l Z a0 hw [] q2 (8 : Int32) p1 (29 : Int32)  ht32 n0 Zt32 ) hZ (hw _ (List.mem_of_getElem? (i := 4) rfl)) (hw _ (List.mem_of_getElem? (i := 3) rfl)) (by decide) (by decide)) (g := (mkF m 466 #[.val (.long q1), .second, .val (.long q2), .second, .val (.int p1), .val (.ref b1), .unset, .unset] [(.int (29 : Int32)), (.int p1), (.int (8 : Int32)), (.long q2), (.int (33 : Int32)), (.ref b1)])) rfl (by rw [hml]; rfl) (argsL := [(.long q2), (.int (8 : Int32)), (.int p1), (.int (29 : Int32))]) (rest := [(.int (33 : Int32)), (.ref b1)]) (lenOf pd_7 rfl) rfl (by show 2 * 0 + _ ≤ _; exact Nat.le_of_eq rfl) (hb hby at_466) (fun _ _ => ⟨rfl, et32, (by decide : 1 + 0 ≤ _), (by decide : 36 + 0 ≤ _)⟩)
    dsimp only [Pt.U, Pt.locs, Pt.cells, Pt.slots] at X131 l131 y131 z131 st131 hQ131
    subst l131 y131 z131
    obtain ⟨rfl, N131q, hq131⟩ := hQ131
    have N131 := Fr.app Nt32 N131q
    obtain ⟨cl132, Ar132, q132, S132, M132, H132, G132⟩ := id Vt32
    have hin132 : ¬ ((33 : Int32) < 0 ∨ cl132.slots.size ≤ ((33 : Int32)).toNatClampNeg) := inb_of S132 ⟨by decide, by decide⟩
    obtain ⟨T133, h133, X133, e133, W133, st133⟩ := stC X131 hx hZ hq131 Ar132 (j := (33 : Int32)) hin132 (g := (mkF m 469 #[.val (.long q1), .second, .val (.long q2), .second, .val (.int p1), .val (.ref b1), .unset, .unset] [(.int (own_hx q2 (8 : Int32) p1 (29 : Int32))), (.int (33 : Int32)), (.ref b1)])) rfl rfl (hb hby at_469)
    obtain ⟨c33, hc33⟩ : ∃ z : Int32, z = nar .char (own_hx q2 (8 : Int32) p1 (29 : Int32)) := ⟨_, rfl⟩
    rw [← hc33] at W133
    have V133 : Arv Z h133 b1 k1 .char (36 : Int32) [(.int c0), (.int c1), (.int c2), (.int c3), (.int c4), (.int c5), (.int c6), (.int c7), (.int c8), (.int c9), (.int c10), (.int c11), (.int c12), (.int c13), (.int c14), (.int c15), (.int c16), (.int c17), (.int c18), (.int c19), (.int c20), (.int c21), (.int c22), (.int c23), (.int c24), (.int c25), (.int c26), (.int c27), (.int c28), (.int c29), (.int c30), (.int c31), (.int c32), (.int c33), (.int (0 : Int32)), (.int (0 : Int32))] (.int (0 : Int32)) := Arv.set Ar132 q132 S132 M132 H132 G132 (by rw [hc33]; exact fits_nar_char _) W133 33 rfl (Nat.le_of_ble_eq_true rfl)
    have N133 := Fr.snoc X133 N131 g_b1
    have pre134 : ∀ t, Steps p.tables e below (T133.setTop (mkF m 470 #[.val (.long q1), .second, .val (.long q2), .second, .val (.int p1), .val (.ref b1), .unset, .unset] [])) t → Steps p.tables e below (s₁.setTop (entryFrame m #[(.long q1), (.long q2), (.int p1)] maxLocals)) t := by
      intro t k
      refine pret32 t ?_
      refine XS.aload Xt32.here hx rfl (hb hby at_455) rfl (rfl) ?_
      refine XS.bipush Xt32.here hx rfl (hb hby at_457) ?_
      show Steps p.tables e below (Tt32.setTop (mkF m 459 #[.val (.long q1), .second, .val (.long q2), .second, .val (.int p1), .val (.ref b1), .unset, .unset] [(.int (33 : Int32)), (.ref b1)])) _
      refine XS.lloadN Xt32.here hx rfl (hb hby at_459) rfl ?_
      refine XS.bipush Xt32.here hx rfl (hb hby at_460) ?_
      refine XS.iload Xt32.here hx rfl (hb hby at_462) rfl ?_
      refine XS.bipush Xt32.here hx rfl (hb hby at_464) ?_
      refine st131 _ ?_
      refine st133 _ ?_
      show Steps p.tables e below (T133.setTop (mkF m 470 #[.val (.long q1), .second, .val (.long q2), .second, .val (.int p1), .val (.ref b1), .unset, .unset] [])) _
      exact k
    exact ⟨T133, _, h133, c33, X133, e133, N133, (Nat.le_trans Zt32 (Keep.of_wr W133).1), hc33, V133, (Ot32.wr W133 g_b1), pre134⟩
  obtain ⟨Tt34, ot34, ht34, c34, Xt34, et34, Nt34, Zt34, hc34, Vt34, Ot34, pret34⟩ : ∃ (Tt : State) (ot : List Loc) (ht : Heap) (ct : Int32), (Stand p l e room_1 s m #[(.long q1), (.long q2), (.int p1)] below meth c Tt ot 1 36) ∧ (Tt.heap = ht) ∧ (Fr n0 ot) ∧ (n0 ≤ ht.size) ∧ (ct = nar .char (own_hx q2 (4 : Int32) p1 (30 : Int32))) ∧ (Arv Z ht b1 k1 .char (36 : Int32) [(.int c0), (.int c1), (.int c2), (.int c3), (.int c4), (.int c5), (.int c6), (.int c7), (.int c8), (.int c9), (.int c10), (.int c11), (.int c12), (.int c13), (.int c14), (.int c15), (.int c16), (.int c17), (.int c18), (.int c19), (.int c20), (.int c21), (.int c22), (.int c23), (.int c24), (.int c25), (.int c26), (.int c27), (.int c28), (.int c29), (.int c30), (.int c31), (.int c32), (.int c33), (.int ct), (.int (0 : Int32))] (.int (0 : Int32))) ∧ (Old Z n0 ht) ∧ (∀ t, Steps p.tables e below (Tt.setTop (mkF m 484 #[.val (.long q1), .second, .val (.long q2), .second, .val (.int p1), .val (.ref b1), .unset, .unset] [])) t → Steps p.tables e below (s₁.setTop (entryFrame m #[(.long q1), (.long q2), (.int p1)] maxLocals)) t) := by
    obtain ⟨_, _, ⟨T135, L135, k135, n135⟩, -, X135, ⟨Lc135, hQ135, l135, y135, z135⟩, st135⟩ := Jvm.LawKit.callS Xt33 hx (y := (⟨"com/example/nonce/nonce/id/UuidTextParsePinLaw", "hex", "(JIII)C"⟩ : MethodName)) hown (mvT hZ (hw _ (List.mem_of_getElem? (i := 1) rfl))) (mvT hZ (hw _ (List.mem_of_getElem? (i := 2) rfl))) (mvT hZ (hw _ (List.mem_of_getElem? (i := 3) rfl))) (mvT hZ (hw _ (List.mem_of_getElem? (i := 4) rfl))) (by decide) (backOf (W := 2) (rmX l Z a0 hw [] q2 (4 : Int32) p1 (30 : Int32)  ht33 n0 Zt33 ) hZ (hw _ (List.mem_of_getElem? (i := 4) rfl)) (hw _ (List.mem_of_getElem? (i := 3) rfl)) (by decide) (by decide)) (g := (mkF m 480 #[.val (.long q1), .second, .val (.long q2), .second, .val (.int p1), .val (.ref b1), .unset, .unset] [(.int (30 : Int32)), (.int p1), (.int (4 : Int32)), (.long q2), (.int (34 : Int32)), (.ref b1)])) rfl (by rw [hml]; rfl) (argsL := [(.long q2), (.int (4 : Int32)), (.int p1), (.int (30 : Int32))]) (rest := [(.int (34 : Int32)), (.ref b1)]) (lenOf pd_7 rfl) rfl (by show 2 * 0 + _ ≤ _; exact Nat.le_of_eq rfl) (hb hby at_480) (fun _ _ => ⟨rfl, et33, (by decide : 1 + 0 ≤ _), (by decide : 36 + 0 ≤ _)⟩)
    dsimp only [Pt.U, Pt.locs, Pt.cells, Pt.slots] at X135 l135 y135 z135 st135 hQ135
    subst l135 y135 z135
    obtain ⟨rfl, N135q, hq135⟩ := hQ135
    have N135 := Fr.app Nt33 N135q
    obtain ⟨cl136, Ar136, q136, S136, M136, H136, G136⟩ := id Vt33
    have hin136 : ¬ ((34 : Int32) < 0 ∨ cl136.slots.size ≤ ((34 : Int32)).toNatClampNeg) := inb_of S136 ⟨by decide, by decide⟩
    obtain ⟨T137, h137, X137, e137, W137, st137⟩ := stC X135 hx hZ hq135 Ar136 (j := (34 : Int32)) hin136 (g := (mkF m 483 #[.val (.long q1), .second, .val (.long q2), .second, .val (.int p1), .val (.ref b1), .unset, .unset] [(.int (own_hx q2 (4 : Int32) p1 (30 : Int32))), (.int (34 : Int32)), (.ref b1)])) rfl rfl (hb hby at_483)
    obtain ⟨c34, hc34⟩ : ∃ z : Int32, z = nar .char (own_hx q2 (4 : Int32) p1 (30 : Int32)) := ⟨_, rfl⟩
    rw [← hc34] at W137
    have V137 : Arv Z h137 b1 k1 .char (36 : Int32) [(.int c0), (.int c1), (.int c2), (.int c3), (.int c4), (.int c5), (.int c6), (.int c7), (.int c8), (.int c9), (.int c10), (.int c11), (.int c12), (.int c13), (.int c14), (.int c15), (.int c16), (.int c17), (.int c18), (.int c19), (.int c20), (.int c21), (.int c22), (.int c23), (.int c24), (.int c25), (.int c26), (.int c27), (.int c28), (.int c29), (.int c30), (.int c31), (.int c32), (.int c33), (.int c34), (.int (0 : Int32))] (.int (0 : Int32)) := Arv.set Ar136 q136 S136 M136 H136 G136 (by rw [hc34]; exact fits_nar_char _) W137 34 rfl (Nat.le_of_ble_eq_true rfl)
    have N137 := Fr.snoc X137 N135 g_b1
    have pre138 : ∀ t, Steps p.tables e below (T137.setTop (mkF m 484 #[.val (.long q1), .second, .val (.long q2), .second, .val (.int p1), .val (.ref b1), .unset, .unset] [])) t → Steps p.tables e below (s₁.setTop (entryFrame m #[(.long q1), (.long q2), (.int p1)] maxLocals)) t := by
      intro t k
      refine pret33 t ?_
      refine XS.aload Xt33.here hx rfl (hb hby at_470) rfl (rfl) ?_
      refine XS.bipush Xt33.here hx rfl (hb hby at_472) ?_
      refine XS.lloadN Xt33.here hx rfl (hb hby at_474) rfl ?_
      refine XS.iconst Xt33.here hx rfl (hb hby at_475) ?_
      refine XS.iload Xt33.here hx rfl (hb hby at_476) rfl ?_
      show Steps p.tables e below (Tt33.setTop (mkF m 478 #[.val (.long q1), .second, .val (.long q2), .second, .val (.int p1), .val (.ref b1), .unset, .unset] [(.int p1), (.int (4 : Int32)), (.long q2), (.int (34 : Int32)), (.ref b1)])) _
      refine XS.bipush Xt33.here hx rfl (hb hby at_478) ?_
      refine st135 _ ?_
      refine st137 _ ?_
      exact k
    exact ⟨T137, _, h137, c34, X137, e137, N137, (Nat.le_trans Zt33 (Keep.of_wr W137).1), hc34, V137, (Ot33.wr W137 g_b1), pre138⟩
  obtain ⟨Tt35, ot35, ht35, c35, Xt35, et35, Nt35, Zt35, hc35, Vt35, Ot35, pret35⟩ : ∃ (Tt : State) (ot : List Loc) (ht : Heap) (ct : Int32), (Stand p l e room_1 s m #[(.long q1), (.long q2), (.int p1)] below meth c Tt ot 1 36) ∧ (Tt.heap = ht) ∧ (Fr n0 ot) ∧ (n0 ≤ ht.size) ∧ (ct = nar .char (own_hx q2 (0 : Int32) p1 (31 : Int32))) ∧ (Arv Z ht b1 k1 .char (36 : Int32) [(.int c0), (.int c1), (.int c2), (.int c3), (.int c4), (.int c5), (.int c6), (.int c7), (.int c8), (.int c9), (.int c10), (.int c11), (.int c12), (.int c13), (.int c14), (.int c15), (.int c16), (.int c17), (.int c18), (.int c19), (.int c20), (.int c21), (.int c22), (.int c23), (.int c24), (.int c25), (.int c26), (.int c27), (.int c28), (.int c29), (.int c30), (.int c31), (.int c32), (.int c33), (.int c34), (.int ct)] (.int (0 : Int32))) ∧ (Old Z n0 ht) ∧ (∀ t, Steps p.tables e below (Tt.setTop (mkF m 498 #[.val (.long q1), .second, .val (.long q2), .second, .val (.int p1), .val (.ref b1), .unset, .unset] [])) t → Steps p.tables e below (s₁.setTop (entryFrame m #[(.long q1), (.long q2), (.int p1)] maxLocals)) t) := by
    obtain ⟨_, _, ⟨T139, L139, k139, n139⟩, -, X139, ⟨Lc139, hQ139, l139, y139, z139⟩, st139⟩ := Jvm.LawKit.callS Xt34 hx (y := (⟨"com/example/nonce/nonce/id/UuidTextParsePinLaw", "hex", "(JIII)C"⟩ : MethodName)) hown (mvT hZ (hw _ (List.mem_of_getElem? (i := 1) rfl))) (mvT hZ (hw _ (List.mem_of_getElem? (i := 2) rfl))) (mvT hZ (hw _ (List.mem_of_getElem? (i := 3) rfl))) (mvT hZ (hw _ (List.mem_of_getElem? (i := 4) rfl))) (by decide) (backOf (W := 2) (rmX l Z a0 hw [] q2 (0 : Int32) p1 (31 : Int32)  ht34 n0 Zt34 ) hZ (hw _ (List.mem_of_getElem? (i := 4) rfl)) (hw _ (List.mem_of_getElem? (i := 3) rfl)) (by decide) (by decide)) (g := (mkF m 494 #[.val (.long q1), .second, .val (.long q2), .second, .val (.int p1), .val (.ref b1), .unset, .unset] [(.int (31 : Int32)), (.int p1), (.int (0 : Int32)), (.long q2), (.int (35 : Int32)), (.ref b1)])) rfl (by rw [hml]; rfl) (argsL := [(.long q2), (.int (0 : Int32)), (.int p1), (.int (31 : Int32))]) (rest := [(.int (35 : Int32)), (.ref b1)]) (lenOf pd_7 rfl) rfl (by show 2 * 0 + _ ≤ _; exact Nat.le_of_eq rfl) (hb hby at_494) (fun _ _ => ⟨rfl, et34, (by decide : 1 + 0 ≤ _), (by decide : 36 + 0 ≤ _)⟩)
    dsimp only [Pt.U, Pt.locs, Pt.cells, Pt.slots] at X139 l139 y139 z139 st139 hQ139
    subst l139 y139 z139
    obtain ⟨rfl, N139q, hq139⟩ := hQ139
    have N139 := Fr.app Nt34 N139q
    obtain ⟨cl140, Ar140, q140, S140, M140, H140, G140⟩ := id Vt34
    have hin140 : ¬ ((35 : Int32) < 0 ∨ cl140.slots.size ≤ ((35 : Int32)).toNatClampNeg) := inb_of S140 ⟨by decide, by decide⟩
    obtain ⟨T141, h141, X141, e141, W141, st141⟩ := stC X139 hx hZ hq139 Ar140 (j := (35 : Int32)) hin140 (g := (mkF m 497 #[.val (.long q1), .second, .val (.long q2), .second, .val (.int p1), .val (.ref b1), .unset, .unset] [(.int (own_hx q2 (0 : Int32) p1 (31 : Int32))), (.int (35 : Int32)), (.ref b1)])) rfl rfl (hb hby at_497)
    obtain ⟨c35, hc35⟩ : ∃ z : Int32, z = nar .char (own_hx q2 (0 : Int32) p1 (31 : Int32)) := ⟨_, rfl⟩
    rw [← hc35] at W141
    have V141 : Arv Z h141 b1 k1 .char (36 : Int32) [(.int c0), (.int c1), (.int c2), (.int c3), (.int c4), (.int c5), (.int c6), (.int c7), (.int c8), (.int c9), (.int c10), (.int c11), (.int c12), (.int c13), (.int c14), (.int c15), (.int c16), (.int c17), (.int c18), (.int c19), (.int c20), (.int c21), (.int c22), (.int c23), (.int c24), (.int c25), (.int c26), (.int c27), (.int c28), (.int c29), (.int c30), (.int c31), (.int c32), (.int c33), (.int c34), (.int c35)] (.int (0 : Int32)) := Arv.set Ar140 q140 S140 M140 H140 G140 (by rw [hc35]; exact fits_nar_char _) W141 35 rfl (Nat.le_of_ble_eq_true rfl)
    have N141 := Fr.snoc X141 N139 g_b1
    have pre142 : ∀ t, Steps p.tables e below (T141.setTop (mkF m 498 #[.val (.long q1), .second, .val (.long q2), .second, .val (.int p1), .val (.ref b1), .unset, .unset] [])) t → Steps p.tables e below (s₁.setTop (entryFrame m #[(.long q1), (.long q2), (.int p1)] maxLocals)) t := by
      intro t k
      refine pret34 t ?_
      refine XS.aload Xt34.here hx rfl (hb hby at_484) rfl (rfl) ?_
      refine XS.bipush Xt34.here hx rfl (hb hby at_486) ?_
      show Steps p.tables e below (Tt34.setTop (mkF m 488 #[.val (.long q1), .second, .val (.long q2), .second, .val (.int p1), .val (.ref b1), .unset, .unset] [(.int (35 : Int32)), (.ref b1)])) _
      refine XS.lloadN Xt34.here hx rfl (hb hby at_488) rfl ?_
      refine XS.iconst Xt34.here hx rfl (hb hby at_489) ?_
      refine XS.iload Xt34.here hx rfl (hb hby at_490) rfl ?_
      refine XS.bipush Xt34.here hx rfl (hb hby at_492) ?_
      refine st139 _ ?_
      refine st141 _ ?_
      show Steps p.tables e below (T141.setTop (mkF m 498 #[.val (.long q1), .second, .val (.long q2), .second, .val (.int p1), .val (.ref b1), .unset, .unset] [])) _
      exact k
    exact ⟨T141, _, h141, c35, X141, e141, N141, (Nat.le_trans Zt34 (Keep.of_wr W141).1), hc35, V141, (Ot34.wr W141 g_b1), pre142⟩
  obtain ⟨T143, h143, X143, e143, E143, A143, D143, -, st143⟩ := newO Xt35 hx hZ hown (hw _ (List.mem_of_getElem? (i := 6) rfl)) (hw _ (List.mem_of_getElem? (i := 7) rfl)) (hw _ (List.mem_of_getElem? (i := 8) rfl)) et35 (g := (mkF m 498 #[.val (.long q1), .second, .val (.long q2), .second, .val (.int p1), .val (.ref b1), .unset, .unset] [])) rfl (hb hby at_498) (by decide) (by decide)
  obtain ⟨b143, g143⟩ : ∃ z, z = ht35.size := ⟨_, rfl⟩
  rw [← g143] at A143 D143 st143
  have ne_b1_b143 : b1 ≠ b143 := Nat.ne_of_lt (Nat.lt_of_lt_of_le Vt35.lt (Nat.le_of_eq g143.symm))
  have F143_coder : Fld Z h143 b143 "java/lang/String" "coder" "B" (.int (0 : Int32)) := D143 (Or.inr (hw _ (List.mem_of_getElem? (i := 32) rfl))) (ty := .byte) (by decide)
  have F143_value : Fld Z h143 b143 "java/lang/String" "value" "[B" .null := D143 (Or.inr (hw _ (List.mem_of_getElem? (i := 34) rfl))) (ty := (.array .byte)) (by decide)
  have g_b143 : n0 ≤ b143 := Nat.le_trans Zt35 (Nat.le_of_eq g143.symm)
  have pre144 : ∀ t, Steps p.tables e below (T143.setTop (mkF m 504 #[.val (.long q1), .second, .val (.long q2), .second, .val (.int p1), .val (.ref b1), .unset, .unset] [(.ref b1), (.ref b143), (.ref b143)])) t → Steps p.tables e below (s₁.setTop (entryFrame m #[(.long q1), (.long q2), (.int p1)] maxLocals)) t := by
    intro t k
    refine pret35 t ?_
    refine st143 _ ?_
    refine XS.dup X143.here hx rfl (hb hby at_501) rfl rfl ?_
    refine XS.aload X143.here hx rfl (hb hby at_502) rfl (rfl) ?_
    exact k
  obtain ⟨m0, v0⟩ := own_ci 60 hc0 (by decide)
  obtain ⟨m1, v1⟩ := own_ci 56 hc1 (by decide)
  obtain ⟨m2, v2⟩ := own_ci 52 hc2 (by decide)
  obtain ⟨m3, v3⟩ := own_ci 48 hc3 (by decide)
  obtain ⟨m4, v4⟩ := own_ci 44 hc4 (by decide)
  obtain ⟨m5, v5⟩ := own_ci 40 hc5 (by decide)
  obtain ⟨m6, v6⟩ := own_ci 36 hc6 (by decide)
  obtain ⟨m7, v7⟩ := own_ci 32 hc7 (by decide)
  have m8 : c8 = 45 := hc8.trans (by decide)
  obtain ⟨m9, v9⟩ := own_ci 28 hc9 (by decide)
  obtain ⟨m10, v10⟩ := own_ci 24 hc10 (by decide)
  obtain ⟨m11, v11⟩ := own_ci 20 hc11 (by decide)
  obtain ⟨m12, v12⟩ := own_ci 16 hc12 (by decide)
  have m13 : c13 = 45 := hc13.trans (by decide)
  obtain ⟨m14, v14⟩ := own_ci 12 hc14 (by decide)
  obtain ⟨m15, v15⟩ := own_ci 8 hc15 (by decide)
  obtain ⟨m16, v16⟩ := own_ci 4 hc16 (by decide)
  obtain ⟨m17, v17⟩ := own_ci 0 hc17 (by decide)
  have m18 : c18 = 45 := hc18.trans (by decide)
  obtain ⟨m19, v19⟩ := own_ci 60 hc19 (by decide)
  obtain ⟨m20, v20⟩ := own_ci 56 hc20 (by decide)
  obtain ⟨m21, v21⟩ := own_ci 52 hc21 (by decide)
  obtain ⟨m22, v22⟩ := own_ci 48 hc22 (by decide)
  have m23 : c23 = 45 := hc23.trans (by decide)
  obtain ⟨m24, v24⟩ := own_ci 44 hc24 (by decide)
  obtain ⟨m25, v25⟩ := own_ci 40 hc25 (by decide)
  obtain ⟨m26, v26⟩ := own_ci 36 hc26 (by decide)
  obtain ⟨m27, v27⟩ := own_ci 32 hc27 (by decide)
  obtain ⟨m28, v28⟩ := own_ci 28 hc28 (by decide)
  obtain ⟨m29, v29⟩ := own_ci 24 hc29 (by decide)
  obtain ⟨m30, v30⟩ := own_ci 20 hc30 (by decide)
  obtain ⟨m31, v31⟩ := own_ci 16 hc31 (by decide)
  obtain ⟨m32, v32⟩ := own_ci 12 hc32 (by decide)
  obtain ⟨m33, v33⟩ := own_ci 8 hc33 (by decide)
  obtain ⟨m34, v34⟩ := own_ci 4 hc34 (by decide)
  obtain ⟨m35, v35⟩ := own_ci 0 hc35 (by decide)
  have hp : ∀ d ∈ ([c0, c1, c2, c3, c4, c5, c6, c7, c8, c9, c10, c11, c12, c13, c14, c15, c16, c17, c18, c19, c20, c21, c22, c23, c24, c25, c26, c27, c28, c29, c30, c31, c32, c33, c34, c35] : List Int32), ¬ d < 0 ∧ ¬ (255 : Int32) < d := own_hp36 m0 m1 m2 m3 m4 m5 m6 m7 m8 m9 m10 m11 m12 m13 m14 m15 m16 m17 m18 m19 m20 m21 m22 m23 m24 m25 m26 m27 m28 m29 m30 m31 m32 m33 m34 m35
  have hh : own_hexAt ([c0, c1, c2, c3, c4, c5, c6, c7, c8, c9, c10, c11, c12, c13, c14, c15, c16, c17, c18, c19, c20, c21, c22, c23, c24, c25, c26, c27, c28, c29, c30, c31, c32, c33, c34, c35] : List Int32) := own_hh36 m0 m1 m2 m3 m4 m5 m6 m7 m8 m9 m10 m11 m12 m13 m14 m15 m16 m17 m18 m19 m20 m21 m22 m23 m24 m25 m26 m27 m28 m29 m30 m31 m32 m33 m34 m35
  have hM : own_msb ([c0, c1, c2, c3, c4, c5, c6, c7, c8, c9, c10, c11, c12, c13, c14, c15, c16, c17, c18, c19, c20, c21, c22, c23, c24, c25, c26, c27, c28, c29, c30, c31, c32, c33, c34, c35] : List Int32) = q1 := by
    show own_m (own_p4 (own_val c0) (own_val c1) (own_val c2) (own_val c3)) (own_p4 (own_val c4) (own_val c5) (own_val c6) (own_val c7)) (own_p4 (own_val c9) (own_val c10) (own_val c11) (own_val c12)) (own_p4 (own_val c14) (own_val c15) (own_val c16) (own_val c17)) = q1
    rw [v0, v1, v2, v3, v4, v5, v6, v7, v9, v10, v11, v12, v14, v15, v16, v17]; exact own_all q1
  have hL : own_lsb ([c0, c1, c2, c3, c4, c5, c6, c7, c8, c9, c10, c11, c12, c13, c14, c15, c16, c17, c18, c19, c20, c21, c22, c23, c24, c25, c26, c27, c28, c29, c30, c31, c32, c33, c34, c35] : List Int32) = q2 := by
    show own_m (own_p4 (own_val c19) (own_val c20) (own_val c21) (own_val c22)) (own_p4 (own_val c24) (own_val c25) (own_val c26) (own_val c27)) (own_p4 (own_val c28) (own_val c29) (own_val c30) (own_val c31)) (own_p4 (own_val c32) (own_val c33) (own_val c34) (own_val c35)) = q2
    rw [v19, v20, v21, v22, v24, v25, v26, v27, v28, v29, v30, v31, v32, v33, v34, v35]; exact own_all q2
  have hws : ∀ d ∈ StrChars.Road.words, d.before a0 Z = true := fun d hd => hw d ((by decide +kernel : ∀ d ∈ StrChars.Road.words, d ∈ tables_1) d hd)
  obtain ⟨_, _, ⟨T145, L145, k145, n145⟩, -, X145, ⟨Lc145, hQ145, l145, y145, z145⟩, st145⟩ := X143.specialBack hx (y := (⟨"java/lang/String", "<init>", "([C)V"⟩ : MethodName)) rfl hown (mvT hZ (hw _ (List.mem_of_getElem? (i := 9) rfl))) (mvT hZ (hw _ (List.mem_of_getElem? (i := 10) rfl))) (mvT hZ (hw _ (List.mem_of_getElem? (i := 11) rfl))) (by decide) (StrChars.Road.backV (W := 1) hZ hws (kI := 4) (hw _ (List.mem_of_getElem? (i := 7) rfl)) (cs := ([c0, c1, c2, c3, c4, c5, c6, c7, c8, c9, c10, c11, c12, c13, c14, c15, c16, c17, c18, c19, c20, c21, c22, c23, c24, c25, c26, c27, c28, c29, c30, c31, c32, c33, c34, c35] : List Int32)) (bs := (([c0, c1, c2, c3, c4, c5, c6, c7, c8, c9, c10, c11, c12, c13, c14, c15, c16, c17, c18, c19, c20, c21, c22, c23, c24, c25, c26, c27, c28, c29, c30, c31, c32, c33, c34, c35] : List Int32)).map (fun c => c.toInt8.toInt32)) (n := 36) g_b143 (Nat.le_trans Zt35 E143.1) A143 F143_value F143_coder (Vt35.ext E143) (SC.ext ((Ot35.ext E143)).2) P5 rfl rfl (by decide) (by decide) hp rfl (by decide) (by decide)) (g := (mkF m 504 #[.val (.long q1), .second, .val (.long q2), .second, .val (.int p1), .val (.ref b1), .unset, .unset] [(.ref b1), (.ref b143), (.ref b143)])) rfl (by rw [hml]; rfl) (Steps.refl _) (a := b143) (argsL := [(.ref b1)]) (rest := [(.ref b143)]) (lenOf pd_8 rfl) rfl (by show 2 * 0 + _ ≤ _; exact Nat.le_of_eq rfl) (hb hby at_504) (fun _ _ => ⟨rfl, e143, (by decide : 2 + 1 ≤ _), (by decide : 40 + 36 ≤ _)⟩)
  dsimp only [Pt.U, Pt.locs, Pt.cells, Pt.slots] at X145 l145 y145 z145 st145 hQ145
  subst l145 y145 z145
  obtain ⟨rfl, N145q, Kq145, Eq145, Cq145, t145, kb145, ut145, vt145, wt145, Vq145, Aq145⟩ := hQ145
  have N145 := Fr.app Nt35 N145q
  have SS : own_S Z T145.heap n0 b143 t145 kb145 ([c0, c1, c2, c3, c4, c5, c6, c7, c8, c9, c10, c11, c12, c13, c14, c15, c16, c17, c18, c19, c20, c21, c22, c23, c24, c25, c26, c27, c28, c29, c30, c31, c32, c33, c34, c35] : List Int32) G1 fm aN cN := ⟨Eq145, Vq145, Cq145, Aq145, hp, rfl, ((Ot35.ext E143).keep Kq145 (allS g_b143 all0)), SC, P5, SF, rF, SNib, AN, SzN, nib, m8, m13, m18, m23, hh⟩
  obtain ⟨_, _, ⟨T146, L146, k146, n146⟩, -, X146, hS146, gS146, ⟨Lc146, hQ146, l146, y146, z146⟩, st146⟩ := callSS X145 hx (y := (⟨"com/example/nonce/nonce/id/UuidText", "parse", "(Ljava/lang/String;)Ljava/util/UUID;"⟩ : MethodName)) hown (mvT hZ (hw _ (List.mem_of_getElem? (i := 35) rfl))) (mvT hZ (hw _ (List.mem_of_getElem? (i := 36) rfl))) (mvT hZ (hw _ (List.mem_of_getElem? (i := 37) rfl))) (mvT hZ (hw _ (List.mem_of_getElem? (i := 38) rfl))) (by decide) (backOfS (W := 0) (rmP l Z a0 hw [] b143 t145 kb145 ([c0, c1, c2, c3, c4, c5, c6, c7, c8, c9, c10, c11, c12, c13, c14, c15, c16, c17, c18, c19, c20, c21, c22, c23, c24, c25, c26, c27, c28, c29, c30, c31, c32, c33, c34, c35] : List Int32) G1 fm aN cN T145.heap n0 (Nat.le_trans (Nat.le_trans Zt35 E143.1) Kq145.1) SS) hZ (hw _ (List.mem_of_getElem? (i := 38) rfl)) (hw _ (List.mem_of_getElem? (i := 37) rfl)) (by decide) (by decide)) (g := (mkF m 511 #[.val (.long q1), .second, .val (.long q2), .second, .val (.int p1), .val (.ref b1), .val (.ref b143), .unset] [(.ref b143)])) rfl (by rw [hml]; rfl) (argsL := [(.ref b143)]) (rest := []) (lenOf pd_6 rfl) rfl (by show 2 * 0 + _ ≤ _; exact Nat.le_of_eq rfl) (hb hby at_511) (fun _ _ => ⟨rfl, rfl, (by decide : 3 + 3 ≤ _), (by decide : 76 + 22 ≤ _)⟩)
  dsimp only [Pt.U, Pt.locs, Pt.cells, Pt.slots] at X146 l146 y146 z146 st146 hQ146
  subst l146 y146 z146
  dsimp only [Pt.U] at hS146 gS146
  have hZ146 : Z.Warmed39 (s.setVm T146.vm).vm := State.Warmed39.trans hZ hS146.1
  have hown146 : (s.setVm T146.vm).vm.findClass "com/example/nonce/nonce/id/UuidTextParsePinLaw" = some m.cls := (hS146.1.alike.findClass _ _).trans hown
  obtain ⟨ar146, rfl, N146q, Kq146, Eq146, F1q146, F2q146⟩ := hQ146
  have N146 := Fr.app N145 N146q
  rw [hM] at F1q146
  rw [hL] at F2q146
  obtain ⟨cq147, kq147, q147a, q147b, q147c⟩ := isOf hZ146 rfl Eq146
  obtain ⟨_, _, ⟨T147, L147, k147, n147⟩, -, X147, ⟨Lc147, hQ147, l147, y147, z147⟩, st147⟩ := X146.virtualBack hx (y := (⟨"java/util/UUID", "getMostSignificantBits", "()J"⟩ : MethodName)) (z := (⟨"java/util/UUID", "getMostSignificantBits", "()J"⟩ : MethodName)) hown146 (mvT hZ146 (hw _ (List.mem_of_getElem? (i := 102) rfl))) (mvT hZ146 (hw _ (List.mem_of_getElem? (i := 103) rfl))) (notFace_of_selects (args := #[]) (mvT hZ146 (hw _ (List.mem_of_getElem? (i := 105) rfl)))) (mvT hZ146 (hw _ (List.mem_of_getElem? (i := 105) rfl))) (mvT hZ146 (hw _ (List.mem_of_getElem? (i := 104) rfl))) (by decide) (backOf (W := 0) (rmM l Z a0 hw [] ar146 q1 T146.heap n0 (Nat.le_trans (Nat.le_trans (Nat.le_trans Zt35 E143.1) Kq145.1) Kq146.1) F1q146) hZ146 (hw _ (List.mem_of_getElem? (i := 106) rfl)) (hw _ (List.mem_of_getElem? (i := 83) rfl)) (by decide) (by decide)) q147a q147c (g := (mkF m 518 #[.val (.long q1), .second, .val (.long q2), .second, .val (.int p1), .val (.ref b1), .val (.ref b143), .val (.ref ar146)] [(.ref ar146)])) rfl (by rw [hml]; rfl) (Steps.refl _) (argsL := []) (rest := []) (lenOf pd_9 rfl) rfl (by show 2 * 0 + _ ≤ _; exact Nat.le_of_eq rfl) (hb hby at_518) (fun _ _ => ⟨rfl, rfl, (by decide : 6 + 0 ≤ _), (by decide : 98 + 0 ≤ _)⟩)
  dsimp only [Pt.U, Pt.locs, Pt.cells, Pt.slots] at X147 l147 y147 z147 st147 hQ147
  subst l147 y147 z147
  obtain ⟨rfl, N147q, hq147⟩ := hQ147
  have N147 := Fr.app N146 N147q
  obtain ⟨cq148, kq148, q148a, q148b, q148c⟩ := isOf hZ146 hq147 Eq146
  obtain ⟨_, _, ⟨T148, L148, k148, n148⟩, -, X148, ⟨Lc148, hQ148, l148, y148, z148⟩, st148⟩ := X147.virtualBack hx (y := (⟨"java/util/UUID", "getLeastSignificantBits", "()J"⟩ : MethodName)) (z := (⟨"java/util/UUID", "getLeastSignificantBits", "()J"⟩ : MethodName)) hown146 (mvT hZ146 (hw _ (List.mem_of_getElem? (i := 107) rfl))) (mvT hZ146 (hw _ (List.mem_of_getElem? (i := 108) rfl))) (notFace_of_selects (args := #[]) (mvT hZ146 (hw _ (List.mem_of_getElem? (i := 110) rfl)))) (mvT hZ146 (hw _ (List.mem_of_getElem? (i := 110) rfl))) (mvT hZ146 (hw _ (List.mem_of_getElem? (i := 109) rfl))) (by decide) (backOf (W := 0) (rmL l Z a0 hw [] ar146 q2 T146.heap n0 (Nat.le_trans (Nat.le_trans (Nat.le_trans Zt35 E143.1) Kq145.1) Kq146.1) F2q146) hZ146 (hw _ (List.mem_of_getElem? (i := 111) rfl)) (hw _ (List.mem_of_getElem? (i := 83) rfl)) (by decide) (by decide)) q148a q148c (g := (mkF m 528 #[.val (.long q1), .second, .val (.long q2), .second, .val (.int p1), .val (.ref b1), .val (.ref b143), .val (.ref ar146)] [(.ref ar146)])) rfl (by rw [hml]; rfl) (Steps.refl _) (argsL := []) (rest := []) (lenOf pd_9 rfl) rfl (by show 2 * 0 + _ ≤ _; exact Nat.le_of_eq rfl) (hb hby at_528) (fun _ _ => ⟨rfl, hq147, (by decide : 6 + 0 ≤ _), (by decide : 98 + 0 ≤ _)⟩)
  dsimp only [Pt.U, Pt.locs, Pt.cells, Pt.slots] at X148 l148 y148 z148 st148 hQ148
  subst l148 y148 z148
  obtain ⟨rfl, N148q, hq148⟩ := hQ148
  have N148 := Fr.app N147 N148q
  have pre149 : ∀ t, Steps p.tables e below (T148.setTop (mkF m 541 #[.val (.long q1), .second, .val (.long q2), .second, .val (.int p1), .val (.ref b1), .val (.ref b143), .val (.ref ar146)] [(.int (1 : Int32))])) t → Steps p.tables e below (s₁.setTop (entryFrame m #[(.long q1), (.long q2), (.int p1)] maxLocals)) t := by
    intro t k
    refine pre144 t ?_
    refine st145.trans ?_
    show Steps p.tables e below (T145.setTop (mkF m 507 #[.val (.long q1), .second, .val (.long q2), .second, .val (.int p1), .val (.ref b1), .unset, .unset] [(.ref b143)])) _
    refine XS.astore X145.here hx rfl (hb hby at_507) rfl (rfl) (l' := #[.val (.long q1), .second, .val (.long q2), .second, .val (.int p1), .val (.ref b1), .val (.ref b143), .unset]) rfl ?_
    refine XS.aload X145.here hx rfl (hb hby at_509) rfl (rfl) ?_
    refine st146.trans ?_
    refine XS.astore X146.here hx rfl (hb hby at_514) rfl (rfl) (l' := #[.val (.long q1), .second, .val (.long q2), .second, .val (.int p1), .val (.ref b1), .val (.ref b143), .val (.ref ar146)]) rfl ?_
    refine XS.aload X146.here hx rfl (hb hby at_516) rfl (rfl) ?_
    refine st147.trans ?_
    show Steps p.tables e below (T147.setTop (mkF m 521 #[.val (.long q1), .second, .val (.long q2), .second, .val (.int p1), .val (.ref b1), .val (.ref b143), .val (.ref ar146)] [(.long q1)])) _
    refine XS.lloadN X147.here hx rfl (hb hby at_521) rfl ?_
    refine XS.lcmp X147.here hx rfl (hb hby at_522) rfl ?_
    refine XS.ifNo X147.here hx rfl (hb hby at_523) rfl ((if0 _ _).trans (teq ((lw_eq q1 q1).mpr rfl)).2) ?_
    refine XS.aload X147.here hx rfl (hb hby at_526) rfl (rfl) ?_
    refine st148.trans ?_
    refine XS.lloadN X148.here hx rfl (hb hby at_531) rfl ?_
    show Steps p.tables e below (T148.setTop (mkF m 532 #[.val (.long q1), .second, .val (.long q2), .second, .val (.int p1), .val (.ref b1), .val (.ref b143), .val (.ref ar146)] [(.long q2), (.long q2)])) _
    refine XS.lcmp X148.here hx rfl (hb hby at_532) rfl ?_
    refine XS.ifNo X148.here hx rfl (hb hby at_533) rfl ((if0 _ _).trans (teq ((lw_eq q2 q2).mpr rfl)).2) ?_
    refine XS.iconst X148.here hx rfl (hb hby at_536) ?_
    refine XS.goto X148.here hx rfl (pc0 := 537) (pc' := 541) rfl (hb hby at_537) (by decide) (by decide) ?_
    exact k
  obtain ⟨fs, hr, hrun, hended, hq⟩ := X148.leaveW (s := s) (vm₁ := T146.vm) hS146 (by rw [hq148]; exact (Nat.le_refl T146.heap.size)) (v := some (.int (1 : Int32))) (fun h => by rw [Bd.returns] at h; cases h)
  refine ⟨_, _, pre149 _ ?_, hrun, hended, _, _, rfl, ?_, hq.1, hq.2.1, hq.2.2.1, hq.2.2.2.mono (by decide) (by decide)⟩
  · exact retN X148 hx (t := .boolean) Bd.returns (by simp) (hb hby at_541) hr
  · show Q_rm0 Z q1 q2 p1 G1 fm aN cN h0 n0 _ T148.heap _
    rw [hq148]
    exact ⟨rfl, N148⟩
theorem own_eqI {t : Term} {k : Int32} {args : Array Value} {s : State} (h : (Jvm.Cond.eq t (.int k)).value args s none s [] = some true) : t.eval args s none [] s = some (.int k) := by
  simp only [Cond.value, Term.eval] at h
  cases ht : t.eval args s none [] s with
  | none => simp [ht] at h
  | some x => cases x <;> simp [ht] at h ⊢; exact h
theorem own_eqJ {t : Term} {k : Int64} {args : Array Value} {s : State} (h : (Jvm.Cond.eq t (.long k)).value args s none s [] = some true) : t.eval args s none [] s = some (.long k) := by
  simp only [Cond.value, Term.eval] at h
  cases ht : t.eval args s none [] s with
  | none => simp [ht] at h
  | some x => cases x <;> simp [ht] at h ⊢; exact h
theorem own_len256 {s : State} {args : Array Value} {t : Term} {a : Addr} {c : Cell} {ty : FieldType} (ev : t.eval args s none [] s = some (.ref a)) (A : Arr s s.heap a c ty) (he : (Term.length t).eval args s none [] s = some (.int 256)) : c.slots.size = 256 := by
  have e2 : s.arrayAt? a = some c := IntBox.arrayAt_of A.1 A.2.1 A.2.2
  simp only [Term.eval, ev, e2, Option.bind_eq_bind, Option.bind_some] at he
  split at he
  · rename_i hl
    have e4 : c.slots.size.toInt32 = (256 : Int32) := Value.int.inj (Option.some.inj he)
    have e5 : (c.slots.size.toInt32).toInt = (c.slots.size : Int) := Int32.toInt_ofNat_of_lt hl
    rw [e4] at e5
    have : (256 : Int32).toInt = 256 := by decide
    omega
  · cases he
theorem own_elem {s : State} {args : Array Value} {t : Term} {a : Addr} {c : Cell} {ty : FieldType} {i v : Int32} (ev : t.eval args s none [] s = some (.ref a)) (A : Arr s s.heap a c ty) (he : (Term.elem t (.int i)).eval args s none [] s = some (.int v)) : c.slots[i.toNatClampNeg]? = some (.int v) := by
  have e2 : s.arrayAt? a = some c := IntBox.arrayAt_of A.1 A.2.1 A.2.2
  simp only [Term.eval, ev, e2, Option.bind_eq_bind, Option.bind_some] at he
  split at he
  · cases he
  · exact he
set_option maxRecDepth 65536 in
set_option maxHeartbeats 40000000 in
theorem comes_1 {Post : Tables → Env → Array Value → State → Outcome → State → Prop} (hpost : ∀ tb e args s v u, (limb_1_1.after args s (.returned v) u = true ∧ limb_1_2.after args s (.returned v) u = true ∧ True) → ReturnedEndW s (.returned v) u (Jvm.fieldLocs frame_1_writes args s ++ Jvm.arrayLocs frame_1_arrays args s ++ Jvm.staticLocs frame_1_statics s) 24 1280 → Post tb e args s (.returned v) u) :
    ArmFor flags0 classFile x code maxLocals ret World_1 tables_1 room_1 Calls_1 rest_1 Pre_1 Post := by
  intro l hfl _ _ p e ha hc hk s m args below hf hA hF happ hP
  obtain ⟨hcalls, hrest, hpre⟩ := hP
  obtain ⟨-, -, -, hnamed, -, -, -, hat⟩ := (Spec.applies_iff hf).mp happ
  obtain ⟨hg, hn⟩ := and_e (Cond.before_iff.mp (show (Jvm.Cond.and given_1 narrow_1).before args s = true from hpre))
  obtain ⟨g1, g2⟩ := and_e hg
  obtain ⟨g3, g4⟩ := and_e g2
  obtain ⟨g5, g6⟩ := and_e g4
  obtain ⟨w0, w1, w2, rfl⟩ : ∃ w0 w1 w2 : Value, args = #[w0, w1, w2] := by
    have hs : args.size = 3 := by simpa [Cond.value, given_1] using g1
    obtain ⟨L⟩ := args
    match L, hs with
    | [w0, w1, w2], _ => exact ⟨w0, w1, w2, rfl⟩
  have hw := fun d (hd : d ∈ tables_1) => atoms_spec (ws := Jvm.Cond.code x code maxLocals ret :: tables_1) hat d (List.mem_cons_of_mem _ hd)
  obtain ⟨i0, ei0⟩ := isL_v g3
  obtain rfl : w0 = (.long i0) := Option.some.inj ei0
  obtain ⟨i1, ei1⟩ := isL_v g5
  obtain rfl : w1 = (.long i1) := Option.some.inj ei1
  obtain ⟨i2, ei2⟩ := is_v g6
  obtain rfl : w2 = (.int i2) := Option.some.inj ei2
  obtain ⟨hsets, hown0⟩ := atoms_of _ (rest_1_c_eq ▸ (show rest_1_c.before _ s = true from hrest))
  have n5 := not_v (Cond.before_iff.mp (hsets _ (List.mem_of_getElem? (i := 2) rfl)))
  obtain ⟨G1, eG1⟩ := is_v (Cond.before_iff.mp (hsets _ (List.mem_of_getElem? (i := 1) rfl)))
  have SC : Sta s s.heap "java/lang/String" "COMPACT_STRINGS" "Z" (.int G1) := Sta.start eG1 (Or.inl (hsets _ (List.mem_of_getElem? (i := 0) rfl)))
  obtain ⟨fm, eF, rF⟩ := isR_v (Cond.before_iff.mp (hsets _ (List.mem_of_getElem? (i := 8) rfl)))
  have SF : Sta s s.heap "jdk/internal/util/Preconditions" "SIOOBE_FORMATTER" "Ljava/util/function/BiFunction;" fm := Sta.start eF (Or.inl (hsets _ (List.mem_of_getElem? (i := 7) rfl)))
  have P5 : ¬ (G1 = (0 : Int32)) := gotF (Cond.eq_ints eG1 (Term.int_eval (0))) n5
  have y11 := Cond.before_iff.mp (hsets _ (List.mem_of_getElem? (i := 11) rfl))
  obtain ⟨aN, evN⟩ := arr_v y11
  have SNib := Sta.start evN (Or.inl (hsets _ (List.mem_of_getElem? (i := 10) rfl)))
  obtain ⟨cN, AN⟩ := Arr.start evN y11
  have SzN := own_len256 evN AN (own_eqI (Cond.before_iff.mp (hsets _ (List.mem_of_getElem? (i := 13) rfl))))
  have nib : ∀ c ∈ own_H, cN.slots[c.toNatClampNeg]? = some (.int (own_val c)) := by
    intro c hc
    simp only [own_H, List.mem_cons, List.not_mem_nil, or_false] at hc
    rcases hc with rfl | rfl | rfl | rfl | rfl | rfl | rfl | rfl | rfl | rfl | rfl | rfl | rfl | rfl | rfl | rfl | rfl | rfl | rfl | rfl | rfl | rfl
    · exact own_elem evN AN (own_eqI (Cond.before_iff.mp (hsets _ (List.mem_of_getElem? (i := 62) rfl))))
    · exact own_elem evN AN (own_eqI (Cond.before_iff.mp (hsets _ (List.mem_of_getElem? (i := 63) rfl))))
    · exact own_elem evN AN (own_eqI (Cond.before_iff.mp (hsets _ (List.mem_of_getElem? (i := 64) rfl))))
    · exact own_elem evN AN (own_eqI (Cond.before_iff.mp (hsets _ (List.mem_of_getElem? (i := 65) rfl))))
    · exact own_elem evN AN (own_eqI (Cond.before_iff.mp (hsets _ (List.mem_of_getElem? (i := 66) rfl))))
    · exact own_elem evN AN (own_eqI (Cond.before_iff.mp (hsets _ (List.mem_of_getElem? (i := 67) rfl))))
    · exact own_elem evN AN (own_eqI (Cond.before_iff.mp (hsets _ (List.mem_of_getElem? (i := 68) rfl))))
    · exact own_elem evN AN (own_eqI (Cond.before_iff.mp (hsets _ (List.mem_of_getElem? (i := 69) rfl))))
    · exact own_elem evN AN (own_eqI (Cond.before_iff.mp (hsets _ (List.mem_of_getElem? (i := 70) rfl))))
    · exact own_elem evN AN (own_eqI (Cond.before_iff.mp (hsets _ (List.mem_of_getElem? (i := 71) rfl))))
    · exact own_elem evN AN (own_eqI (Cond.before_iff.mp (hsets _ (List.mem_of_getElem? (i := 79) rfl))))
    · exact own_elem evN AN (own_eqI (Cond.before_iff.mp (hsets _ (List.mem_of_getElem? (i := 80) rfl))))
    · exact own_elem evN AN (own_eqI (Cond.before_iff.mp (hsets _ (List.mem_of_getElem? (i := 81) rfl))))
    · exact own_elem evN AN (own_eqI (Cond.before_iff.mp (hsets _ (List.mem_of_getElem? (i := 82) rfl))))
    · exact own_elem evN AN (own_eqI (Cond.before_iff.mp (hsets _ (List.mem_of_getElem? (i := 83) rfl))))
    · exact own_elem evN AN (own_eqI (Cond.before_iff.mp (hsets _ (List.mem_of_getElem? (i := 84) rfl))))
    · exact own_elem evN AN (own_eqI (Cond.before_iff.mp (hsets _ (List.mem_of_getElem? (i := 111) rfl))))
    · exact own_elem evN AN (own_eqI (Cond.before_iff.mp (hsets _ (List.mem_of_getElem? (i := 112) rfl))))
    · exact own_elem evN AN (own_eqI (Cond.before_iff.mp (hsets _ (List.mem_of_getElem? (i := 113) rfl))))
    · exact own_elem evN AN (own_eqI (Cond.before_iff.mp (hsets _ (List.mem_of_getElem? (i := 114) rfl))))
    · exact own_elem evN AN (own_eqI (Cond.before_iff.mp (hsets _ (List.mem_of_getElem? (i := 115) rfl))))
    · exact own_elem evN AN (own_eqI (Cond.before_iff.mp (hsets _ (List.mem_of_getElem? (i := 116) rfl))))
  obtain ⟨n, o, h1, h2, h3, _, L, rfl, ⟨rfl, N⟩, hq⟩ := rm0 l s _ hw tables_1 i0 i1 i2 G1 fm aN cN s.heap s.heap.size (Nat.le_refl _) (Old.start s) SC P5 SF rF SNib AN SzN nib p e ha hc hk s m _ below hf ((Spec.applies_iff_loose hf).mp happ).1 ⟨rfl, State.Warmed39.refl s, rfl⟩ trivial
  refine ⟨n, _, h1, h2, h3, hpost _ _ _ _ _ _ ⟨Cond.after_iff.mpr rfl, Cond.after_iff.mpr (eq_i res_at (Term.int_eval (1)) rfl), trivial⟩ ⟨hq.1, hq.2.1, hq.2.2.1, (hq.2.2.2.sift fun y hy => Or.inr (N y hy)).mono (by decide) (by decide)⟩⟩
theorem main_1_1 : Claimed_1_1 := comes_1 fun _ _ _ _ _ _ h hF => ⟨h.1, hF⟩
theorem main_1_2 : Claimed_1_2 := comes_1 fun _ _ _ _ _ _ h hF => ⟨h.2.1, hF⟩
end Jvm.Pilot.@@N@@
namespace Jvm.Pilot.@@N@@
open Jvm Jvm.ClassFile Sem Op Lib Jvm.Free Jvm.Stand Jvm.Pilot.@@N@@.Jvm.D
/-! MADE BY PROGRAM (witnessworld.py) out of the Statement's table words and the real class files: 21 classes; the members and pool entries that the words name. The judged class is class 1, her method 2. -/
namespace start1
open Jvm.ClassFile
def u (s : String) : CpInfo := .utf8 (stringToUtf16 s)
/-- a pool by its gaps: so many unusable entries, then the entry; so many at the end -/
def gap : Nat → List CpInfo → List CpInfo
  | 0, r => r
  | n + 1, r => .unusable :: gap n r
def poolList (es : List (Nat × CpInfo)) (last : Nat) : List CpInfo := es.foldr (fun e r => gap e.1 (e.2 :: r)) (gap last [])
def pool (es : List (Nat × CpInfo)) (last : Nat) : Array CpInfo := ⟨poolList es last⟩
def fileOf (pool : Array CpInfo) (this : Nat) (attrs : Array Attribute := #[]) (ms : Array MethodInfo := #[]) (fl : Nat := 33) (sup : Nat := 0) (ifs : Array Nat := #[]) (fds : Array FieldInfo := #[]) : ClassFile where
  minorVersion := 0
  majorVersion := 65
  constantPool := pool
  accessFlags := fl
  thisClass := this
  superClass := sup
  interfaces := ifs
  fields := fds
  methods := ms
  attributes := attrs
def plain (name : String) (sup : Option ClassId) : Class where
  name := name
  kind := .ordinary
  loader := none
  accessFlags := 33
  super := sup
  interfaces := #[]
  cf := none
  fields := #[]
  methods := #[]
  instanceTypes := #[]
  staticTypes := #[]
  resolved := #[]
  callSites := []
  init := .initialized
  statics := none
  mirror := none

def pool0 : Array CpInfo := pool [(5, u "<init>"), (0, u "()V"), (1, .class_ 10), (1, u "java/lang/Object")] 113

def k0c0 : Code := { maxStack := 0, maxLocals := 1, code := object_method_1_code, exceptionTable := #[], attributes := #[] }
def k0m0 : Method := { name := "<init>", desc := "()V", sig := { parameters := [], returnType := none }, accessFlags := 1, code := some k0c0 }
/-- java/lang/Object -/
def k0 : Class := { plain "java/lang/Object" none with
  accessFlags := 33
  interfaces := #[]
  cf := some (fileOf pool0 8 #[] #[{ accessFlags := 1, nameIndex := 5, descriptorIndex := 6, attributes := #[] }] 33 0 #[] #[])
  fields := #[]
  methods := #[k0m0]
  instanceTypes := #[]
  staticTypes := #[]
  resolved := Array.replicate 124 none
  statics := none }

def pool1 : Array CpInfo := pool [(2, .class_ 4), (1, u "java/lang/Object"), (0, u "<init>"), (0, u "()V"), (0, .long 15), (1, .methodref 10 11), (0, .class_ 12), (0, .nameAndType 13 14), (0, u "com/example/nonce/nonce/id/UuidTextParsePinLaw"), (0, u "hex"), (0, u "(JIII)C"), (0, .class_ 16), (0, u "java/lang/String"), (0, .methodref 15 18), (0, .nameAndType 5 19), (0, u "([C)V"), (0, .methodref 21 22), (0, .class_ 23), (0, .nameAndType 24 25), (0, u "com/example/nonce/nonce/id/UuidText"), (0, u "parse"), (0, u "(Ljava/lang/String;)Ljava/util/UUID;"), (0, .methodref 27 28), (0, .class_ 29), (0, .nameAndType 30 31), (0, u "java/util/UUID"), (0, u "getMostSignificantBits"), (0, u "()J"), (0, .methodref 27 33), (0, .nameAndType 34 31), (0, u "getLeastSignificantBits"), (3, u "law"), (0, u "(JJI)Z")] 4

def k1m0 : Method := { name := "<init>", desc := "()V", sig := { parameters := [], returnType := none }, accessFlags := 2, code := none }
def k1c1 : Code := { maxStack := 4, maxLocals := 7, code := method_2_code, exceptionTable := #[], attributes := #[] }
def k1m1 : Method := { name := "hex", desc := "(JIII)C", sig := { parameters := [.long, .int, .int, .int], returnType := some .char }, accessFlags := 10, code := some k1c1 }
def k1c2 : Code := { maxStack := 7, maxLocals := 8, code := code, exceptionTable := #[], attributes := #[] }
def k1m2 : Method := { name := "law", desc := "(JJI)Z", sig := { parameters := [.long, .long, .int], returnType := some .boolean }, accessFlags := 9, code := some k1c2 }
/-- com/example/nonce/nonce/id/UuidTextParsePinLaw -/
def k1 : Class := { plain "com/example/nonce/nonce/id/UuidTextParsePinLaw" (some 0) with
  accessFlags := 49
  interfaces := #[]
  cf := some (fileOf pool1 10 #[] #[{ accessFlags := 2, nameIndex := 5, descriptorIndex := 6, attributes := #[] }, { accessFlags := 10, nameIndex := 13, descriptorIndex := 14, attributes := #[] }, { accessFlags := 9, nameIndex := 38, descriptorIndex := 39, attributes := #[] }] 49 2 #[] #[])
  fields := #[]
  methods := #[k1m0, k1m1, k1m2]
  instanceTypes := #[]
  staticTypes := #[]
  resolved := Array.replicate 44 none
  statics := none }

def pool2 : Array CpInfo := pool [(1, .class_ 2), (0, u "java/io/Serializable"), (0, .class_ 4), (0, u "java/lang/Object")] 2

/-- java/io/Serializable -/
def k2 : Class := { plain "java/io/Serializable" (some 0) with
  accessFlags := 1537
  interfaces := #[]
  cf := some (fileOf pool2 1 #[] #[] 1537 3 #[] #[])
  fields := #[]
  methods := #[]
  instanceTypes := #[]
  staticTypes := #[]
  resolved := Array.replicate 7 none
  statics := none }

def pool3 : Array CpInfo := pool [(1, .class_ 2), (0, u "java/lang/Comparable"), (0, .class_ 4), (0, u "java/lang/Object")] 7

/-- java/lang/Comparable -/
def k3 : Class := { plain "java/lang/Comparable" (some 0) with
  accessFlags := 1537
  interfaces := #[]
  cf := some (fileOf pool3 1 #[] #[] 1537 3 #[] #[])
  fields := #[]
  methods := #[]
  instanceTypes := #[]
  staticTypes := #[]
  resolved := Array.replicate 12 none
  statics := none }

def pool4 : Array CpInfo := pool [(2, .class_ 4), (1, u "java/lang/CharSequence"), (42, .class_ 48), (0, u "java/lang/CharSequence$1CodePointIterator"), (10, .class_ 60), (0, u "java/lang/CharSequence$1CharIterator"), (5, .class_ 67), (0, u "java/lang/Object")] 63

/-- java/lang/CharSequence -/
def k4 : Class := { plain "java/lang/CharSequence" (some 0) with
  accessFlags := 1537
  interfaces := #[]
  cf := some (fileOf pool4 2 #[.nestMembers #[47, 59]] #[] 1537 66 #[] #[])
  fields := #[]
  methods := #[]
  instanceTypes := #[]
  staticTypes := #[]
  resolved := Array.replicate 131 none
  statics := none }

def pool5 : Array CpInfo := pool [(1, .class_ 2), (0, u "java/lang/constant/Constable"), (0, .class_ 4), (0, u "java/lang/Object")] 6

/-- java/lang/constant/Constable -/
def k5 : Class := { plain "java/lang/constant/Constable" (some 0) with
  accessFlags := 1537
  interfaces := #[]
  cf := some (fileOf pool5 1 #[] #[] 1537 3 #[] #[])
  fields := #[]
  methods := #[]
  instanceTypes := #[]
  staticTypes := #[]
  resolved := Array.replicate 11 none
  statics := none }

def pool6 : Array CpInfo := pool [(1, .class_ 2), (0, u "java/lang/constant/ConstantDesc"), (0, .class_ 4), (0, u "java/lang/Object")] 32

/-- java/lang/constant/ConstantDesc -/
def k6 : Class := { plain "java/lang/constant/ConstantDesc" (some 0) with
  accessFlags := 1537
  interfaces := #[]
  cf := some (fileOf pool6 1 #[] #[] 1537 3 #[] #[])
  fields := #[]
  methods := #[]
  instanceTypes := #[]
  staticTypes := #[]
  resolved := Array.replicate 37 none
  statics := none }

def pool7 : Array CpInfo := pool [(1, .methodref 2 3), (0, .class_ 4), (0, .nameAndType 5 6), (0, u "java/lang/Object"), (0, u "<init>"), (0, u "()V"), (2, .fieldref 10 11), (0, .class_ 12), (0, .nameAndType 13 14), (0, u "java/lang/String"), (0, u "value"), (0, u "[B"), (0, .fieldref 10 16), (0, .nameAndType 17 18), (0, u "coder"), (0, u "B"), (2, u "hash"), (0, u "I"), (2, u "hashIsZero"), (0, u "Z"), (0, .methodref 10 28), (0, .nameAndType 5 29), (0, u "([CIILjava/lang/Void;)V"), (8, .fieldref 10 39), (0, .nameAndType 40 26), (0, u "COMPACT_STRINGS"), (1, .class_ 44), (1, u "java/lang/StringUTF16"), (0, u "compress"), (1, .methodref 42 48), (0, .nameAndType 49 50), (0, u "coderFromArrayLen"), (0, u "([BI)B"), (56, .class_ 109), (1, u "java/lang/StringLatin1"), (32, u "()Z"), (34, .methodref 42 178), (0, .nameAndType 45 179), (0, u "([CII)[B"), (154, u "()I"), (0, .methodref 10 336), (0, .nameAndType 17 337), (0, u "()B"), (25, u "([BI)C"), (27, u "(II)V"), (35, u "(I)C"), (64, .methodref 10 493), (0, .nameAndType 494 142), (0, u "isLatin1"), (0, .methodref 107 496), (0, .nameAndType 497 363), (0, u "charAt"), (3, u "checkIndex"), (5, u "length"), (67, .class_ 576), (0, u "java/lang/CharSequence"), (22, u "CASE_INSENSITIVE_ORDER"), (0, u "Ljava/util/Comparator;"), (409, u "([C)V"), (42, .fieldref 1054 1055), (0, .class_ 1056), (0, .nameAndType 1057 1058), (0, u "jdk/internal/util/Preconditions"), (0, u "SIOOBE_FORMATTER"), (0, u "Ljava/util/function/BiFunction;"), (0, .methodref 1054 1060), (0, .nameAndType 501 1061), (0, u "(IILjava/util/function/BiFunction;)I"), (39, u "serialPersistentFields"), (0, u "[Ljava/io/ObjectStreamField;"), (0, .class_ 1104), (0, u "java/lang/String$CaseInsensitiveComparator"), (1, .class_ 1107), (0, u "java/io/Serializable"), (0, .class_ 1109), (0, u "java/lang/Comparable"), (0, .class_ 1111), (0, u "java/lang/constant/Constable"), (0, .class_ 1113), (0, u "java/lang/constant/ConstantDesc"), (2, u "serialVersionUID"), (0, u "J"), (3, u "REPL"), (0, u "C"), (2, u "LATIN1"), (1, u "UTF16")] 323

def k7m0 : Method := { name := "<init>", desc := "()V", sig := { parameters := [], returnType := none }, accessFlags := 1, code := none }
def k7c1 : Code := { maxStack := 5, maxLocals := 2, code := jdk_42_method_3_code, exceptionTable := #[], attributes := #[] }
def k7m1 : Method := { name := "<init>", desc := "([C)V", sig := { parameters := [(.array .char)], returnType := none }, accessFlags := 1, code := some k7c1 }
def k7c2 : Code := { maxStack := 2, maxLocals := 1, code := jdk_42_method_54_code, exceptionTable := #[], attributes := #[] }
def k7m2 : Method := { name := "length", desc := "()I", sig := { parameters := [], returnType := some .int }, accessFlags := 1, code := some k7c2 }
def k7c3 : Code := { maxStack := 2, maxLocals := 2, code := jdk_42_method_56_code, exceptionTable := #[], attributes := #[] }
def k7m3 : Method := { name := "charAt", desc := "(I)C", sig := { parameters := [.int], returnType := some .char }, accessFlags := 1, code := some k7c3 }
def k7c4 : Code := { maxStack := 4, maxLocals := 6, code := jdk_42_method_149_code, exceptionTable := #[], attributes := #[] }
def k7m4 : Method := { name := "<init>", desc := "([CIILjava/lang/Void;)V", sig := { parameters := [(.array .char), .int, .int, (.object "java/lang/Void")], returnType := none }, accessFlags := 2, code := some k7c4 }
def k7c5 : Code := { maxStack := 1, maxLocals := 1, code := jdk_42_method_152_code, exceptionTable := #[], attributes := #[] }
def k7m5 : Method := { name := "coder", desc := "()B", sig := { parameters := [], returnType := some .byte }, accessFlags := 0, code := some k7c5 }
def k7c6 : Code := { maxStack := 1, maxLocals := 1, code := jdk_42_method_154_code, exceptionTable := #[], attributes := #[] }
def k7m6 : Method := { name := "isLatin1", desc := "()Z", sig := { parameters := [], returnType := some .boolean }, accessFlags := 0, code := some k7c6 }
def k7c7 : Code := { maxStack := 3, maxLocals := 2, code := jdk_42_method_155_code, exceptionTable := #[], attributes := #[] }
def k7m7 : Method := { name := "checkIndex", desc := "(II)V", sig := { parameters := [.int, .int], returnType := none }, accessFlags := 8, code := some k7c7 }
/-- java/lang/String -/
def k7 : Class := { plain "java/lang/String" (some 0) with
  accessFlags := 49
  interfaces := #[2, 3, 4, 5, 6]
  cf := some (fileOf pool7 10 #[.nestMembers #[1103]] #[{ accessFlags := 1, nameIndex := 5, descriptorIndex := 6, attributes := #[] }, { accessFlags := 1, nameIndex := 5, descriptorIndex := 1010, attributes := #[] }, { accessFlags := 1, nameIndex := 507, descriptorIndex := 334, attributes := #[] }, { accessFlags := 1, nameIndex := 497, descriptorIndex := 427, attributes := #[] }, { accessFlags := 2, nameIndex := 5, descriptorIndex := 29, attributes := #[] }, { accessFlags := 0, nameIndex := 17, descriptorIndex := 337, attributes := #[] }, { accessFlags := 0, nameIndex := 494, descriptorIndex := 142, attributes := #[] }, { accessFlags := 8, nameIndex := 501, descriptorIndex := 391, attributes := #[] }] 49 2 #[1106, 1108, 575, 1110, 1112] #[{ accessFlags := 18, nameIndex := 13, descriptorIndex := 14, attributes := #[] }, { accessFlags := 18, nameIndex := 17, descriptorIndex := 18, attributes := #[] }, { accessFlags := 2, nameIndex := 21, descriptorIndex := 22, attributes := #[] }, { accessFlags := 2, nameIndex := 25, descriptorIndex := 26, attributes := #[] }, { accessFlags := 26, nameIndex := 1116, descriptorIndex := 1117, attributes := #[] }, { accessFlags := 24, nameIndex := 40, descriptorIndex := 26, attributes := #[] }, { accessFlags := 26, nameIndex := 1101, descriptorIndex := 1102, attributes := #[] }, { accessFlags := 26, nameIndex := 1121, descriptorIndex := 1122, attributes := #[] }, { accessFlags := 25, nameIndex := 599, descriptorIndex := 600, attributes := #[] }, { accessFlags := 24, nameIndex := 1125, descriptorIndex := 18, attributes := #[] }, { accessFlags := 24, nameIndex := 1127, descriptorIndex := 18, attributes := #[] }])
  fields := #[{ name := "value", type := (.array .byte), accessFlags := 18, slot := 0, constantValue := 0 }, { name := "coder", type := .byte, accessFlags := 18, slot := 1, constantValue := 0 }, { name := "hash", type := .int, accessFlags := 2, slot := 2, constantValue := 0 }, { name := "hashIsZero", type := .boolean, accessFlags := 2, slot := 3, constantValue := 0 }, { name := "serialVersionUID", type := .long, accessFlags := 26, slot := 0, constantValue := 0 }, { name := "COMPACT_STRINGS", type := .boolean, accessFlags := 24, slot := 1, constantValue := 0 }, { name := "serialPersistentFields", type := (.array (.object "java/io/ObjectStreamField")), accessFlags := 26, slot := 2, constantValue := 0 }, { name := "REPL", type := .char, accessFlags := 26, slot := 3, constantValue := 0 }, { name := "CASE_INSENSITIVE_ORDER", type := (.object "java/util/Comparator"), accessFlags := 25, slot := 4, constantValue := 0 }, { name := "LATIN1", type := .byte, accessFlags := 24, slot := 5, constantValue := 0 }, { name := "UTF16", type := .byte, accessFlags := 24, slot := 6, constantValue := 0 }]
  methods := #[k7m0, k7m1, k7m2, k7m3, k7m4, k7m5, k7m6, k7m7]
  instanceTypes := #[(.array .byte), .byte, .int, .boolean]
  staticTypes := #[.long, .boolean, (.array (.object "java/io/ObjectStreamField")), .char, (.object "java/util/Comparator"), .byte, .byte]
  resolved := Array.replicate 1451 none
  statics := some 0 }

def pool8 : Array CpInfo := pool [(6, .class_ 8), (1, u "java/lang/Object"), (0, u "<init>"), (0, u "()V"), (1, .class_ 14), (1, u "java/lang/StringUTF16"), (31, u "$assertionsDisabled"), (0, u "Z"), (13, u "HI_BYTE_SHIFT"), (0, u "I"), (2, u "LO_BYTE_SHIFT"), (49, .methodref 12 116), (0, .nameAndType 117 118), (0, u "compress"), (0, u "([CI[BII)I"), (3, u "([CII)[B"), (138, u "coderFromArrayLen"), (0, u "([BI)B"), (106, .class_ 371), (1, u "java/lang/StringUTF16$LinesSpliterator"), (58, u "MAX_LENGTH"), (196, .class_ 628), (0, u "java/lang/StringUTF16$CodePointsSpliterator"), (0, .class_ 630), (0, u "java/lang/StringUTF16$CharsSpliterator")] 4

def k8m0 : Method := { name := "<init>", desc := "()V", sig := { parameters := [], returnType := none }, accessFlags := 0, code := none }
def k8c1 : Code := { maxStack := 2, maxLocals := 2, code := jdk_52_method_15_code, exceptionTable := #[], attributes := #[] }
def k8m1 : Method := { name := "coderFromArrayLen", desc := "([BI)B", sig := { parameters := [(.array .byte), .int], returnType := some .byte }, accessFlags := 8, code := some k8c1 }
def k8c2 : Code := { maxStack := 5, maxLocals := 6, code := jdk_52_method_16_code, exceptionTable := #[], attributes := #[] }
def k8m2 : Method := { name := "compress", desc := "([CII)[B", sig := { parameters := [(.array .char), .int, .int], returnType := some (.array .byte) }, accessFlags := 9, code := some k8c2 }
def k8c3 : Code := { maxStack := 3, maxLocals := 7, code := jdk_52_method_21_code, exceptionTable := #[], attributes := #[] }
def k8m3 : Method := { name := "compress", desc := "([CI[BII)I", sig := { parameters := [(.array .char), .int, (.array .byte), .int, .int], returnType := some .int }, accessFlags := 9, code := some k8c3 }
/-- java/lang/StringUTF16 -/
def k8 : Class := { plain "java/lang/StringUTF16" (some 0) with
  accessFlags := 48
  interfaces := #[]
  cf := some (fileOf pool8 12 #[.nestMembers #[627, 629, 369]] #[{ accessFlags := 0, nameIndex := 9, descriptorIndex := 10, attributes := #[] }, { accessFlags := 8, nameIndex := 261, descriptorIndex := 262, attributes := #[] }, { accessFlags := 9, nameIndex := 117, descriptorIndex := 122, attributes := #[] }, { accessFlags := 9, nameIndex := 117, descriptorIndex := 118, attributes := #[] }] 48 6 #[] #[{ accessFlags := 26, nameIndex := 61, descriptorIndex := 62, attributes := #[] }, { accessFlags := 26, nameIndex := 65, descriptorIndex := 62, attributes := #[] }, { accessFlags := 24, nameIndex := 430, descriptorIndex := 62, attributes := #[] }, { accessFlags := 4120, nameIndex := 46, descriptorIndex := 47, attributes := #[] }])
  fields := #[{ name := "HI_BYTE_SHIFT", type := .int, accessFlags := 26, slot := 0, constantValue := 0 }, { name := "LO_BYTE_SHIFT", type := .int, accessFlags := 26, slot := 1, constantValue := 0 }, { name := "MAX_LENGTH", type := .int, accessFlags := 24, slot := 2, constantValue := 0 }, { name := "$assertionsDisabled", type := .boolean, accessFlags := 4120, slot := 3, constantValue := 0 }]
  methods := #[k8m0, k8m1, k8m2, k8m3]
  instanceTypes := #[]
  staticTypes := #[.int, .int, .int, .boolean]
  resolved := Array.replicate 635 none
  statics := none }

def pool9 : Array CpInfo := pool [(2, .class_ 4), (1, u "java/lang/Object"), (0, u "<init>"), (0, u "()V"), (0, .string 8), (0, u "text"), (0, .methodref 10 11), (0, .class_ 12), (0, .nameAndType 13 14), (0, u "java/util/Objects"), (0, u "requireNonNull"), (0, u "(Ljava/lang/Object;Ljava/lang/String;)Ljava/lang/Object;"), (0, .methodref 16 17), (0, .class_ 18), (0, .nameAndType 19 20), (0, u "java/lang/String"), (0, u "length"), (0, u "()I"), (0, .class_ 22), (0, u "com/example/nonce/nonce/id/UuidText"), (23, .methodref 16 47), (0, .nameAndType 48 49), (0, u "charAt"), (0, u "(I)C"), (8, .methodref 21 59), (0, .nameAndType 60 61), (0, u "isHexDigit"), (0, u "(C)Z"), (2, .methodref 65 66), (0, .class_ 67), (0, .nameAndType 68 69), (0, u "java/util/UUID"), (0, u "fromString"), (0, u "(Ljava/lang/String;)Ljava/util/UUID;"), (11, u "parse"), (27, u "LENGTH"), (0, u "I"), (2, u "RFC_VARIANT"), (1, u "MAX_VERSION")] 27

def k9m0 : Method := { name := "<init>", desc := "()V", sig := { parameters := [], returnType := none }, accessFlags := 2, code := none }
def k9c1 : Code := { maxStack := 8, maxLocals := 4, code := prog_12_method_2_code, exceptionTable := #[], attributes := #[] }
def k9m1 : Method := { name := "parse", desc := "(Ljava/lang/String;)Ljava/util/UUID;", sig := { parameters := [(.object "java/lang/String")], returnType := some (.object "java/util/UUID") }, accessFlags := 9, code := some k9c1 }
def k9c2 : Code := { maxStack := 2, maxLocals := 1, code := prog_12_method_5_code, exceptionTable := #[], attributes := #[] }
def k9m2 : Method := { name := "isHexDigit", desc := "(C)Z", sig := { parameters := [.char], returnType := some .boolean }, accessFlags := 10, code := some k9c2 }
/-- com/example/nonce/nonce/id/UuidText -/
def k9 : Class := { plain "com/example/nonce/nonce/id/UuidText" (some 0) with
  accessFlags := 33
  interfaces := #[]
  cf := some (fileOf pool9 21 #[] #[{ accessFlags := 2, nameIndex := 5, descriptorIndex := 6, attributes := #[] }, { accessFlags := 9, nameIndex := 81, descriptorIndex := 69, attributes := #[] }, { accessFlags := 10, nameIndex := 60, descriptorIndex := 61, attributes := #[] }] 33 2 #[] #[{ accessFlags := 26, nameIndex := 109, descriptorIndex := 110, attributes := #[] }, { accessFlags := 26, nameIndex := 113, descriptorIndex := 110, attributes := #[] }, { accessFlags := 26, nameIndex := 115, descriptorIndex := 110, attributes := #[] }])
  fields := #[{ name := "LENGTH", type := .int, accessFlags := 26, slot := 0, constantValue := 0 }, { name := "RFC_VARIANT", type := .int, accessFlags := 26, slot := 1, constantValue := 0 }, { name := "MAX_VERSION", type := .int, accessFlags := 26, slot := 2, constantValue := 0 }]
  methods := #[k9m0, k9m1, k9m2]
  instanceTypes := #[]
  staticTypes := #[.int, .int, .int]
  resolved := Array.replicate 143 none
  statics := none }

def pool10 : Array CpInfo := pool [(2, .class_ 4), (1, u "java/lang/Object"), (0, u "<init>"), (0, u "()V"), (35, .class_ 44), (1, u "java/util/Objects"), (0, u "requireNonNull"), (48, u "(Ljava/lang/Object;Ljava/lang/String;)Ljava/lang/Object;")] 89

def k10m0 : Method := { name := "<init>", desc := "()V", sig := { parameters := [], returnType := none }, accessFlags := 2, code := none }
def k10c1 : Code := { maxStack := 3, maxLocals := 2, code := jdk_31_method_11_code, exceptionTable := #[], attributes := #[] }
def k10m1 : Method := { name := "requireNonNull", desc := "(Ljava/lang/Object;Ljava/lang/String;)Ljava/lang/Object;", sig := { parameters := [(.object "java/lang/Object"), (.object "java/lang/String")], returnType := some (.object "java/lang/Object") }, accessFlags := 9, code := some k10c1 }
/-- java/util/Objects -/
def k10 : Class := { plain "java/util/Objects" (some 0) with
  accessFlags := 49
  interfaces := #[]
  cf := some (fileOf pool10 42 #[] #[{ accessFlags := 2, nameIndex := 5, descriptorIndex := 6, attributes := #[] }, { accessFlags := 9, nameIndex := 45, descriptorIndex := 94, attributes := #[] }] 49 2 #[] #[])
  fields := #[]
  methods := #[k10m0, k10m1]
  instanceTypes := #[]
  staticTypes := #[]
  resolved := Array.replicate 184 none
  statics := none }

def pool11 : Array CpInfo := pool [(1, .class_ 2), (0, u "java/lang/String"), (1, .class_ 6), (1, u "java/lang/Object"), (0, u "<init>"), (0, u "()V"), (0, .methodref 1 10), (0, .nameAndType 11 12), (0, u "checkIndex"), (0, u "(II)V"), (1, .class_ 16), (1, u "java/lang/StringLatin1"), (36, u "([BI)C"), (67, u "$assertionsDisabled"), (0, u "Z"), (98, .class_ 223), (1, u "java/lang/StringLatin1$LinesSpliterator"), (28, u "charAt"), (137, .class_ 391), (0, u "java/lang/StringLatin1$CharsSpliterator")] 3

def k11m0 : Method := { name := "<init>", desc := "()V", sig := { parameters := [], returnType := none }, accessFlags := 0, code := none }
def k11c1 : Code := { maxStack := 2, maxLocals := 2, code := jdk_43_method_2_code, exceptionTable := #[], attributes := #[] }
def k11m1 : Method := { name := "charAt", desc := "([BI)C", sig := { parameters := [(.array .byte), .int], returnType := some .char }, accessFlags := 9, code := some k11c1 }
/-- java/lang/StringLatin1 -/
def k11 : Class := { plain "java/lang/StringLatin1" (some 0) with
  accessFlags := 48
  interfaces := #[]
  cf := some (fileOf pool11 14 #[.nestMembers #[390, 221]] #[{ accessFlags := 0, nameIndex := 7, descriptorIndex := 8, attributes := #[] }, { accessFlags := 9, nameIndex := 252, descriptorIndex := 53, attributes := #[] }] 48 4 #[] #[{ accessFlags := 4120, nameIndex := 121, descriptorIndex := 122, attributes := #[] }])
  fields := #[{ name := "$assertionsDisabled", type := .boolean, accessFlags := 4120, slot := 0, constantValue := 0 }]
  methods := #[k11m0, k11m1]
  instanceTypes := #[]
  staticTypes := #[.boolean]
  resolved := Array.replicate 395 none
  statics := none }

def pool12 : Array CpInfo := pool [(2, .class_ 4), (1, u "java/lang/Object"), (0, u "<init>"), (0, u "()V"), (17, .class_ 26), (1, u "jdk/internal/util/Preconditions"), (6, u "checkIndex"), (21, .class_ 56), (0, u "jdk/internal/util/Preconditions$4"), (57, .class_ 115), (0, u "jdk/internal/util/Preconditions$1"), (7, u "SIOOBE_FORMATTER"), (0, u "Ljava/util/function/BiFunction;"), (0, .class_ 126), (0, u "jdk/internal/util/Preconditions$2"), (3, u "AIOOBE_FORMATTER"), (0, .class_ 132), (0, u "jdk/internal/util/Preconditions$3"), (3, u "IOOBE_FORMATTER"), (41, u "(IILjava/util/function/BiFunction;)I")] 15

def k12m0 : Method := { name := "<init>", desc := "()V", sig := { parameters := [], returnType := none }, accessFlags := 1, code := none }
def k12c1 : Code := { maxStack := 3, maxLocals := 3, code := jdk_41_method_11_code, exceptionTable := #[], attributes := #[] }
def k12m1 : Method := { name := "checkIndex", desc := "(IILjava/util/function/BiFunction;)I", sig := { parameters := [.int, .int, (.object "java/util/function/BiFunction")], returnType := some .int }, accessFlags := 9, code := some k12c1 }
/-- jdk/internal/util/Preconditions -/
def k12 : Class := { plain "jdk/internal/util/Preconditions" (some 0) with
  accessFlags := 33
  interfaces := #[]
  cf := some (fileOf pool12 24 #[.nestMembers #[55, 131, 125, 114]] #[{ accessFlags := 1, nameIndex := 5, descriptorIndex := 6, attributes := #[] }, { accessFlags := 9, nameIndex := 33, descriptorIndex := 178, attributes := #[] }] 33 2 #[] #[{ accessFlags := 25, nameIndex := 123, descriptorIndex := 124, attributes := #[] }, { accessFlags := 25, nameIndex := 130, descriptorIndex := 124, attributes := #[] }, { accessFlags := 25, nameIndex := 136, descriptorIndex := 124, attributes := #[] }])
  fields := #[{ name := "SIOOBE_FORMATTER", type := (.object "java/util/function/BiFunction"), accessFlags := 25, slot := 0, constantValue := 0 }, { name := "AIOOBE_FORMATTER", type := (.object "java/util/function/BiFunction"), accessFlags := 25, slot := 1, constantValue := 0 }, { name := "IOOBE_FORMATTER", type := (.object "java/util/function/BiFunction"), accessFlags := 25, slot := 2, constantValue := 0 }]
  methods := #[k12m0, k12m1]
  instanceTypes := #[]
  staticTypes := #[(.object "java/util/function/BiFunction"), (.object "java/util/function/BiFunction"), (.object "java/util/function/BiFunction")]
  resolved := Array.replicate 194 none
  statics := some 1 }

def pool13 : Array CpInfo := pool [(1, .methodref 2 3), (0, .class_ 4), (0, .nameAndType 5 6), (0, u "java/lang/Object"), (0, u "<init>"), (0, u "()V"), (1, .class_ 10), (1, u "java/util/UUID"), (0, u "$assertionsDisabled"), (0, u "Z"), (7, .fieldref 8 21), (0, .nameAndType 22 23), (0, u "mostSigBits"), (0, u "J"), (0, .fieldref 8 25), (0, .nameAndType 26 23), (0, u "leastSigBits"), (1, .class_ 30), (1, u "java/util/UUID$Holder"), (31, .fieldref 8 63), (0, .nameAndType 64 65), (0, u "NIBBLES"), (0, u "[B"), (0, .methodref 67 68), (0, .class_ 69), (0, .nameAndType 70 71), (0, u "java/lang/String"), (0, u "charAt"), (0, u "(I)C"), (2, .methodref 67 75), (0, .nameAndType 76 77), (0, u "length"), (0, u "()I"), (0, .methodref 8 79), (0, .nameAndType 80 81), (0, u "parse4Nibbles"), (0, u "(Ljava/lang/String;I)J"), (0, .methodref 8 83), (0, .nameAndType 5 84), (0, u "(JJ)V"), (3, u "(Ljava/lang/String;)Ljava/util/UUID;"), (57, u "jla"), (0, u "Ljdk/internal/access/JavaLangAccess;"), (40, .class_ 189), (0, u "java/io/Serializable"), (0, .class_ 191), (0, u "java/lang/Comparable"), (0, u "serialVersionUID"), (35, u "fromString"), (14, u "getLeastSignificantBits"), (0, u "()J"), (0, u "getMostSignificantBits")] 20

def k13c0 : Code := { maxStack := 3, maxLocals := 5, code := jdk_2758_method_2_code, exceptionTable := #[], attributes := #[] }
def k13m0 : Method := { name := "<init>", desc := "(JJ)V", sig := { parameters := [.long, .long], returnType := none }, accessFlags := 1, code := some k13c0 }
def k13c1 : Code := { maxStack := 3, maxLocals := 7, code := jdk_2758_method_5_code, exceptionTable := #[], attributes := #[] }
def k13m1 : Method := { name := "parse4Nibbles", desc := "(Ljava/lang/String;I)J", sig := { parameters := [(.object "java/lang/String"), .int], returnType := some .long }, accessFlags := 10, code := some k13c1 }
def k13c2 : Code := { maxStack := 9, maxLocals := 21, code := jdk_2758_method_6_code, exceptionTable := #[], attributes := #[] }
def k13m2 : Method := { name := "fromString", desc := "(Ljava/lang/String;)Ljava/util/UUID;", sig := { parameters := [(.object "java/lang/String")], returnType := some (.object "java/util/UUID") }, accessFlags := 9, code := some k13c2 }
def k13c3 : Code := { maxStack := 2, maxLocals := 1, code := jdk_2758_method_8_code, exceptionTable := #[], attributes := #[] }
def k13m3 : Method := { name := "getLeastSignificantBits", desc := "()J", sig := { parameters := [], returnType := some .long }, accessFlags := 1, code := some k13c3 }
def k13c4 : Code := { maxStack := 2, maxLocals := 1, code := jdk_2758_method_9_code, exceptionTable := #[], attributes := #[] }
def k13m4 : Method := { name := "getMostSignificantBits", desc := "()J", sig := { parameters := [], returnType := some .long }, accessFlags := 1, code := some k13c4 }
/-- java/util/UUID -/
def k13 : Class := { plain "java/util/UUID" (some 0) with
  accessFlags := 49
  interfaces := #[2, 3]
  cf := some (fileOf pool13 8 #[.nestMembers #[28]] #[{ accessFlags := 1, nameIndex := 5, descriptorIndex := 84, attributes := #[] }, { accessFlags := 10, nameIndex := 80, descriptorIndex := 81, attributes := #[] }, { accessFlags := 9, nameIndex := 228, descriptorIndex := 88, attributes := #[] }, { accessFlags := 1, nameIndex := 243, descriptorIndex := 244, attributes := #[] }, { accessFlags := 1, nameIndex := 245, descriptorIndex := 244, attributes := #[] }] 49 2 #[188, 190] #[{ accessFlags := 26, nameIndex := 192, descriptorIndex := 23, attributes := #[] }, { accessFlags := 18, nameIndex := 22, descriptorIndex := 23, attributes := #[] }, { accessFlags := 18, nameIndex := 26, descriptorIndex := 23, attributes := #[] }, { accessFlags := 26, nameIndex := 146, descriptorIndex := 147, attributes := #[] }, { accessFlags := 26, nameIndex := 64, descriptorIndex := 65, attributes := #[] }, { accessFlags := 4120, nameIndex := 11, descriptorIndex := 12, attributes := #[] }])
  fields := #[{ name := "serialVersionUID", type := .long, accessFlags := 26, slot := 0, constantValue := 0 }, { name := "mostSigBits", type := .long, accessFlags := 18, slot := 0, constantValue := 0 }, { name := "leastSigBits", type := .long, accessFlags := 18, slot := 1, constantValue := 0 }, { name := "jla", type := (.object "jdk/internal/access/JavaLangAccess"), accessFlags := 26, slot := 1, constantValue := 0 }, { name := "NIBBLES", type := (.array .byte), accessFlags := 26, slot := 2, constantValue := 0 }, { name := "$assertionsDisabled", type := .boolean, accessFlags := 4120, slot := 3, constantValue := 0 }]
  methods := #[k13m0, k13m1, k13m2, k13m3, k13m4]
  instanceTypes := #[.long, .long]
  staticTypes := #[.long, (.object "jdk/internal/access/JavaLangAccess"), (.array .byte), .boolean]
  resolved := Array.replicate 266 none
  statics := some 2 }

def pool14 : Array CpInfo := pool [(1, u "java/lang/Cloneable"), (0, .class_ 1), (0, u "java/lang/Object"), (0, .class_ 3)] 3

/-- java/lang/Cloneable -/
def k14 : Class := { plain "java/lang/Cloneable" (some 0) with
  accessFlags := 1537
  interfaces := #[]
  cf := some (fileOf pool14 2 #[] #[] 1537 4 #[] #[])
  fields := #[]
  methods := #[]
  instanceTypes := #[]
  staticTypes := #[]
  resolved := Array.replicate 8 none
  statics := none }

/-- the primitive byte -/
def k15 : Class := { plain "byte" none with kind := .primitive 'B', accessFlags := 0x411 }
/-- [B -/
def k16 : Class := { plain "[B" (some 0) with kind := .array 15 .byte, interfaces := #[14, 2], accessFlags := 1041 }

/-- the primitive char -/
def k17 : Class := { plain "char" none with kind := .primitive 'C', accessFlags := 0x411 }
/-- [C -/
def k18 : Class := { plain "[C" (some 0) with kind := .array 17 .char, interfaces := #[14, 2], accessFlags := 1041 }

/-- the primitive int -/
def k19 : Class := { plain "int" none with kind := .primitive 'I', accessFlags := 0x411 }
/-- [I -/
def k20 : Class := { plain "[I" (some 0) with kind := .array 19 .int, interfaces := #[14, 2], accessFlags := 1041 }

def k21 : Class := plain "jdk/internal/util/ArraysSupport" (some 0)
def heap : Heap := #[{ cls := 7, slots := #[.long 0, .int 1, .null, .int 0, .null, .int 0, .int 0], vm := .statics 7 },
  { cls := 12, slots := #[.null, .null, .null], vm := .statics 12 },
  { cls := 13, slots := #[.long 0, .null, .ref 3, .int 0], vm := .statics 13 },
  { cls := 16, slots := #[.int (-1), .int (-1), .int (-1), .int (-1), .int (-1), .int (-1), .int (-1), .int (-1), .int (-1), .int (-1), .int (-1), .int (-1), .int (-1), .int (-1), .int (-1), .int (-1), .int (-1), .int (-1), .int (-1), .int (-1), .int (-1), .int (-1), .int (-1), .int (-1), .int (-1), .int (-1), .int (-1), .int (-1), .int (-1), .int (-1), .int (-1), .int (-1), .int (-1), .int (-1), .int (-1), .int (-1), .int (-1), .int (-1), .int (-1), .int (-1), .int (-1), .int (-1), .int (-1), .int (-1), .int (-1), .int (-1), .int (-1), .int (-1), .int 0, .int 1, .int 2, .int 3, .int 4, .int 5, .int 6, .int 7, .int 8, .int 9, .int (-1), .int (-1), .int (-1), .int (-1), .int (-1), .int (-1), .int (-1), .int 10, .int 11, .int 12, .int 13, .int 14, .int 15, .int (-1), .int (-1), .int (-1), .int (-1), .int (-1), .int (-1), .int (-1), .int (-1), .int (-1), .int (-1), .int (-1), .int (-1), .int (-1), .int (-1), .int (-1), .int (-1), .int (-1), .int (-1), .int (-1), .int (-1), .int (-1), .int (-1), .int (-1), .int (-1), .int (-1), .int (-1), .int 10, .int 11, .int 12, .int 13, .int 14, .int 15, .int (-1), .int (-1), .int (-1), .int (-1), .int (-1), .int (-1), .int (-1), .int (-1), .int (-1), .int (-1), .int (-1), .int (-1), .int (-1), .int (-1), .int (-1), .int (-1), .int (-1), .int (-1), .int (-1), .int (-1), .int (-1), .int (-1), .int (-1), .int (-1), .int (-1), .int (-1), .int (-1), .int (-1), .int (-1), .int (-1), .int (-1), .int (-1), .int (-1), .int (-1), .int (-1), .int (-1), .int (-1), .int (-1), .int (-1), .int (-1), .int (-1), .int (-1), .int (-1), .int (-1), .int (-1), .int (-1), .int (-1), .int (-1), .int (-1), .int (-1), .int (-1), .int (-1), .int (-1), .int (-1), .int (-1), .int (-1), .int (-1), .int (-1), .int (-1), .int (-1), .int (-1), .int (-1), .int (-1), .int (-1), .int (-1), .int (-1), .int (-1), .int (-1), .int (-1), .int (-1), .int (-1), .int (-1), .int (-1), .int (-1), .int (-1), .int (-1), .int (-1), .int (-1), .int (-1), .int (-1), .int (-1), .int (-1), .int (-1), .int (-1), .int (-1), .int (-1), .int (-1), .int (-1), .int (-1), .int (-1), .int (-1), .int (-1), .int (-1), .int (-1), .int (-1), .int (-1), .int (-1), .int (-1), .int (-1), .int (-1), .int (-1), .int (-1), .int (-1), .int (-1), .int (-1), .int (-1), .int (-1), .int (-1), .int (-1), .int (-1), .int (-1), .int (-1), .int (-1), .int (-1), .int (-1), .int (-1), .int (-1), .int (-1), .int (-1), .int (-1), .int (-1), .int (-1), .int (-1), .int (-1), .int (-1), .int (-1), .int (-1), .int (-1), .int (-1), .int (-1), .int (-1), .int (-1), .int (-1), .int (-1), .int (-1), .int (-1), .int (-1), .int (-1), .int (-1), .int (-1), .int (-1), .int (-1), .int (-1), .int (-1), .int (-1), .int (-1), .int (-1), .int (-1), .int (-1), .int (-1), .int (-1), .int (-1), .int (-1)], vm := .none }]
def classes : Array Class := #[k0, k1, k2, k3, k4, k5, k6, k7, k8, k9, k10, k11, k12, k13, k14, k15, k16, k17, k18, k19, k20, k21]
def interned : List (Array UInt16 × Addr) := []
def slotsUsed : Nat := 270
def theMethod : MethodId := ⟨1, 2⟩
def args0 : Array Value := #[.long 5, .long 7, .int 3]
def aboutOver (below : List Frame) : State where
  vm := { classes := classes, interned := interned.toArray }
  heap := heap
  slotsUsed := slotsUsed
  threads := #[{ frames := .invoking theMethod args0 :: below }]
def below0 : List Frame := [.native { method := ⟨0, 0⟩, args := #[] }]
def about1 : State := aboutOver below0
def p0 : Program := .bare "" "" ""
def e0 : Env := launch0.env 0 0 0
theorem w_frames : about1.frames = Frame.invoking theMethod args0 :: below0 := rfl
set_option maxRecDepth 65536 in
theorem w_args : argsFit about1.vm theMethod args0 = true := by decide +kernel
set_option maxRecDepth 65536 in
theorem w_heap : heapFits about1 = true := by decide +kernel
set_option maxRecDepth 65536 in
theorem w_runnable : about1.curStatus? = some .runnable := by decide +kernel
set_option maxRecDepth 65536 in
theorem w_alone : about1.alone = true := by decide +kernel
set_option maxRecDepth 65536 in
theorem w_named : about1.methodNamed? x = some theMethod := by decide +kernel
set_option maxRecDepth 65536 in
theorem w_hears : about1.hears theMethod below0 = true := by decide +kernel
set_option maxRecDepth 65536 in
theorem w_ripe : about1.ripe theMethod args0 below0 = true := by decide +kernel
theorem w_running : about1.status = .running := rfl
set_option maxRecDepth 65536 in
theorem w_room : about1.hasRoom e0.platform room_1 = true :=
  launch0.hasRoom_least _ room_1 (by decide +kernel) (by decide +kernel) (by decide +kernel) (by decide +kernel) (by decide +kernel) (by decide +kernel)
theorem allAtoms_all (ts : List Jvm.Cond) (a : Array Jvm.Value) (st : Jvm.State) : (allAtoms ts).before a st = ts.all (fun c => c.before a st) := by
  induction ts with
  | nil => rfl
  | cons c t ih =>
    show (Jvm.Cond.and c (allAtoms t)).before a st = _
    rw [Jvm.Cond.before_and, ih, List.all_cons]
def words1 : List Jvm.Cond := Jvm.Cond.code x code maxLocals ret :: tables_1
/-- a 'code' word, met by the world's own term for the bytes: nothing is compared byte by byte -/
theorem code_word {y : MethodName} {bytes : ByteArray} {mx : Nat} {rt : Option FieldType} {a : Array Value} {s : State} {m : MethodId} {meth : Method} {c : Code} (h1 : s.methodNamed? y = some m) (h2 : s.vm.method? m = some meth) (h3 : meth.code = some c) (h4 : c.code = bytes)
    (h5 : (c.maxLocals == mx && c.exceptionTable.isEmpty && decide (c.maxStack ≤ mostOperands) && decide (meth.sig.returnType = rt) && !meth.locks && decide (parseMethodDescriptor y.desc = some meth.sig)) = true) : (Jvm.Cond.code y bytes mx rt).before a s = true := by
  simp only [Bool.and_eq_true, beq_iff_eq, Bool.not_eq_true', decide_eq_true_eq] at h5
  obtain ⟨⟨⟨⟨⟨g1, g2⟩, g3⟩, g4⟩, g5⟩, g6⟩ := h5
  simp [Cond.before, Cond.holds, Cond.value, h1, h2, h3, h4, g1, g2, g3, g4, g5, g6]
def isCode : Jvm.Cond → Bool
  | .code _ _ _ _ => true
  | _ => false
theorem all_split {L : List Jvm.Cond} {P : Jvm.Cond → Bool} (h1 : L.all (fun c => isCode c || P c) = true) (h2 : ∀ c ∈ L.filter isCode, P c = true) : L.all P = true := by
  refine List.all_eq_true.mpr fun c hc => ?_
  have h := List.all_eq_true.mp h1 c hc
  rcases Bool.eq_false_or_eq_true (isCode c) with hi | hi
  · exact h2 c (List.mem_filter.mpr ⟨hc, hi⟩)
  · simpa [hi] using h
set_option maxRecDepth 65536 in
theorem w_c0 : (Jvm.Cond.code x code maxLocals ret).before args0 about1 = true := code_word (m := ⟨1, 2⟩) (meth := k1m2) (c := k1c2) (by decide +kernel) rfl rfl rfl (by decide +kernel)
set_option maxRecDepth 65536 in
theorem w_c1 : (Jvm.Cond.code ({ cls := "com/example/nonce/nonce/id/UuidTextParsePinLaw", name := "hex", desc := "(JIII)C" } : Jvm.MethodName) method_2_code (7 : Nat) (Option.some Jvm.ClassFile.FieldType.char)).before args0 about1 = true := code_word (m := ⟨1, 1⟩) (meth := k1m1) (c := k1c1) (by decide +kernel) rfl rfl rfl (by decide +kernel)
set_option maxRecDepth 65536 in
theorem w_c2 : (Jvm.Cond.code ({ cls := "java/lang/String", name := "<init>", desc := "([C)V" } : Jvm.MethodName) jdk_42_method_3_code (2 : Nat) (Option.none : Option Jvm.ClassFile.FieldType)).before args0 about1 = true := code_word (m := ⟨7, 1⟩) (meth := k7m1) (c := k7c1) (by decide +kernel) rfl rfl rfl (by decide +kernel)
set_option maxRecDepth 65536 in
theorem w_c3 : (Jvm.Cond.code ({ cls := "java/lang/String", name := "<init>", desc := "([CIILjava/lang/Void;)V" } : Jvm.MethodName) jdk_42_method_149_code (6 : Nat) (Option.none : Option Jvm.ClassFile.FieldType)).before args0 about1 = true := code_word (m := ⟨7, 4⟩) (meth := k7m4) (c := k7c4) (by decide +kernel) rfl rfl rfl (by decide +kernel)
set_option maxRecDepth 65536 in
theorem w_c4 : (Jvm.Cond.code ({ cls := "java/lang/Object", name := "<init>", desc := "()V" } : Jvm.MethodName) object_method_1_code (1 : Nat) (Option.none : Option Jvm.ClassFile.FieldType)).before args0 about1 = true := code_word (m := ⟨0, 0⟩) (meth := k0m0) (c := k0c0) (by decide +kernel) rfl rfl rfl (by decide +kernel)
set_option maxRecDepth 65536 in
theorem w_c5 : (Jvm.Cond.code ({ cls := "java/lang/StringUTF16", name := "compress", desc := "([CII)[B" } : Jvm.MethodName) jdk_52_method_16_code (6 : Nat) (Option.some (Jvm.ClassFile.FieldType.array Jvm.ClassFile.FieldType.byte))).before args0 about1 = true := code_word (m := ⟨8, 2⟩) (meth := k8m2) (c := k8c2) (by decide +kernel) rfl rfl rfl (by decide +kernel)
set_option maxRecDepth 65536 in
theorem w_c6 : (Jvm.Cond.code ({ cls := "java/lang/StringUTF16", name := "compress", desc := "([CI[BII)I" } : Jvm.MethodName) jdk_52_method_21_code (7 : Nat) (Option.some Jvm.ClassFile.FieldType.int)).before args0 about1 = true := code_word (m := ⟨8, 3⟩) (meth := k8m3) (c := k8c3) (by decide +kernel) rfl rfl rfl (by decide +kernel)
set_option maxRecDepth 65536 in
theorem w_c7 : (Jvm.Cond.code ({ cls := "java/lang/StringUTF16", name := "coderFromArrayLen", desc := "([BI)B" } : Jvm.MethodName) jdk_52_method_15_code (2 : Nat) (Option.some Jvm.ClassFile.FieldType.byte)).before args0 about1 = true := code_word (m := ⟨8, 1⟩) (meth := k8m1) (c := k8c1) (by decide +kernel) rfl rfl rfl (by decide +kernel)
set_option maxRecDepth 65536 in
theorem w_c8 : (Jvm.Cond.code ({ cls := "com/example/nonce/nonce/id/UuidText", name := "parse", desc := "(Ljava/lang/String;)Ljava/util/UUID;" } : Jvm.MethodName) prog_12_method_2_code (4 : Nat) (Option.some (Jvm.ClassFile.FieldType.object "java/util/UUID"))).before args0 about1 = true := code_word (m := ⟨9, 1⟩) (meth := k9m1) (c := k9c1) (by decide +kernel) rfl rfl rfl (by decide +kernel)
set_option maxRecDepth 65536 in
theorem w_c9 : (Jvm.Cond.code ({ cls := "java/util/Objects", name := "requireNonNull", desc := "(Ljava/lang/Object;Ljava/lang/String;)Ljava/lang/Object;" } : Jvm.MethodName) jdk_31_method_11_code (2 : Nat) (Option.some (Jvm.ClassFile.FieldType.object "java/lang/Object"))).before args0 about1 = true := code_word (m := ⟨10, 1⟩) (meth := k10m1) (c := k10c1) (by decide +kernel) rfl rfl rfl (by decide +kernel)
set_option maxRecDepth 65536 in
theorem w_c10 : (Jvm.Cond.code ({ cls := "java/lang/String", name := "length", desc := "()I" } : Jvm.MethodName) jdk_42_method_54_code (1 : Nat) (Option.some Jvm.ClassFile.FieldType.int)).before args0 about1 = true := code_word (m := ⟨7, 2⟩) (meth := k7m2) (c := k7c2) (by decide +kernel) rfl rfl rfl (by decide +kernel)
set_option maxRecDepth 65536 in
theorem w_c11 : (Jvm.Cond.code ({ cls := "java/lang/String", name := "coder", desc := "()B" } : Jvm.MethodName) jdk_42_method_152_code (1 : Nat) (Option.some Jvm.ClassFile.FieldType.byte)).before args0 about1 = true := code_word (m := ⟨7, 5⟩) (meth := k7m5) (c := k7c5) (by decide +kernel) rfl rfl rfl (by decide +kernel)
set_option maxRecDepth 65536 in
theorem w_c12 : (Jvm.Cond.code ({ cls := "java/lang/String", name := "charAt", desc := "(I)C" } : Jvm.MethodName) jdk_42_method_56_code (2 : Nat) (Option.some Jvm.ClassFile.FieldType.char)).before args0 about1 = true := code_word (m := ⟨7, 3⟩) (meth := k7m3) (c := k7c3) (by decide +kernel) rfl rfl rfl (by decide +kernel)
set_option maxRecDepth 65536 in
theorem w_c13 : (Jvm.Cond.code ({ cls := "java/lang/String", name := "isLatin1", desc := "()Z" } : Jvm.MethodName) jdk_42_method_154_code (1 : Nat) (Option.some Jvm.ClassFile.FieldType.boolean)).before args0 about1 = true := code_word (m := ⟨7, 6⟩) (meth := k7m6) (c := k7c6) (by decide +kernel) rfl rfl rfl (by decide +kernel)
set_option maxRecDepth 65536 in
theorem w_c14 : (Jvm.Cond.code ({ cls := "java/lang/StringLatin1", name := "charAt", desc := "([BI)C" } : Jvm.MethodName) jdk_43_method_2_code (2 : Nat) (Option.some Jvm.ClassFile.FieldType.char)).before args0 about1 = true := code_word (m := ⟨11, 1⟩) (meth := k11m1) (c := k11c1) (by decide +kernel) rfl rfl rfl (by decide +kernel)
set_option maxRecDepth 65536 in
theorem w_c15 : (Jvm.Cond.code ({ cls := "java/lang/String", name := "checkIndex", desc := "(II)V" } : Jvm.MethodName) jdk_42_method_155_code (2 : Nat) (Option.none : Option Jvm.ClassFile.FieldType)).before args0 about1 = true := code_word (m := ⟨7, 7⟩) (meth := k7m7) (c := k7c7) (by decide +kernel) rfl rfl rfl (by decide +kernel)
set_option maxRecDepth 65536 in
theorem w_c16 : (Jvm.Cond.code ({ cls := "jdk/internal/util/Preconditions", name := "checkIndex", desc := "(IILjava/util/function/BiFunction;)I" } : Jvm.MethodName) jdk_41_method_11_code (3 : Nat) (Option.some Jvm.ClassFile.FieldType.int)).before args0 about1 = true := code_word (m := ⟨12, 1⟩) (meth := k12m1) (c := k12c1) (by decide +kernel) rfl rfl rfl (by decide +kernel)
set_option maxRecDepth 65536 in
theorem w_c17 : (Jvm.Cond.code ({ cls := "com/example/nonce/nonce/id/UuidText", name := "isHexDigit", desc := "(C)Z" } : Jvm.MethodName) prog_12_method_5_code (1 : Nat) (Option.some Jvm.ClassFile.FieldType.boolean)).before args0 about1 = true := code_word (m := ⟨9, 2⟩) (meth := k9m2) (c := k9c2) (by decide +kernel) rfl rfl rfl (by decide +kernel)
set_option maxRecDepth 65536 in
theorem w_c18 : (Jvm.Cond.code ({ cls := "java/util/UUID", name := "fromString", desc := "(Ljava/lang/String;)Ljava/util/UUID;" } : Jvm.MethodName) jdk_2758_method_6_code (21 : Nat) (Option.some (Jvm.ClassFile.FieldType.object "java/util/UUID"))).before args0 about1 = true := code_word (m := ⟨13, 2⟩) (meth := k13m2) (c := k13c2) (by decide +kernel) rfl rfl rfl (by decide +kernel)
set_option maxRecDepth 65536 in
theorem w_c19 : (Jvm.Cond.code ({ cls := "java/util/UUID", name := "parse4Nibbles", desc := "(Ljava/lang/String;I)J" } : Jvm.MethodName) jdk_2758_method_5_code (7 : Nat) (Option.some Jvm.ClassFile.FieldType.long)).before args0 about1 = true := code_word (m := ⟨13, 1⟩) (meth := k13m1) (c := k13c1) (by decide +kernel) rfl rfl rfl (by decide +kernel)
set_option maxRecDepth 65536 in
theorem w_c20 : (Jvm.Cond.code ({ cls := "java/util/UUID", name := "<init>", desc := "(JJ)V" } : Jvm.MethodName) jdk_2758_method_2_code (5 : Nat) (Option.none : Option Jvm.ClassFile.FieldType)).before args0 about1 = true := code_word (m := ⟨13, 0⟩) (meth := k13m0) (c := k13c0) (by decide +kernel) rfl rfl rfl (by decide +kernel)
set_option maxRecDepth 65536 in
theorem w_c21 : (Jvm.Cond.code ({ cls := "java/util/UUID", name := "getMostSignificantBits", desc := "()J" } : Jvm.MethodName) jdk_2758_method_9_code (1 : Nat) (Option.some Jvm.ClassFile.FieldType.long)).before args0 about1 = true := code_word (m := ⟨13, 4⟩) (meth := k13m4) (c := k13c4) (by decide +kernel) rfl rfl rfl (by decide +kernel)
set_option maxRecDepth 65536 in
theorem w_c22 : (Jvm.Cond.code ({ cls := "java/util/UUID", name := "getLeastSignificantBits", desc := "()J" } : Jvm.MethodName) jdk_2758_method_8_code (1 : Nat) (Option.some Jvm.ClassFile.FieldType.long)).before args0 about1 = true := code_word (m := ⟨13, 3⟩) (meth := k13m3) (c := k13c3) (by decide +kernel) rfl rfl rfl (by decide +kernel)
def codes1 : List Jvm.Cond := [Jvm.Cond.code x code maxLocals ret, Jvm.Cond.code ({ cls := "com/example/nonce/nonce/id/UuidTextParsePinLaw", name := "hex", desc := "(JIII)C" } : Jvm.MethodName) method_2_code (7 : Nat) (Option.some Jvm.ClassFile.FieldType.char), Jvm.Cond.code ({ cls := "java/lang/String", name := "<init>", desc := "([C)V" } : Jvm.MethodName) jdk_42_method_3_code (2 : Nat) (Option.none : Option Jvm.ClassFile.FieldType), Jvm.Cond.code ({ cls := "java/lang/String", name := "<init>", desc := "([CIILjava/lang/Void;)V" } : Jvm.MethodName) jdk_42_method_149_code (6 : Nat) (Option.none : Option Jvm.ClassFile.FieldType), Jvm.Cond.code ({ cls := "java/lang/Object", name := "<init>", desc := "()V" } : Jvm.MethodName) object_method_1_code (1 : Nat) (Option.none : Option Jvm.ClassFile.FieldType), Jvm.Cond.code ({ cls := "java/lang/StringUTF16", name := "compress", desc := "([CII)[B" } : Jvm.MethodName) jdk_52_method_16_code (6 : Nat) (Option.some (Jvm.ClassFile.FieldType.array Jvm.ClassFile.FieldType.byte)), Jvm.Cond.code ({ cls := "java/lang/StringUTF16", name := "compress", desc := "([CI[BII)I" } : Jvm.MethodName) jdk_52_method_21_code (7 : Nat) (Option.some Jvm.ClassFile.FieldType.int), Jvm.Cond.code ({ cls := "java/lang/StringUTF16", name := "coderFromArrayLen", desc := "([BI)B" } : Jvm.MethodName) jdk_52_method_15_code (2 : Nat) (Option.some Jvm.ClassFile.FieldType.byte), Jvm.Cond.code ({ cls := "com/example/nonce/nonce/id/UuidText", name := "parse", desc := "(Ljava/lang/String;)Ljava/util/UUID;" } : Jvm.MethodName) prog_12_method_2_code (4 : Nat) (Option.some (Jvm.ClassFile.FieldType.object "java/util/UUID")), Jvm.Cond.code ({ cls := "java/util/Objects", name := "requireNonNull", desc := "(Ljava/lang/Object;Ljava/lang/String;)Ljava/lang/Object;" } : Jvm.MethodName) jdk_31_method_11_code (2 : Nat) (Option.some (Jvm.ClassFile.FieldType.object "java/lang/Object")), Jvm.Cond.code ({ cls := "java/lang/String", name := "length", desc := "()I" } : Jvm.MethodName) jdk_42_method_54_code (1 : Nat) (Option.some Jvm.ClassFile.FieldType.int), Jvm.Cond.code ({ cls := "java/lang/String", name := "coder", desc := "()B" } : Jvm.MethodName) jdk_42_method_152_code (1 : Nat) (Option.some Jvm.ClassFile.FieldType.byte), Jvm.Cond.code ({ cls := "java/lang/String", name := "charAt", desc := "(I)C" } : Jvm.MethodName) jdk_42_method_56_code (2 : Nat) (Option.some Jvm.ClassFile.FieldType.char), Jvm.Cond.code ({ cls := "java/lang/String", name := "isLatin1", desc := "()Z" } : Jvm.MethodName) jdk_42_method_154_code (1 : Nat) (Option.some Jvm.ClassFile.FieldType.boolean), Jvm.Cond.code ({ cls := "java/lang/StringLatin1", name := "charAt", desc := "([BI)C" } : Jvm.MethodName) jdk_43_method_2_code (2 : Nat) (Option.some Jvm.ClassFile.FieldType.char), Jvm.Cond.code ({ cls := "java/lang/String", name := "checkIndex", desc := "(II)V" } : Jvm.MethodName) jdk_42_method_155_code (2 : Nat) (Option.none : Option Jvm.ClassFile.FieldType), Jvm.Cond.code ({ cls := "jdk/internal/util/Preconditions", name := "checkIndex", desc := "(IILjava/util/function/BiFunction;)I" } : Jvm.MethodName) jdk_41_method_11_code (3 : Nat) (Option.some Jvm.ClassFile.FieldType.int), Jvm.Cond.code ({ cls := "com/example/nonce/nonce/id/UuidText", name := "isHexDigit", desc := "(C)Z" } : Jvm.MethodName) prog_12_method_5_code (1 : Nat) (Option.some Jvm.ClassFile.FieldType.boolean), Jvm.Cond.code ({ cls := "java/util/UUID", name := "fromString", desc := "(Ljava/lang/String;)Ljava/util/UUID;" } : Jvm.MethodName) jdk_2758_method_6_code (21 : Nat) (Option.some (Jvm.ClassFile.FieldType.object "java/util/UUID")), Jvm.Cond.code ({ cls := "java/util/UUID", name := "parse4Nibbles", desc := "(Ljava/lang/String;I)J" } : Jvm.MethodName) jdk_2758_method_5_code (7 : Nat) (Option.some Jvm.ClassFile.FieldType.long), Jvm.Cond.code ({ cls := "java/util/UUID", name := "<init>", desc := "(JJ)V" } : Jvm.MethodName) jdk_2758_method_2_code (5 : Nat) (Option.none : Option Jvm.ClassFile.FieldType), Jvm.Cond.code ({ cls := "java/util/UUID", name := "getMostSignificantBits", desc := "()J" } : Jvm.MethodName) jdk_2758_method_9_code (1 : Nat) (Option.some Jvm.ClassFile.FieldType.long), Jvm.Cond.code ({ cls := "java/util/UUID", name := "getLeastSignificantBits", desc := "()J" } : Jvm.MethodName) jdk_2758_method_8_code (1 : Nat) (Option.some Jvm.ClassFile.FieldType.long)]
set_option maxRecDepth 65536 in
theorem codes_eq : words1.filter isCode = codes1 := rfl
theorem w_codes : ∀ c ∈ words1.filter isCode, c.before args0 about1 = true := by
  rw [codes_eq]
  intro c hc
  simp only [codes1, List.mem_cons, List.not_mem_nil, or_false] at hc
  rcases hc with rfl | rfl | rfl | rfl | rfl | rfl | rfl | rfl | rfl | rfl | rfl | rfl | rfl | rfl | rfl | rfl | rfl | rfl | rfl | rfl | rfl | rfl | rfl
  · exact w_c0
  · exact w_c1
  · exact w_c2
  · exact w_c3
  · exact w_c4
  · exact w_c5
  · exact w_c6
  · exact w_c7
  · exact w_c8
  · exact w_c9
  · exact w_c10
  · exact w_c11
  · exact w_c12
  · exact w_c13
  · exact w_c14
  · exact w_c15
  · exact w_c16
  · exact w_c17
  · exact w_c18
  · exact w_c19
  · exact w_c20
  · exact w_c21
  · exact w_c22
set_option maxRecDepth 65536 in
theorem w_t1 : (words1.take 24).all (fun c => isCode c || c.before args0 about1) = true := by decide +kernel
set_option maxRecDepth 65536 in
theorem w_t2 : ((words1.drop 24).take 24).all (fun c => isCode c || c.before args0 about1) = true := by decide +kernel
set_option maxRecDepth 65536 in
theorem w_t3 : (((words1.drop 24).drop 24).take 24).all (fun c => isCode c || c.before args0 about1) = true := by decide +kernel
set_option maxRecDepth 65536 in
theorem w_t4 : ((((words1.drop 24).drop 24).drop 24).take 24).all (fun c => isCode c || c.before args0 about1) = true := by decide +kernel
set_option maxRecDepth 65536 in
theorem w_t5 : ((((words1.drop 24).drop 24).drop 24).drop 24).all (fun c => isCode c || c.before args0 about1) = true := by decide +kernel
theorem w_tables : (allAtoms (Jvm.Cond.code x code maxLocals ret :: tables_1)).before args0 about1 = true := by
  rw [allAtoms_all]
  show words1.all (fun c => c.before args0 about1) = true
  refine all_split ?_ w_codes
  rw [← List.take_append_drop 24 words1, List.all_append, w_t1, ← List.take_append_drop 24 (words1.drop 24), List.all_append, w_t2, ← List.take_append_drop 24 ((words1.drop 24).drop 24), List.all_append, w_t3, ← List.take_append_drop 24 (((words1.drop 24).drop 24).drop 24), List.all_append, w_t4, w_t5]
  rfl
set_option maxRecDepth 65536 in
theorem w_rest : rest_1_c.before args0 about1 = true := by decide +kernel
set_option maxRecDepth 65536 in
theorem w_case : (Jvm.Cond.and given_1 narrow_1).before args0 about1 = true := by decide +kernel
theorem w_applies : (headSpec (Jvm.Cond.code x code maxLocals ret :: tables_1) room_1).applies x e0.platform about1 = true :=
  (Spec.applies_iff w_frames).mpr ⟨w_running, w_runnable, w_alone, w_named, w_hears, w_ripe, w_room, w_tables⟩
theorem atStart : AtStart classFile x code maxLocals ret World_1 tables_1 room_1 Calls_1 rest_1 Pre_1 launch0 p0 e0 about1 theMethod args0 below0 :=
  ⟨lists_1, trivial, launch0.admits_env _ _ _, launch0.least_env, fairChoices_fair.cas, fairChoices_fair.clock, w_frames, w_args, w_heap, w_applies, trivial, w_rest, w_case⟩
end start1
theorem witness_1 : WitnessClaimed_1 := ⟨start1.p0, start1.e0, start1.about1, start1.theMethod, start1.args0, start1.below0, start1.atStart⟩
end Jvm.Pilot.@@N@@
